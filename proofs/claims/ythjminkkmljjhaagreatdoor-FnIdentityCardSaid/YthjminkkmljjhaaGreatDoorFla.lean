/- The ladder of x25519. Conditions: three blocks of 32 bytes; feOne points at the element one. (Printed by wip/genla.py.) -/
import Derived.Test.YthjminkkmljjhaaGreatDoorFby
import Derived.Deep.RegionLaw
namespace Go.Proofs.YthjminkkmljjhaaGreatDoor
open Go.RowKit

theorem Lad.more0 {w : World} {B : Nat} {l : List (Option Nat)} (h : Lad w B l) (hB : w.heap.size = B + l.length) : Lad (w.alloc objE) B (l ++ [some 0]) ∧ (w.alloc objE).heap.size = B + (l ++ [some 0]).length := by
  refine ⟨?_, by simp [hB]; omega⟩
  intro i hi
  by_cases hl : i < l.length
  · rw [List.getElem_append_left hl]; exact (h i hl).below (below_alloc _ _)
  · have : i = l.length := by simp at hi; omega
    subst this
    rw [List.getElem_append_right (Nat.le_refl _)]
    have e : [some 0][l.length - l.length]'(by simp) = (some 0 : Option Nat) := by simp
    rw [e, ← hB]
    exact ⟨⟨0, 0, 0, 0, 0⟩, heap_alloc_new w _, ⟨by decide, by decide, by decide, by decide, by decide⟩, by decide⟩
theorem sl_und : Tryz.prog.underlying 38 = some (.slice 5) := by kernel_rfl
theorem u8_size : (Tryz.prog.info? 5).map (·.size) = some 1 := by kernel_rfl
theorem step_copy32 {ops : Array Oper} {o : Oper} {a : Act} {w : World} {K : Act → World → Prop} {Q : Exit → Act → World → Prop} {E : Prop} (hgd : o.guard = none) (d s : Operand)
    (ho : o.op = .call { callee := .builtin .copy, args := #[d, s], argTypes := #[38, 38] })
    (g b : Nat) (old l : List UInt8) (hold : old.length = 32) (hl : l.length = 32) (hd : a.eval d = .slice (some ⟨g, 0, none⟩) 32 32) (hs : a.eval s = .slice (some ⟨b, 0, none⟩) 32 32) (hg : BAt w g old) (hat : BAt w b l)
    (h : ∀ w', BAt w' g l → w.grownBy w' (some g) → K (a.put o.dst (goInt 32)) w') :
    if Region.wanted o (yielded ops a.tmps) = true then Oper.wp Tryz.prog o a w K Q else E := by
  have hw : Region.wanted o (yielded ops a.tmps) = true := by simp [Region.wanted, hgd]
  rw [if_pos hw]
  have hlu : (u8s l).length = 32 := by simp [hl]
  have hrun := run_copy_cells (P := Tryz.prog) w 38 38 o.type 5 g 0 32 32 ⟨b, 0, none⟩ 32 32 (u8s l) sl_und u8_size (by rw [hlu]; rfl)
    (fun j v hj => by
      obtain ⟨hlt, rfl⟩ := List.getElem?_eq_some_iff.1 hj
      rw [Addr.add_mid, Nat.zero_add]; exact hat.cell j hlt)
    (fun j hj => by rw [Nat.zero_add, hg.cell j (by simp at hj ⊢; omega)]; rfl) (fun j hj => by rw [Nat.zero_add]; exact hg.fr j) (u8s_oneCell l)
  have h1 := arr_setCells (u8s l) 0 w _ hg (by simp; omega)
  simp only [List.take_zero, List.nil_append, Nat.zero_add] at h1
  rw [List.drop_of_length_le (by simp; omega), List.append_nil] at h1
  have h2 := h _ h1 (grown_setCells (u8s l) 0 w w (World.grownBy.refl _ _))
  rw [hlu] at hrun
  unfold Oper.wp
  simp [execOp, ho, resolve, invoke, builtin, hd, hs, hrun, Result.andThen]
  exact h2
theorem u8_toNat_of (a : Nat) (h : a < 256) : (UInt8.ofNat a).toNat = a := by rw [UInt8.toNat_ofNat', Nat.mod_eq_of_lt h]
theorem swp_x2 (b : Nat) (s : LS) : (swp b s).x2 = if b = 1 then s.x3 else s.x2 := by unfold swp; split <;> rfl
theorem swp_z2 (b : Nat) (s : LS) : (swp b s).z2 = if b = 1 then s.z3 else s.z2 := by unfold swp; split <;> rfl
theorem swp_x3 (b : Nat) (s : LS) : (swp b s).x3 = if b = 1 then s.x2 else s.x3 := by unfold swp; split <;> rfl
theorem swp_z3 (b : Nat) (s : LS) : (swp b s).z3 = if b = 1 then s.z2 else s.z3 := by unfold swp; split <;> rfl
theorem below_two {w w1 w2 : World} {B v u : Nat} (hb : Below B w w1) (hg : Grown2 w1 w2 v u) (hv : B ≤ v) (hu : B ≤ u) (hs : B ≤ w1.heap.size) : Below B w w2 :=
  ⟨hg.os.trans hb.os, hg.tape.trans hb.tape, hg.output.trans hb.output, Nat.le_trans hb.size hg.size, fun k hk => (hg.block k (Nat.lt_of_lt_of_le hk hs) (by omega) (by omega)).trans (hb.block k hk)⟩
theorem Arr.kept2 {w w' : World} {g v u : Nat} {t : TypeId} {vs : List Value} (h : Arr w g t vs) (hg : Grown2 w w' v u) (h1 : g ≠ v) (h2 : g ≠ u) : Arr w' g t vs := (hg.block g h.lt h1 h2).trans h
theorem i64_and7 (i : Nat) (hi : i < 256) : bits .and .i64 (i : Int) 7 = ((i % 8 : Nat) : Int) := by
  rw [show (7 : Int) = ((7 : Nat) : Int) from rfl, i64_and_nat i 7 (by omega) (by decide), Nat.and_two_pow_sub_one_eq_mod i 3]
theorem u8_and1 (a : Nat) (ha : a < 256) : bits .and .u8 (a : Int) 1 = ((a % 2 : Nat) : Int) := by
  have h := List.all_eq_true.1 (by kernel_rfl : ((List.range 256).all fun a => bits .and .u8 ((a : Nat) : Int) 1 == ((a % 2 : Nat) : Int)) = true) a (List.mem_range.2 ha)
  simpa using h

set_option maxRecDepth 100000 in
set_option maxHeartbeats 4000000 in
theorem ladder_any (w : World) (gd gs gp : Nat) (old sec pt : List UInt8) (lo : old.length = 32) (ls : sec.length = 32) (lp : pt.length = 32) (hd : BAt w gd old) (hs : BAt w gs sec) (hp : BAt w gp pt) (h1 : FeOne w) (u : Nat) (hu : u = numB pt % 57896044618658097711785492504343953926634992332820282019728792003956564819968 % pp) :
    Calls Tryz.prog 64 #[.slice (some ⟨gd, 0, none⟩) 32 32, .slice (some ⟨gs, 0, none⟩) 32 32, .slice (some ⟨gp, 0, none⟩) 32 32] w fun e w' => e = .returned (.tuple #[]) ∧ BAt w' gd (leB (ladR u (numB (clampL sec)))) ∧ w.grownBy w' (some gd) := by
  have HU := Lib.hid hu
  clear hu
  obtain ⟨K, hK⟩ : ∃ K, K = numB (clampL sec) := ⟨_, rfl⟩
  rw [← hK]
  have HK := Lib.hid hK
  clear hK
  have hld := hd.lt
  have hls := hs.lt
  have hlp := hp.lt
  have hE : BAt (w.alloc (objB zerosB)) w.heap.size zerosB := arr_new w _ _
  have hb := below_alloc w (objB zerosB)
  have hs1 := hs.below hb
  have hH1 := Lib.hid h1
  clear h1
  go_enter Tryz.func64, Tryz.ntmps64
  go_wp2_with fail
  show Code.wp _ _ _ _ (w.alloc (objB zerosB))
  have hs2 : BAt (w.alloc (objB zerosB)).drew gs sec := hs1
  have hE2 : BAt (w.alloc (objB zerosB)).drew w.heap.size zerosB := hE
  go_region_law (refine step_copy32 rfl (.tmp 17) (.tmp 19) rfl w.heap.size gs zerosB sec rfl ls rfl rfl hE2 hs2 ?_; intro w1 hE3 hg3)
  have hb3 : Below w.heap.size w w1 := bkept (show Below w.heap.size w (w.alloc (objB zerosB)).drew from ⟨hb.os, hb.tape, hb.output, hb.size, hb.block⟩) hg3 (Nat.le_refl _) hb.size
  have c0 := hE3.cell 0 (by simp; omega)
  have c31 := hE3.cell 31 (by simp; omega)
  rw [u8s_get] at c0 c31
  have f0 := hE3.fr 0
  have f31 := hE3.fr 31
  have h0 := (clamp_bits (sec[0]'(by omega)).toNat (UInt8.toNat_lt _)).2.1
  have h31 := (clamp_bits (sec[31]'(by omega)).toNat (UInt8.toNat_lt _)).2.2
  have g0 : sec.getD 0 0 = sec[0]'(by omega) := by simp [List.getD, List.getElem?_eq_getElem (show 0 < sec.length from by omega)]
  have g31 : sec.getD 31 0 = sec[31]'(by omega) := by simp [List.getD, List.getElem?_eq_getElem (show 31 < sec.length from by omega)]
  have x0 : (sec[0]'(by omega)).toNat < 256 := UInt8.toNat_lt _
  have x31 : (sec[31]'(by omega)).toNat < 256 := UInt8.toNat_lt _
  have hst : BAt (((w1.setCell ⟨w.heap.size, 0, none⟩ (.int .u8 (((sec[0]'(by omega)).toNat / 8 * 8 : Nat) : Int))).setCell ⟨w.heap.size, 31, none⟩ (.int .u8 (((sec[31]'(by omega)).toNat % 128 : Nat) : Int))).setCell ⟨w.heap.size, 31, none⟩ (.int .u8 (((sec[31]'(by omega)).toNat % 64 + 64 : Nat) : Int))) w.heap.size (clampL sec) := by
    have h1 := b_set (b_set (b_set hE3 0 (UInt8.ofNat ((sec.getD 0 0).toNat / 8 * 8)) (by omega)) 31 (UInt8.ofNat ((sec.getD 31 0).toNat % 128)) (by simp; omega)) 31 (UInt8.ofNat ((sec.getD 31 0).toNat % 64 + 64)) (by simp; omega)
    rw [List.set_set, g0, g31, u8_toNat_of ((sec[0]'(by omega)).toNat / 8 * 8) (by clear h31; omega), u8_toNat_of ((sec[31]'(by omega)).toNat % 128) (by clear h31; omega), u8_toNat_of ((sec[31]'(by omega)).toNat % 64 + 64) (by clear h31; omega)] at h1
    unfold clampL
    rw [g0, g31]
    exact h1
  have HST := Lib.hid hst
  have hsz1 : w.heap.size < w1.heap.size := hE3.lt
  clear hst g0 g31 hE hs1 hs2 hE2 hE3 hg3 hb
  generalize (sec[0]'(by omega)).toNat = y0 at *
  generalize (sec[31]'(by omega)).toNat = y31 at *
  obtain ⟨b3, b4⟩ := h31
  obtain ⟨p, hp0⟩ : ∃ p, p = y0 / 8 * 8 := ⟨_, rfl⟩
  obtain ⟨q, hq0⟩ : ∃ q, q = y31 % 128 := ⟨_, rfl⟩
  obtain ⟨r, hr0⟩ : ∃ r, r = y31 % 64 + 64 := ⟨_, rfl⟩
  rw [← hp0] at h0 HST
  rw [← hq0] at b3 b4 HST
  rw [← hr0] at b4 HST
  clear hp0 hq0 hr0 x0 x31
  have hb5 : Below w.heap.size w (((w1.setCell ⟨w.heap.size, 0, none⟩ (.int .u8 (p : Int))).setCell ⟨w.heap.size, 31, none⟩ (.int .u8 (q : Int))).setCell ⟨w.heap.size, 31, none⟩ (.int .u8 (r : Int))) := ((hb3.setCell (Nat.le_refl _) _).setCell (Nat.le_refl _) _).setCell (Nat.le_refl _) _
  have hsz5 : w.heap.size < (((w1.setCell ⟨w.heap.size, 0, none⟩ (.int .u8 (p : Int))).setCell ⟨w.heap.size, 31, none⟩ (.int .u8 (q : Int))).setCell ⟨w.heap.size, 31, none⟩ (.int .u8 (r : Int))).heap.size := by simpa [World.setCell] using hsz1
  have HB5 := Lib.hid hb5
  have HS5 := Lib.hid hsz5
  clear hb5 hb3 hsz5 hsz1
  go_upto_region 5 with fail
  clear c0 c31 f0 f31 h0 b3 b4
  have hE := HST.out
  have hb := HB5.out
  have hsz := HS5.out
  clear HST HB5 HS5
  try show Code.wp _ _ _ _ (((w1.setCell ⟨w.heap.size, 0, none⟩ (.int .u8 (p : Int))).setCell ⟨w.heap.size, 31, none⟩ (.int .u8 (q : Int))).setCell ⟨w.heap.size, 31, none⟩ (.int .u8 (r : Int)))
  generalize ((w1.setCell ⟨w.heap.size, 0, none⟩ (.int .u8 (p : Int))).setCell ⟨w.heap.size, 31, none⟩ (.int .u8 (q : Int))).setCell ⟨w.heap.size, 31, none⟩ (.int .u8 (r : Int)) = w2 at *
  have a1 := Lad.more0 (Lad.nil w2 w2.heap.size) (by simp)
  have a2 := Lad.more0 a1.1 a1.2
  have a3 := Lad.more0 a2.1 a2.2
  have a4 := Lad.more0 a3.1 a3.2
  have a5 := Lad.more0 a4.1 a4.2
  have a6 := Lad.more0 a5.1 a5.2
  have a7 := Lad.more0 a6.1 a6.2
  obtain ⟨hL, _⟩ := a7
  obtain ⟨w3, hw3⟩ : ∃ x, x = (((((((w2.alloc objE).alloc objE).alloc objE).alloc objE).alloc objE).alloc objE).alloc objE) := ⟨_, rfl⟩
  have k23 : Below w2.heap.size w2 w3 := by
    rw [hw3]
    exact Below.alloc (Below.alloc (Below.alloc (Below.alloc (Below.alloc (Below.alloc (below_alloc _ _) (below_alloc _ _).size _) (by simp; omega) _) (by simp; omega) _) (by simp; omega) _) (by simp; omega) _) (by simp; omega) _
  rw [← hw3] at hL
  have hL : Lad w3 w2.heap.size [some 0, some 0, some 0, some 0, some 0, some 0, some 0] := hL
  have hE := hE.below k23
  have hb := hb.trans (k23.mono hb.size)
  clear a1 a2 a3 a4 a5 a6 k23
  go_upto_region 6 with fail
  show Code.wp _ _ _ _ (((((((w2.alloc objE).alloc objE).alloc objE).alloc objE).alloc objE).alloc objE).alloc objE)
  rw [← hw3]
  clear hw3
  go_wp2_with fail
  refine (setBytes_M _ (w2.heap.size + 0) gp pt lp (hL.b 0 (by simp)) ((hb.block gp hlp).trans hp) (by omega)).mono ?_
  rintro e w10 ⟨rfl, h1, g1⟩
  rw [← HU.out] at h1
  have hL : Lad w10 w2.heap.size [some (u), some (0), some (0), some (0), some (0), some (0), some (0)] := hL.step 0 _ h1 g1
  have hE := hE.kept g1 (by omega)
  have hb := bkept hb g1 (by omega) hb.size
  clear h1 g1
  go_wp2_with fail
  refine (one_M _ (w2.heap.size + 1) (hL.b 1 (by simp)) (hH1.out.below hb)).mono ?_
  rintro e w11 ⟨rfl, h1, g1⟩
  have hL : Lad w11 w2.heap.size [some (u), some (1), some (0), some (0), some (0), some (0), some (0)] := hL.step 1 _ h1 g1
  have hE := hE.kept g1 (by omega)
  have hb := bkept hb g1 (by omega) hb.size
  clear h1 g1
  go_wp2_with fail
  refine (set_M _ (w2.heap.size + 3) (w2.heap.size + 0) u (hL.b 3 (by simp)) (hL.m 0 _ rfl)).mono ?_
  rintro e w12 ⟨rfl, h1, g1⟩
  have hL : Lad w12 w2.heap.size [some (u), some (1), some (0), some (u), some (0), some (0), some (0)] := hL.step 3 _ h1 g1
  have hE := hE.kept g1 (by omega)
  have hb := bkept hb g1 (by omega) hb.size
  clear h1 g1
  go_wp2_with fail
  refine (one_M _ (w2.heap.size + 4) (hL.b 4 (by simp)) (hH1.out.below hb)).mono ?_
  rintro e w13 ⟨rfl, h1, g1⟩
  have hL : Lad w13 w2.heap.size [some (u), some (1), some (0), some (u), some (1), some (0), some (0)] := hL.step 4 _ h1 g1
  have hE := hE.kept g1 (by omega)
  have hb := bkept hb g1 (by omega) hb.size
  clear h1 g1
  go_wp2_with fail
  go_loopw [14, 15] (fun sv iv wr => ∃ (n : Nat) (z : Int) (a b : Nat), n ≤ 255 ∧ z = 254 - (n : Int) ∧ iv = .int .i64 z ∧ sv = .int .i64 (lastB K n : Int) ∧ Lad wr w2.heap.size [some u, some (ladS u K n).x2, some (ladS u K n).z2, some (ladS u K n).x3, some (ladS u K n).z3, some a, some b] ∧ BAt wr w.heap.size (clampL sec) ∧ Below w.heap.size w wr) (fun _ iv _ => (intOf iv + 1).toNat)
  case atStart => exact ⟨0, 254, 0, 0, Nat.zero_le _, rfl, rfl, rfl, hL, hE, hb⟩
  case round =>
    clear hL hE hb
    obtain ⟨n, z, ta, tb, hn, hz, rfl, rfl, hL, hE, hb⟩ := hrel
    by_cases hlt : n < 255
    · obtain ⟨i, hi⟩ : ∃ i : Nat, i = 254 - n := ⟨_, rfl⟩
      obtain rfl : z = (i : Int) := by omega
      have hi2 : i < 256 := by omega
      have hcl : (clampL sec).length = 32 := by simp [ls]
      have hlb := lastB_lt K n
      have hlS : lastB K (n + 1) = bitN K i := by rw [lastB_succ, hi]
      have hladS : ladS u K (n + 1) = dbl u (swp (bitN K i ^^^ lastB K n) (ladS u K n)) := by rw [hi]; rfl
      have hbt := bitN_lt K i
      have hbyte := bitN_byte (clampL sec) i (by omega)
      rw [← HK.out] at hbyte
      have cE := hE.cell (i / 8) (by simp; omega)
      rw [u8s_get] at cE
      have y256 : ((clampL sec)[i / 8]'(by omega)).toNat < 256 := UInt8.toNat_lt _
      have him : (i : Int) - 1 = 254 - ((n + 1 : Nat) : Int) := by omega
      generalize ((clampL sec)[i / 8]'(by omega)).toNat = y at *
      obtain ⟨d8, hd8⟩ : ∃ d, d = i / 8 := ⟨_, rfl⟩
      obtain ⟨r8, hr8⟩ : ∃ r, r = i % 8 := ⟨_, rfl⟩
      have e1 : (i : Int) / 8 = (d8 : Int) := by omega
      have e2 := i64_and7 i hi2
      rw [← hr8] at e2 hbyte
      rw [← hd8] at cE
      have i0 : (0 : Int) ≤ (d8 : Int) := by omega
      have i1 : (d8 : Int) < 32 := by omega
      have i2 : (0 : Int) ≤ (i : Int) := by omega
      have i3 : (r8 : Int) < 18446744073709551616 := by omega
      have e3 : IntKind.u64.wrap (r8 : Int) = (r8 : Int) := IntWalk.u64_in _ (by omega)
      have hy2 : y / 2 ^ r8 < 256 := Nat.lt_of_le_of_lt (Nat.div_le_self _ _) y256
      have e4 : bits .and .u8 ((y : Int) / (2:Int) ^ r8) 1 = (bitN K i : Int) := by
        rw [show (y : Int) / (2:Int) ^ r8 = ((y / 2 ^ r8 : Nat) : Int) from by simp, u8_and1 _ hy2, hbyte]
      obtain ⟨bt, hbt2⟩ : ∃ b, b = bitN K i := ⟨_, rfl⟩
      rw [← hbt2] at hlS hladS hbt e4
      have e5 : IntKind.i64.wrap (bt : Int) = (bt : Int) := IntWalk.i64_in _ (by omega)
      have e7 : wrap64 (bt : Int) = (bt : Int) := by clear e1 e2 e3 e4 cE him; unfold wrap64; omega
      have hmin : min r8 8 = r8 := by omega
      have hladS2 : ladS u K (n + 1) = dbl u (swp (lastB K n ^^^ bt) (ladS u K n)) := by rw [hladS, Nat.xor_comm]
      clear hz hi hbyte hd8 hr8 hbt2 hladS hy2 y256
      have HLS := Lib.hid hladS2
      have hlS2 := Lib.hid hlS
      clear hladS2 hlS
      generalize ladS u K n = s at *
      generalize lastB K n = lb at *
      have e6 : bits .xor .i64 (lb : Int) (bt : Int) = ((lb ^^^ bt : Nat) : Int) := i64_xor_nat lb bt (Nat.lt_trans hlb (by decide)) (Nat.lt_trans hbt (by decide))
      have hxl : lb ^^^ bt < 2 := Nat.xor_lt_two_pow (n := 1) hlb hbt
      obtain ⟨c, hc⟩ : ∃ c, c = lb ^^^ bt := ⟨_, rfl⟩
      rw [← hc] at e6 hxl HLS
      clear hc
      obtain ⟨q, hq⟩ : ∃ q, q = swp c s := ⟨_, rfl⟩
      rw [← hq] at HLS
      have k1 := swp_x2 c s
      have k2 := swp_z2 c s
      have k3 := swp_x3 c s
      have k4 := swp_z3 c s
      rw [← hq] at k1 k2 k3 k4
      clear hq
      have K1 := Lib.hid k1
      have K2 := Lib.hid k2
      have K3 := Lib.hid k3
      have K4 := Lib.hid k4
      clear k1 k2 k3 k4
      go_wp2_with fail
      refine (swap_M _ (w2.heap.size + 1) (w2.heap.size + 3) (s.x2) (s.x3) c hxl (by omega) (hL.m 1 _ rfl) (hL.m 3 _ rfl)).mono ?_
      rintro e w14 ⟨rfl, h1, h2, g2⟩
      rw [← K1.out] at h1
      rw [← K3.out] at h2
      have hL : Lad w14 w2.heap.size [some (u), some (q.x2), some (s.z2), some (q.x3), some (s.z3), some (ta), some (tb)] := hL.step2 1 3 _ _ (by decide) h1 h2 g2
      have hE := hE.kept2 g2 (by omega) (by omega)
      have hb := below_two hb g2 (by omega) (by omega) hb.size
      clear h1 h2 g2
      go_wp2_with fail
      refine (swap_M _ (w2.heap.size + 2) (w2.heap.size + 4) (s.z2) (s.z3) c hxl (by omega) (hL.m 2 _ rfl) (hL.m 4 _ rfl)).mono ?_
      rintro e w15 ⟨rfl, h1, h2, g2⟩
      rw [← K2.out] at h1
      rw [← K4.out] at h2
      have hL : Lad w15 w2.heap.size [some (u), some (q.x2), some (q.z2), some (q.x3), some (q.z3), some (ta), some (tb)] := hL.step2 2 4 _ _ (by decide) h1 h2 g2
      have hE := hE.kept2 g2 (by omega) (by omega)
      have hb := below_two hb g2 (by omega) (by omega) hb.size
      clear h1 h2 g2
      go_wp2_with fail
      refine (sub_M _ (w2.heap.size + 5) (w2.heap.size + 3) (w2.heap.size + 4) (q.x3) (q.z3) (hL.b 5 (by simp)) (hL.m 3 _ rfl) (hL.m 4 _ rfl)).mono ?_
      rintro e w16 ⟨rfl, h1, g1⟩
      obtain ⟨D1, e_D1⟩ : ∃ x, x = subm (q.x3) (q.z3) := ⟨_, rfl⟩
      rw [← e_D1] at h1
      have HD1 := Lib.hid e_D1
      have hL : Lad w16 w2.heap.size [some (u), some (q.x2), some (q.z2), some (q.x3), some (q.z3), some (D1), some (tb)] := hL.step 5 _ h1 g1
      have hE := hE.kept g1 (by omega)
      have hb := bkept hb g1 (by omega) hb.size
      clear h1 g1 e_D1
      go_wp2_with fail
      refine (sub_M _ (w2.heap.size + 6) (w2.heap.size + 1) (w2.heap.size + 2) (q.x2) (q.z2) (hL.b 6 (by simp)) (hL.m 1 _ rfl) (hL.m 2 _ rfl)).mono ?_
      rintro e w17 ⟨rfl, h1, g1⟩
      obtain ⟨C, e_C⟩ : ∃ x, x = subm (q.x2) (q.z2) := ⟨_, rfl⟩
      rw [← e_C] at h1
      have HC := Lib.hid e_C
      have hL : Lad w17 w2.heap.size [some (u), some (q.x2), some (q.z2), some (q.x3), some (q.z3), some (D1), some (C)] := hL.step 6 _ h1 g1
      have hE := hE.kept g1 (by omega)
      have hb := bkept hb g1 (by omega) hb.size
      clear h1 g1 e_C
      go_wp2_with fail
      refine (add_M _ (w2.heap.size + 1) (w2.heap.size + 1) (w2.heap.size + 2) (q.x2) (q.z2) (hL.b 1 (by simp)) (hL.m 1 _ rfl) (hL.m 2 _ rfl)).mono ?_
      rintro e w18 ⟨rfl, h1, g1⟩
      obtain ⟨A, e_A⟩ : ∃ x, x = addm (q.x2) (q.z2) := ⟨_, rfl⟩
      rw [← e_A] at h1
      have HA := Lib.hid e_A
      have hL : Lad w18 w2.heap.size [some (u), some (A), some (q.z2), some (q.x3), some (q.z3), some (D1), some (C)] := hL.step 1 _ h1 g1
      have hE := hE.kept g1 (by omega)
      have hb := bkept hb g1 (by omega) hb.size
      clear h1 g1 e_A
      go_wp2_with fail
      refine (add_M _ (w2.heap.size + 2) (w2.heap.size + 3) (w2.heap.size + 4) (q.x3) (q.z3) (hL.b 2 (by simp)) (hL.m 3 _ rfl) (hL.m 4 _ rfl)).mono ?_
      rintro e w19 ⟨rfl, h1, g1⟩
      obtain ⟨D2, e_D2⟩ : ∃ x, x = addm (q.x3) (q.z3) := ⟨_, rfl⟩
      rw [← e_D2] at h1
      have HD2 := Lib.hid e_D2
      have hL : Lad w19 w2.heap.size [some (u), some (A), some (D2), some (q.x3), some (q.z3), some (D1), some (C)] := hL.step 2 _ h1 g1
      have hE := hE.kept g1 (by omega)
      have hb := bkept hb g1 (by omega) hb.size
      clear h1 g1 e_D2
      go_wp2_with fail
      refine (mul_M _ (w2.heap.size + 4) (w2.heap.size + 5) (w2.heap.size + 1) (D1) (A) (hL.b 4 (by simp)) (hL.m 5 _ rfl) (hL.m 1 _ rfl)).mono ?_
      rintro e w20 ⟨rfl, h1, g1⟩
      obtain ⟨DA, e_DA⟩ : ∃ x, x = mulm (D1) (A) := ⟨_, rfl⟩
      rw [← e_DA] at h1
      have HDA := Lib.hid e_DA
      have hL : Lad w20 w2.heap.size [some (u), some (A), some (D2), some (q.x3), some (DA), some (D1), some (C)] := hL.step 4 _ h1 g1
      have hE := hE.kept g1 (by omega)
      have hb := bkept hb g1 (by omega) hb.size
      clear h1 g1 e_DA
      go_wp2_with fail
      refine (mul_M _ (w2.heap.size + 2) (w2.heap.size + 2) (w2.heap.size + 6) (D2) (C) (hL.b 2 (by simp)) (hL.m 2 _ rfl) (hL.m 6 _ rfl)).mono ?_
      rintro e w21 ⟨rfl, h1, g1⟩
      obtain ⟨CB, e_CB⟩ : ∃ x, x = mulm (D2) (C) := ⟨_, rfl⟩
      rw [← e_CB] at h1
      have HCB := Lib.hid e_CB
      have hL : Lad w21 w2.heap.size [some (u), some (A), some (CB), some (q.x3), some (DA), some (D1), some (C)] := hL.step 2 _ h1 g1
      have hE := hE.kept g1 (by omega)
      have hb := bkept hb g1 (by omega) hb.size
      clear h1 g1 e_CB
      go_wp2_with fail
      refine (sq_M _ (w2.heap.size + 5) (w2.heap.size + 6) (C) (hL.b 5 (by simp)) (hL.m 6 _ rfl)).mono ?_
      rintro e w22 ⟨rfl, h1, g1⟩
      obtain ⟨BBq, e_BBq⟩ : ∃ x, x = mulm (C) (C) := ⟨_, rfl⟩
      rw [← e_BBq] at h1
      have HBBq := Lib.hid e_BBq
      have hL : Lad w22 w2.heap.size [some (u), some (A), some (CB), some (q.x3), some (DA), some (BBq), some (C)] := hL.step 5 _ h1 g1
      have hE := hE.kept g1 (by omega)
      have hb := bkept hb g1 (by omega) hb.size
      clear h1 g1 e_BBq
      go_wp2_with fail
      refine (sq_M _ (w2.heap.size + 6) (w2.heap.size + 1) (A) (hL.b 6 (by simp)) (hL.m 1 _ rfl)).mono ?_
      rintro e w23 ⟨rfl, h1, g1⟩
      obtain ⟨AA, e_AA⟩ : ∃ x, x = mulm (A) (A) := ⟨_, rfl⟩
      rw [← e_AA] at h1
      have HAA := Lib.hid e_AA
      have hL : Lad w23 w2.heap.size [some (u), some (A), some (CB), some (q.x3), some (DA), some (BBq), some (AA)] := hL.step 6 _ h1 g1
      have hE := hE.kept g1 (by omega)
      have hb := bkept hb g1 (by omega) hb.size
      clear h1 g1 e_AA
      go_wp2_with fail
      refine (add_M _ (w2.heap.size + 3) (w2.heap.size + 4) (w2.heap.size + 2) (DA) (CB) (hL.b 3 (by simp)) (hL.m 4 _ rfl) (hL.m 2 _ rfl)).mono ?_
      rintro e w24 ⟨rfl, h1, g1⟩
      obtain ⟨X, e_X⟩ : ∃ x, x = addm (DA) (CB) := ⟨_, rfl⟩
      rw [← e_X] at h1
      have HX := Lib.hid e_X
      have hL : Lad w24 w2.heap.size [some (u), some (A), some (CB), some (X), some (DA), some (BBq), some (AA)] := hL.step 3 _ h1 g1
      have hE := hE.kept g1 (by omega)
      have hb := bkept hb g1 (by omega) hb.size
      clear h1 g1 e_X
      go_wp2_with fail
      refine (sub_M _ (w2.heap.size + 2) (w2.heap.size + 4) (w2.heap.size + 2) (DA) (CB) (hL.b 2 (by simp)) (hL.m 4 _ rfl) (hL.m 2 _ rfl)).mono ?_
      rintro e w25 ⟨rfl, h1, g1⟩
      obtain ⟨Y, e_Y⟩ : ∃ x, x = subm (DA) (CB) := ⟨_, rfl⟩
      rw [← e_Y] at h1
      have HY := Lib.hid e_Y
      have hL : Lad w25 w2.heap.size [some (u), some (A), some (Y), some (X), some (DA), some (BBq), some (AA)] := hL.step 2 _ h1 g1
      have hE := hE.kept g1 (by omega)
      have hb := bkept hb g1 (by omega) hb.size
      clear h1 g1 e_Y
      go_wp2_with fail
      refine (mul_M _ (w2.heap.size + 1) (w2.heap.size + 6) (w2.heap.size + 5) (AA) (BBq) (hL.b 1 (by simp)) (hL.m 6 _ rfl) (hL.m 5 _ rfl)).mono ?_
      rintro e w26 ⟨rfl, h1, g1⟩
      obtain ⟨AB, e_AB⟩ : ∃ x, x = mulm (AA) (BBq) := ⟨_, rfl⟩
      rw [← e_AB] at h1
      have HAB := Lib.hid e_AB
      have hL : Lad w26 w2.heap.size [some (u), some (AB), some (Y), some (X), some (DA), some (BBq), some (AA)] := hL.step 1 _ h1 g1
      have hE := hE.kept g1 (by omega)
      have hb := bkept hb g1 (by omega) hb.size
      clear h1 g1 e_AB
      go_wp2_with fail
      refine (sub_M _ (w2.heap.size + 6) (w2.heap.size + 6) (w2.heap.size + 5) (AA) (BBq) (hL.b 6 (by simp)) (hL.m 6 _ rfl) (hL.m 5 _ rfl)).mono ?_
      rintro e w27 ⟨rfl, h1, g1⟩
      obtain ⟨E, e_E⟩ : ∃ x, x = subm (AA) (BBq) := ⟨_, rfl⟩
      rw [← e_E] at h1
      have HE := Lib.hid e_E
      have hL : Lad w27 w2.heap.size [some (u), some (AB), some (Y), some (X), some (DA), some (BBq), some (E)] := hL.step 6 _ h1 g1
      have hE := hE.kept g1 (by omega)
      have hb := bkept hb g1 (by omega) hb.size
      clear h1 g1 e_E
      go_wp2_with fail
      refine (sq_M _ (w2.heap.size + 2) (w2.heap.size + 2) (Y) (hL.b 2 (by simp)) (hL.m 2 _ rfl)).mono ?_
      rintro e w28 ⟨rfl, h1, g1⟩
      obtain ⟨YY, e_YY⟩ : ∃ x, x = mulm (Y) (Y) := ⟨_, rfl⟩
      rw [← e_YY] at h1
      have HYY := Lib.hid e_YY
      have hL : Lad w28 w2.heap.size [some (u), some (AB), some (YY), some (X), some (DA), some (BBq), some (E)] := hL.step 2 _ h1 g1
      have hE := hE.kept g1 (by omega)
      have hb := bkept hb g1 (by omega) hb.size
      clear h1 g1 e_YY
      go_wp2_with fail
      refine (mult32_M _ (w2.heap.size + 4) (w2.heap.size + 6) (E) (hL.b 4 (by simp)) (hL.m 6 _ rfl)).mono ?_
      rintro e w29 ⟨rfl, h1, g1⟩
      obtain ⟨S6, e_S6⟩ : ∃ x, x = mulm 121666 (E) := ⟨_, rfl⟩
      rw [← e_S6] at h1
      have HS6 := Lib.hid e_S6
      have hL : Lad w29 w2.heap.size [some (u), some (AB), some (YY), some (X), some (S6), some (BBq), some (E)] := hL.step 4 _ h1 g1
      have hE := hE.kept g1 (by omega)
      have hb := bkept hb g1 (by omega) hb.size
      clear h1 g1 e_S6
      go_wp2_with fail
      refine (sq_M _ (w2.heap.size + 3) (w2.heap.size + 3) (X) (hL.b 3 (by simp)) (hL.m 3 _ rfl)).mono ?_
      rintro e w30 ⟨rfl, h1, g1⟩
      obtain ⟨XX, e_XX⟩ : ∃ x, x = mulm (X) (X) := ⟨_, rfl⟩
      rw [← e_XX] at h1
      have HXX := Lib.hid e_XX
      have hL : Lad w30 w2.heap.size [some (u), some (AB), some (YY), some (XX), some (S6), some (BBq), some (E)] := hL.step 3 _ h1 g1
      have hE := hE.kept g1 (by omega)
      have hb := bkept hb g1 (by omega) hb.size
      clear h1 g1 e_XX
      go_wp2_with fail
      refine (add_M _ (w2.heap.size + 5) (w2.heap.size + 5) (w2.heap.size + 4) (BBq) (S6) (hL.b 5 (by simp)) (hL.m 5 _ rfl) (hL.m 4 _ rfl)).mono ?_
      rintro e w31 ⟨rfl, h1, g1⟩
      obtain ⟨AS, e_AS⟩ : ∃ x, x = addm (BBq) (S6) := ⟨_, rfl⟩
      rw [← e_AS] at h1
      have HAS := Lib.hid e_AS
      have hL : Lad w31 w2.heap.size [some (u), some (AB), some (YY), some (XX), some (S6), some (AS), some (E)] := hL.step 5 _ h1 g1
      have hE := hE.kept g1 (by omega)
      have hb := bkept hb g1 (by omega) hb.size
      clear h1 g1 e_AS
      go_wp2_with fail
      refine (mul_M _ (w2.heap.size + 4) (w2.heap.size + 0) (w2.heap.size + 2) (u) (YY) (hL.b 4 (by simp)) (hL.m 0 _ rfl) (hL.m 2 _ rfl)).mono ?_
      rintro e w32 ⟨rfl, h1, g1⟩
      obtain ⟨UY, e_UY⟩ : ∃ x, x = mulm (u) (YY) := ⟨_, rfl⟩
      rw [← e_UY] at h1
      have HUY := Lib.hid e_UY
      have hL : Lad w32 w2.heap.size [some (u), some (AB), some (YY), some (XX), some (UY), some (AS), some (E)] := hL.step 4 _ h1 g1
      have hE := hE.kept g1 (by omega)
      have hb := bkept hb g1 (by omega) hb.size
      clear h1 g1 e_UY
      go_wp2_with fail
      refine (mul_M _ (w2.heap.size + 2) (w2.heap.size + 6) (w2.heap.size + 5) (E) (AS) (hL.b 2 (by simp)) (hL.m 6 _ rfl) (hL.m 5 _ rfl)).mono ?_
      rintro e w33 ⟨rfl, h1, g1⟩
      obtain ⟨EA, e_EA⟩ : ∃ x, x = mulm (E) (AS) := ⟨_, rfl⟩
      rw [← e_EA] at h1
      have HEA := Lib.hid e_EA
      have hL : Lad w33 w2.heap.size [some (u), some (AB), some (EA), some (XX), some (UY), some (AS), some (E)] := hL.step 2 _ h1 g1
      have hE := hE.kept g1 (by omega)
      have hb := bkept hb g1 (by omega) hb.size
      clear h1 g1 e_EA
      have hfin : ladS u K (n + 1) = ⟨AB, EA, XX, UY⟩ := by
        rw [HLS.out]
        have h2 : AS = addm AA (mulm 121665 E) := by rw [HAS.out, HS6.out, HE.out]; exact add_two_ways AA BBq
        simp only [dbl, HAB.out, HEA.out, h2, HE.out, HXX.out, HUY.out, HYY.out, HX.out, HY.out, HDA.out, HCB.out, HD1.out, HD2.out, HAA.out, HBBq.out, HA.out, HC.out]
      have HF := Lib.hid hfin
      clear hfin
      go_wp2_with fail
      go_roundw
      case rel => exact ⟨n + 1, (i : Int) - 1, _, _, by omega, him, by go_num, (by rw [hlS2.out]), (by rw [HF.out]; exact hL), hE, hb⟩
      case measure => simp [intOf]; omega
    · obtain rfl : n = 255 := by omega
      obtain rfl : z = -1 := by omega
      clear hz hlt
      have d0 : decide ((-1 : Int) ≥ 0) = false := by decide
      have hdef : ladR u K = mulm (swp (lastB K 255) (ladS u K 255)).x2 (invm (swp (lastB K 255) (ladS u K 255)).z2) := rfl
      have HDEF := Lib.hid hdef
      have hlb := lastB_lt K 255
      clear hdef
      generalize lastB K 255 = lb at *
      generalize ladS u K 255 = s at *
      obtain ⟨q, hq⟩ : ∃ q, q = swp lb s := ⟨_, rfl⟩
      have k1 := swp_x2 lb s
      have k2 := swp_z2 lb s
      have k3 := swp_x3 lb s
      have k4 := swp_z3 lb s
      rw [← hq] at k1 k2 k3 k4 HDEF
      clear hq
      have K1 := Lib.hid k1
      have K2 := Lib.hid k2
      have K3 := Lib.hid k3
      have K4 := Lib.hid k4
      clear k1 k2 k3 k4
      go_wp2_with fail
      refine (swap_M _ (w2.heap.size + 1) (w2.heap.size + 3) (s.x2) (s.x3) lb hlb (by omega) (hL.m 1 _ rfl) (hL.m 3 _ rfl)).mono ?_
      rintro e w34 ⟨rfl, h1, h2, g2⟩
      rw [← K1.out] at h1
      rw [← K3.out] at h2
      have hL : Lad w34 w2.heap.size [some (u), some (q.x2), some (s.z2), some (q.x3), some (s.z3), some (ta), some (tb)] := hL.step2 1 3 _ _ (by decide) h1 h2 g2
      have hE := hE.kept2 g2 (by omega) (by omega)
      have hb := below_two hb g2 (by omega) (by omega) hb.size
      clear h1 h2 g2
      go_wp2_with fail
      refine (swap_M _ (w2.heap.size + 2) (w2.heap.size + 4) (s.z2) (s.z3) lb hlb (by omega) (hL.m 2 _ rfl) (hL.m 4 _ rfl)).mono ?_
      rintro e w35 ⟨rfl, h1, h2, g2⟩
      rw [← K2.out] at h1
      rw [← K4.out] at h2
      have hL : Lad w35 w2.heap.size [some (u), some (q.x2), some (q.z2), some (q.x3), some (q.z3), some (ta), some (tb)] := hL.step2 2 4 _ _ (by decide) h1 h2 g2
      have hE := hE.kept2 g2 (by omega) (by omega)
      have hb := below_two hb g2 (by omega) (by omega) hb.size
      clear h1 h2 g2
      go_wp2_with fail
      refine (invert_M _ (w2.heap.size + 2) (w2.heap.size + 2) q.z2 (hL.b 2 (by simp)) (hL.m 2 _ rfl)).mono ?_
      rintro e w36 ⟨rfl, h1, g1⟩
      have hL : Lad w36 w2.heap.size [some (u), some (q.x2), some (invm q.z2), some (q.x3), some (q.z3), some (ta), some (tb)] := hL.step 2 _ h1 g1
      have hE := hE.kept g1 (by omega)
      have hb := bkept hb g1 (by omega) hb.size
      clear h1 g1
      go_wp2_with fail
      refine (mul_M _ (w2.heap.size + 1) (w2.heap.size + 1) (w2.heap.size + 2) q.x2 (invm q.z2) (hL.b 1 (by simp)) (hL.m 1 _ rfl) (hL.m 2 _ rfl)).mono ?_
      rintro e w37 ⟨rfl, h1, g1⟩
      have hL : Lad w37 w2.heap.size [some (u), some (mulm q.x2 (invm q.z2)), some (invm q.z2), some (q.x3), some (q.z3), some (ta), some (tb)] := hL.step 1 _ h1 g1
      have hE := hE.kept g1 (by omega)
      have hb := bkept hb g1 (by omega) hb.size
      clear h1 g1
      have hd9 : BAt w37.drew gd old := (hb.block gd hld).trans hd
      have hx9 : FeM w37.drew (w2.heap.size + 1) (mulm q.x2 (invm q.z2)) := hL.m 1 _ rfl
      have hb9 : Below w.heap.size w w37.drew := ⟨hb.os, hb.tape, hb.output, hb.size, hb.block⟩
      go_wp2_with fail
      go_region_law (first | (refine step_copy32 rfl (.tmp 88) (.tmp 89) rfl gd gB old (leB (mulm q.x2 (invm q.z2))) lo (by simp) rfl rfl (Arr.below hd9 hbB) hB ?_; intro wE hE9 hgE) | (go_simp; go_at_call 80; refine (Bytes_M _ (w2.heap.size + 1) (mulm q.x2 (invm q.z2)) hx9).mono ?_; rintro e wB ⟨gB, rfl, hB, hgB, hbB⟩))
      have hbE := hb9.trans (hbB.mono hb9.size)
      go_wp2_with fail
      go_end0
      exact ⟨rfl, by rw [HDEF.out]; exact hE9, below_then hbE hgE⟩
end Go.Proofs.YthjminkkmljjhaaGreatDoor

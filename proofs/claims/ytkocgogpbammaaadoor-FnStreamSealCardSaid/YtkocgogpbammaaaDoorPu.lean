/- Poly1305's sum in the package: whole pieces of 16 bytes. Conditions: as many bytes as 16 divides; the sum as large as it grows. -/
import Derived.Test.YtkocgogpbammaaaDoorPa
import Derived.Test.YtkocgogpbammaaaDoorPw
import Derived.Deep.RegionHeld3
import Derived.BigRegion
import Derived.Deep.QuietTactic
import Derived.BigQuiet
import Derived.Deep.LoopGhost
set_option linter.unusedVariables false
set_option linter.unusedSimpArgs false
namespace Go.Proofs.YtkocgogpbammaaaDoor
open Go.RowKit

theorem u128_und : ∃ fs, Tryd.prog.underlying 158 = some (.struct fs) := ⟨_, Tryd.underlying158⟩
theorem u128_size : (Tryd.prog.info? 158).map (·.size) = some 2 := by kernel_rfl
/-- A block holds a number of 128 bits. -/
def UAt (w : World) (g V : Nat) : Prop := Arr w g 158 [.int .u64 ((V % 18446744073709551616 : Nat) : Int), .int .u64 ((V / 18446744073709551616 : Nat) : Int)]
abbrev objU : Obj := .cells #[.int .u64 0, .int .u64 0] 158
theorem u_new (w : World) : UAt (w.alloc objU) w.heap.size 0 := heap_alloc_new w _
section
variable {w w' : World} {g V : Nat}
theorem UAt.lt (h : UAt w g V) : g < w.heap.size := Arr.lt h
theorem UAt.lo (h : UAt w g V) : w.cell? ⟨g, 0, none⟩ = some (.int .u64 ((V % 18446744073709551616 : Nat) : Int)) := Arr.cell h 0 (by simp)
theorem UAt.hi (h : UAt w g V) : w.cell? ⟨g, 1, none⟩ = some (.int .u64 ((V / 18446744073709551616 : Nat) : Int)) := Arr.cell h 1 (by simp)
theorem UAt.below (h : UAt w g V) (hb : Below w.heap.size w w') : UAt w' g V := Arr.below h hb
theorem UAt.kept {k : Nat} (h : UAt w g V) (hb : w.grownBy w' (some k)) (hne : g ≠ k) : UAt w' g V := Arr.kept h hb hne
end
section
variable {ops : Array Oper} {rest : List Oper} {o : Oper} {a : Act} {w : World} {Q : Exit → Act → World → Prop}
theorem wpList_loadU (hgd : o.guard = none) (x : Operand) (ho : o.op = .load 158 x) (g V : Nat) (hx : a.eval x = .pointer (some ⟨g, 0, none⟩)) (hR : UAt w g V)
    (h : wpList Tryd.prog ops Q rest (a.put o.dst (u128 V)) w) : wpList Tryd.prog ops Q (o :: rest) a w := by
  obtain ⟨fs, hu⟩ := u128_und
  exact wpList_load_row hgd _ x ho g hx _ #[.int .u64 ((V % 18446744073709551616 : Nat) : Int), .int .u64 ((V / 18446744073709551616 : Nat) : Int)] (0, 0) (.struct fs) hR hu rfl (by rw [u128_size]; rfl) h
theorem wpList_storeU (hgd : o.guard = none) (x y : Operand) (ho : o.op = .store 158 x y) (g V V0 : Nat) (hx : a.eval x = .pointer (some ⟨g, 0, none⟩)) (hy : a.eval y = u128 V) (hR : UAt w g V0)
    (h : ∀ w', UAt w' g V → w.grownBy w' (some g) → wpList Tryd.prog ops Q rest (a.put o.dst undef) w') : wpList Tryd.prog ops Q (o :: rest) a w :=
  wpList_store_row hgd _ x y ho g #[.int .u64 ((V % 18446744073709551616 : Nat) : Int), .int .u64 ((V / 18446744073709551616 : Nat) : Int)] hx hy _ _ hR (by rw [u128_size]; rfl) rfl (by simp [Value.oneCell'])
    (h _ (setRow_heap w g _ _ _ (0, 0) hR) ⟨rfl, rfl, rfl, by simp [World.setRow], fun k _ hk => setRow_other w g k _ (fun e => hk (by rw [e]))⟩)
end
/-- A block of two words. -/
def UL (w : World) (g lo hi : Nat) : Prop := Arr w g 158 [.int .u64 (lo : Int), .int .u64 (hi : Int)]
theorem wpList_storeL {ops : Array Oper} {rest : List Oper} {o : Oper} {a : Act} {w : World} {Q : Exit → Act → World → Prop} (hgd : o.guard = none) (x y : Operand) (ho : o.op = .store 158 x y) (g lo hi V0 : Nat) (hx : a.eval x = .pointer (some ⟨g, 0, none⟩)) (hy : a.eval y = .agg #[.int .u64 (lo : Int), .int .u64 (hi : Int)]) (hR : UAt w g V0)
    (h : ∀ w', UL w' g lo hi → w.grownBy w' (some g) → wpList Tryd.prog ops Q rest (a.put o.dst undef) w') : wpList Tryd.prog ops Q (o :: rest) a w :=
  wpList_store_row hgd _ x y ho g #[.int .u64 (lo : Int), .int .u64 (hi : Int)] hx hy _ _ hR (by rw [u128_size]; rfl) rfl (by simp [Value.oneCell'])
    (h _ (setRow_heap w g _ _ _ (0, 0) hR) ⟨rfl, rfl, rfl, by simp [World.setRow], fun k _ hk => setRow_other w g k _ (fun e => hk (by rw [e]))⟩)
theorem UAt.step {w v w' : World} {g V : Nat} (h : UAt w g V) (hv : Below w.heap.size w v) (hg : (v.alloc objU).grownBy w' (some v.heap.size)) : UAt w' g V :=
  ((h.below hv).below (below_alloc _ objU)).kept hg (by have := (h.below hv).lt; omega)
theorem below_step {B : Nat} {w0 w v w' : World} (hb : Below B w0 w) (hB : B ≤ w.heap.size) (hv : Below w.heap.size w v) (hg : (v.alloc objU).grownBy w' (some v.heap.size)) : Below B w0 w' :=
  bkept (Below.alloc (hb.trans (hv.mono hB)) (Nat.le_trans hB hv.size) objU) hg (Nat.le_trans hB hv.size) (by have := hv.size; simp; omega)
/-- Eight bytes at an address, as a number. -/
theorem leU_at (w : World) (g o : Nat) (l : List UInt8) (h : w.rangeAt g o (u8s l)) (i n c : Nat) (hi : i + 8 ≤ l.length) (hn : 8 ≤ n) :
    Calls Tryd.prog 78 #[.agg #[], .slice (some ⟨g, o + i, none⟩) n c] w fun e w' => e = .returned (.int .u64 ((Lib.leNat ((l.drop i).take 8) : Nat) : Int)) ∧ Below w.heap.size w w' := by
  have hc : ∀ j (hj : j < 8), w.cell? ⟨g, o + i + j, none⟩ = some (.int .u8 ((l[i + j]'(by omega)).toNat : Int)) := fun j hj => by
    rw [Nat.add_assoc]; exact range_u8 h (i + j) _ (List.getElem?_eq_getElem (by omega))
  refine (Tryd.binary_LE_Uint64 g (o + i) n c _ _ _ _ _ _ _ _ w hn (hc 0 (by omega)) (hc 1 (by omega)) (hc 2 (by omega)) (hc 3 (by omega)) (hc 4 (by omega)) (hc 5 (by omega)) (hc 6 (by omega)) (hc 7 (by omega))).mono ?_
  rintro e w' ⟨rfl, hb⟩
  refine ⟨?_, hb⟩
  have e8 : (l.drop i).take 8 = [l[i + 0]'(by omega), l[i + 1]'(by omega), l[i + 2]'(by omega), l[i + 3]'(by omega), l[i + 4]'(by omega), l[i + 5]'(by omega), l[i + 6]'(by omega), l[i + 7]'(by omega)] := by
    apply List.ext_getElem (by simp; omega)
    intro j h1 h2
    simp only [List.getElem_take, List.getElem_drop]
    simp only [List.length_cons, List.length_nil] at h2
    rcases (show j = 0 ∨ j = 1 ∨ j = 2 ∨ j = 3 ∨ j = 4 ∨ j = 5 ∨ j = 6 ∨ j = 7 by omega) with rfl | rfl | rfl | rfl | rfl | rfl | rfl | rfl <;> rfl
  rw [e8]
theorem held_drew {w0 wr : World} {gm om : Nat} {vs : List Value} (h : wr.rangeAt gm om vs ∧ Below w0.heap.size w0 wr) : wr.drew.rangeAt gm om vs ∧ Below w0.heap.size w0 wr.drew := ⟨h.1, ⟨h.2.os, h.2.tape, h.2.output, h.2.size, h.2.block⟩⟩
theorem held_keep {w0 w1 w2 : World} {gm om : Nat} {vs : List Value} (h : w1.rangeAt gm om vs ∧ Below w0.heap.size w0 w1) (hb : Below w1.heap.size w1 w2) : w2.rangeAt gm om vs ∧ Below w0.heap.size w0 w2 := ⟨range_below h.1 hb, h.2.trans (hb.mono h.2.size)⟩
/-- A slice's length. -/
def lenOf : Value → Nat
  | .slice _ n _ => n
  | _ => 0
/-- The state's cells. -/
def stC (hh r0 r1 : Nat) (rest : List Value) : List Value := .int .u64 (lim0 hh : Int) :: .int .u64 (lim1 hh : Int) :: .int .u64 (lim2 hh : Int) :: .int .u64 (r0 : Int) :: .int .u64 (r1 : Int) :: rest

set_option maxRecDepth 100000 in
set_option maxHeartbeats 8000000 in
theorem update_any (w : World) (g : Nat) (t : TypeId) (hh r0 r1 : Nat) (rest : List Value) (a : Option Addr) (cap : Nat) (m : List UInt8) (hS : Arr w g t (stC hh r0 r1 rest)) (hok : okH hh) (hr0 : r0 < 1152921504606846976) (hr1 : r1 < 1152921504606846976)
    (ha : At w a (u8s m)) (hm : m.length % 16 = 0) (hcap : m.length ≤ cap) :
    Calls Tryd.prog 80 #[.pointer (some ⟨g, 0, none⟩), .slice a m.length cap] w fun e w' => e = .returned (.tuple #[]) ∧ ∃ h2, okH h2 ∧ h2 % p5 = polyA (r0 + 18446744073709551616 * r1) (hh % p5) m ∧ Arr w' g t (stC h2 r0 r1 rest) ∧ w.grownBy w' (some g) := by
  have c0 := hS.cell 0 (by simp [stC])
  have c1 := hS.cell 1 (by simp [stC])
  have c2 := hS.cell 2 (by simp [stC])
  have c3 := hS.cell 3 (by simp [stC])
  have c4 := hS.cell 4 (by simp [stC])
  have f0 := hS.fr
  simp only [stC, List.getElem_cons_succ, List.getElem_cons_zero] at c0 c1 c2 c3 c4
  have HM := Lib.hid hm
  clear hm
  go_enter Tryd.func80, Tryd.ntmps80
  go_wp2_with fail
  go_quiet (fail)
  have hb0 : Below w.heap.size w (w.drewN nq) := ⟨rfl, rfl, rfl, Nat.le_refl _, fun _ _ => rfl⟩
  have k3 : (w.drewN nq).cell? ⟨g, 3, none⟩ = _ := c3
  have k4 : (w.drewN nq).cell? ⟨g, 4, none⟩ = _ := c4
  obtain ⟨w1, hw1⟩ : ∃ w1, w1 = w.drewN nq := ⟨_, rfl⟩
  rw [← hw1] at hb0 k3 k4 ⊢
  clear hw1 c0 c1 c2 c3 c4
  go_wp2_with fail
  go_quiet (fail)
  go_wp2_with fail
  have hb1 := below_drewN hb0 nq
  generalize w1.drewN nq = w2 at hb1 ⊢
  clear k3 k4 hb0
  obtain ⟨r, hr⟩ : ∃ r, r = r0 + 18446744073709551616 * r1 := ⟨_, rfl⟩
  have HR := Lib.hid hr
  have hrl : r < 21267647932558653966460912964485513216 := by omega
  have HRL := Lib.hid hrl
  clear hr hrl
  go_loopw [1, 4, 5, 6] (fun mv h0v h1v h2v wr => ∃ (mm : List UInt8) (a2 : Option Addr) (c2 h x0 x1 x2 : Nat), mv = .slice a2 mm.length c2 ∧ h0v = .int .u64 (x0 : Int) ∧ h1v = .int .u64 (x1 : Int) ∧ h2v = .int .u64 (x2 : Int) ∧ Hid (x0 = lim0 h ∧ x1 = lim1 h ∧ x2 = lim2 h) ∧ Hid (mm.length % 16 = 0) ∧ mm.length ≤ c2 ∧ At w a2 (u8s mm) ∧ Hid (okH h) ∧ Hid (polyA r (h % p5) mm = polyA r (hh % p5) m) ∧ Below w.heap.size w wr) (fun mv _ _ _ _ => lenOf mv)
  case atStart => exact ⟨m, a, cap, hh, _, _, _, rfl, rfl, rfl, rfl, ⟨rfl, rfl, rfl⟩, HM, hcap, ha, Lib.hid hok, rfl, hb1⟩
  case round =>
    clear hb1 ha hcap HM
    obtain ⟨mm, a2, c2, h, x0, x1, x2, rfl, rfl, rfl, rfl, HX, HM, hcap, ha, HOK, HP, hb⟩ := hrel
    by_cases hlt : 0 < mm.length
    · have d1 : decide ((mm.length : Int) > 0) = true := by simp; omega
      have h16 : 16 ≤ mm.length := by have := HM.out; omega
      have d2 : decide ((mm.length : Int) ≥ 16) = true := by simp; omega
      obtain ⟨gm, om, rfl, hcc⟩ := ha (by simpa using hlt)
      have hrg : w.rangeAt gm om (u8s mm) := fun j v hj => by
        obtain ⟨hl, rfl⟩ := List.getElem?_eq_some_iff.1 hj
        exact hcc j hl
      have HCC := Lib.hid hrg
      clear hcc hrg ha
      have i8 : (8 : Int) ≤ (c2 : Int) := by omega
      have i16 : (16 : Int) ≤ (c2 : Int) := by omega
      have d8 : ¬ (c2 = 8) := by omega
      have hx0 := HX.out.1
      have hx1 := HX.out.2.1
      have hx2 := HX.out.2.2
      have lx0 : x0 < 18446744073709551616 := by rw [hx0]; exact lim0_lt _
      have lx1 : x1 < 18446744073709551616 := by rw [hx1]; exact lim1_lt _
      have lx2 : x2 ≤ 5 := by rw [hx2]; exact lim2_le _ HOK.out
      obtain ⟨m0, hm0⟩ : ∃ x, x = Lib.leNat ((mm.drop 0).take 8) := ⟨_, rfl⟩
      obtain ⟨m1, hm1⟩ : ∃ x, x = Lib.leNat ((mm.drop 8).take 8) := ⟨_, rfl⟩
      have lm0 : m0 < 18446744073709551616 := by
        have h := leNat_lt ((mm.drop 0).take 8)
        rw [← hm0, List.length_take, List.length_drop, Nat.min_eq_left (by omega)] at h; exact h
      have lm1 : m1 < 18446744073709551616 := by
        have h := leNat_lt ((mm.drop 8).take 8)
        rw [← hm1, List.length_take, List.length_drop, Nat.min_eq_left (by omega)] at h; exact h
      obtain ⟨k0, hk0⟩ : ∃ x, x = (x0 + m0 + 0) / 18446744073709551616 := ⟨_, rfl⟩
      obtain ⟨a0, ha0⟩ : ∃ x, x = (x0 + m0 + 0) % 18446744073709551616 := ⟨_, rfl⟩
      have lk0 : k0 ≤ 1 := by omega
      obtain ⟨k1, hk1⟩ : ∃ x, x = (x1 + m1 + k0) / 18446744073709551616 := ⟨_, rfl⟩
      obtain ⟨a1, ha1⟩ : ∃ x, x = (x1 + m1 + k0) % 18446744073709551616 := ⟨_, rfl⟩
      have lk1 : k1 ≤ 1 := by omega
      have lA0 : a0 < 18446744073709551616 := by omega
      have lA1 : a1 < 18446744073709551616 := by omega
      have hA := fun w => add64_run x0 m0 0 (by decide) w
      have hB := fun w => add64_run x1 m1 k0 lk0 w
      rw [← hk0, ← ha0] at hA
      rw [← hk1, ← ha1] at hB
      obtain ⟨a2, ha2⟩ : ∃ x, x = x2 + (k1 + 1) := ⟨_, rfl⟩
      have e2a : IntKind.u64.wrap ((k1 : Int) + 1) = (k1 : Int) + 1 := IntWalk.u64_in _ (by omega)
      have e2 : IntKind.u64.wrap ((x2 : Int) + ((k1 : Int) + 1)) = (a2 : Int) := (IntWalk.u64_in _ (by omega)).trans (by omega)
      have la2 : a2 ≤ 7 := by omega
      -- the sum of the state and the piece
      have HSUM : Hid (h + blkN (mm.take 16) = a0 + 18446744073709551616 * a1 + 340282366920938463463374607431768211456 * a2) := Lib.hid (by
        have hle : Lib.leNat (mm.take 16) = m0 + 18446744073709551616 * m1 := by
          have hsp : mm.take 16 = (mm.drop 0).take 8 ++ (mm.drop 8).take 8 := by
            rw [List.drop_zero, show (16 : Nat) = 8 + 8 from rfl, List.take_add]
          rw [hsp, Lib.leNat_append, ← hm0, ← hm1, List.length_take, List.length_drop, Nat.min_eq_left (by omega)]
        have hbk : blkN (mm.take 16) = m0 + 18446744073709551616 * m1 + 340282366920938463463374607431768211456 := by
          unfold blkN; rw [hle, List.length_take, Nat.min_eq_left (by omega)]
        have hl := lim_eq h
        rw [← hx0, ← hx1, ← hx2] at hl
        rw [hbk, hl, ha2]
        have q0 : x0 + m0 = a0 + 18446744073709551616 * k0 := by omega
        have q1 : x1 + m1 + k0 = a1 + 18446744073709551616 * k1 := by omega
        clear ha0 hk0 ha1 hk1
        omega)
      have HM0 := Lib.hid hm0.symm
      have HM1 := Lib.hid hm1.symm
      clear HX hx0 hx1 hx2 hm0 hm1 hk0 ha0 hk1 ha1 ha2 lx0 lx1 lx2 lm0 lm1 lk0 lk1
      simp only [Int.natCast_zero] at hA
      go_wp2_with fail
      go_region_held3 (fun w' => w'.rangeAt gm om (u8s mm) ∧ Below w.heap.size w w') (first | assumption | exact held_drew ⟨range_below HCC.out hb, hb⟩ | exact held_keep (by assumption) (by assumption)) (first | (go_at_call 78; refine (leU_at _ gm om mm (And.left (by assumption)) 0 _ _ (by omega) (by omega)).mono ?_; rintro e w' ⟨rfl, hbu⟩; rw [HM0.out]))
      rename_i hS1
      obtain ⟨hrg1, hb1⟩ := hS1
      clear hb hA
      go_wp2_with fail
      go_region_held3 (fun w' => w'.rangeAt gm om (u8s mm) ∧ Below w.heap.size w w') (first | assumption | exact held_drew ⟨hrg1, hb1⟩ | exact held_keep (by assumption) (by assumption)) (first | (go_at_call 78; refine (leU_at _ gm om mm (And.left (by assumption)) 8 _ _ (by omega) (by omega)).mono ?_; rintro e w' ⟨rfl, hbu⟩; rw [HM1.out]))
      rename_i hS2
      obtain ⟨hrg2, hb2⟩ := hS2
      clear hb1 hrg1 hB HM0 HM1
      have hsl : ∀ W, (Instr.sliceAt 23 (.slice (some ⟨gm, om, none⟩) mm.length c2) (some (.int .i64 16)) none none).run Tryd.prog W = .ok (.slice (some ⟨gm, fromO om c2 16, none⟩) (mm.length - 16) (c2 - 16)) W := fun W => run_from W .i64 gm om mm.length c2 16 h16 hcap
      have HRG2 := Lib.hid (range_from (k := 16) HCC.out (by simpa using hcap))
      obtain ⟨o2, ho2⟩ : ∃ x, x = fromO om c2 16 := ⟨_, rfl⟩
      rw [← ho2] at hsl HRG2
      clear ho2
      -- LIMBS
      have lr0 : r0 < 18446744073709551616 := by omega
      have lr1 : r1 < 18446744073709551616 := by omega
      obtain ⟨p00, h_p00⟩ : ∃ x, x = a0 * r0 := ⟨_, rfl⟩
      have l_p00 : p00 ≤ 18446744073709551615 * 1152921504606846975 := by rw [h_p00]; exact Nat.mul_le_mul (by omega) (by omega)
      have H_p00 := Lib.hid h_p00.symm
      clear h_p00
      obtain ⟨p10, h_p10⟩ : ∃ x, x = a1 * r0 := ⟨_, rfl⟩
      have l_p10 : p10 ≤ 18446744073709551615 * 1152921504606846975 := by rw [h_p10]; exact Nat.mul_le_mul (by omega) (by omega)
      have H_p10 := Lib.hid h_p10.symm
      clear h_p10
      obtain ⟨p20, h_p20⟩ : ∃ x, x = a2 * r0 := ⟨_, rfl⟩
      have l_p20 : p20 ≤ 7 * 1152921504606846975 := by rw [h_p20]; exact Nat.mul_le_mul (by omega) (by omega)
      have H_p20 := Lib.hid h_p20.symm
      clear h_p20
      obtain ⟨p01, h_p01⟩ : ∃ x, x = a0 * r1 := ⟨_, rfl⟩
      have l_p01 : p01 ≤ 18446744073709551615 * 1152921504606846975 := by rw [h_p01]; exact Nat.mul_le_mul (by omega) (by omega)
      have H_p01 := Lib.hid h_p01.symm
      clear h_p01
      obtain ⟨p11, h_p11⟩ : ∃ x, x = a1 * r1 := ⟨_, rfl⟩
      have l_p11 : p11 ≤ 18446744073709551615 * 1152921504606846975 := by rw [h_p11]; exact Nat.mul_le_mul (by omega) (by omega)
      have H_p11 := Lib.hid h_p11.symm
      clear h_p11
      obtain ⟨p21, h_p21⟩ : ∃ x, x = a2 * r1 := ⟨_, rfl⟩
      have l_p21 : p21 ≤ 7 * 1152921504606846975 := by rw [h_p21]; exact Nat.mul_le_mul (by omega) (by omega)
      have H_p21 := Lib.hid h_p21.symm
      clear h_p21
      have hb := hb2
      clear hb2 hrg2
      go_wp2_with fail
      refine (mul64_any _ a0 r0 (by omega) (by omega)).mono ?_
      rintro e v11 ⟨rfl, hv_v11⟩
      rw [H_p00.out]
      go_wp2_with (first | (refine wpList_storeU rfl (.tmp 11) (.tmp 111) rfl v11.heap.size p00 0 rfl rfl (u_new _) ?_; intro w11 U11 g_w11))
      have hb := below_step hb hb.size hv_v11 g_w11
      have hz := hb.size
      generalize v11.heap.size = b11 at U11 ⊢
      clear hv_v11 g_w11
      refine (mul64_any _ a1 r0 (by omega) (by omega)).mono ?_
      rintro e v12 ⟨rfl, hv_v12⟩
      rw [H_p10.out]
      go_wp2_with (first | (refine wpList_storeU rfl (.tmp 12) (.tmp 114) rfl v12.heap.size p10 0 rfl rfl (u_new _) ?_; intro w12 U12 g_w12))
      have U11 := U11.step hv_v12 g_w12
      have hb := below_step hb hb.size hv_v12 g_w12
      have hz := hb.size
      generalize v12.heap.size = b12 at U12 ⊢
      clear hv_v12 g_w12
      refine (mul64_any _ a2 r0 (by omega) (by omega)).mono ?_
      rintro e v13 ⟨rfl, hv_v13⟩
      rw [H_p20.out]
      go_wp2_with (first | (refine wpList_storeU rfl (.tmp 13) (.tmp 117) rfl v13.heap.size p20 0 rfl rfl (u_new _) ?_; intro w13 U13 g_w13))
      have U11 := U11.step hv_v13 g_w13
      have U12 := U12.step hv_v13 g_w13
      have hb := below_step hb hb.size hv_v13 g_w13
      have hz := hb.size
      generalize v13.heap.size = b13 at U13 ⊢
      clear hv_v13 g_w13
      refine (mul64_any _ a0 r1 (by omega) (by omega)).mono ?_
      rintro e v14 ⟨rfl, hv_v14⟩
      rw [H_p01.out]
      go_wp2_with (first | (refine wpList_storeU rfl (.tmp 14) (.tmp 120) rfl v14.heap.size p01 0 rfl rfl (u_new _) ?_; intro w14 U14 g_w14))
      have U11 := U11.step hv_v14 g_w14
      have U12 := U12.step hv_v14 g_w14
      have U13 := U13.step hv_v14 g_w14
      have hb := below_step hb hb.size hv_v14 g_w14
      have hz := hb.size
      generalize v14.heap.size = b14 at U14 ⊢
      clear hv_v14 g_w14
      refine (mul64_any _ a1 r1 (by omega) (by omega)).mono ?_
      rintro e v15 ⟨rfl, hv_v15⟩
      rw [H_p11.out]
      go_wp2_with (first | (refine wpList_storeU rfl (.tmp 15) (.tmp 123) rfl v15.heap.size p11 0 rfl rfl (u_new _) ?_; intro w15 U15 g_w15))
      have U11 := U11.step hv_v15 g_w15
      have U12 := U12.step hv_v15 g_w15
      have U13 := U13.step hv_v15 g_w15
      have U14 := U14.step hv_v15 g_w15
      have hb := below_step hb hb.size hv_v15 g_w15
      have hz := hb.size
      generalize v15.heap.size = b15 at U15 ⊢
      clear hv_v15 g_w15
      refine (mul64_any _ a2 r1 (by omega) (by omega)).mono ?_
      rintro e v16 ⟨rfl, hv_v16⟩
      rw [H_p21.out]
      have z20 : p20 / 18446744073709551616 = 0 := Nat.div_eq_of_lt (by omega)
      have z21 : p21 / 18446744073709551616 = 0 := Nat.div_eq_of_lt (by omega)
      go_wp2_with (refine wpList_storeU rfl (.tmp 16) (.tmp 126) rfl v16.heap.size p21 0 rfl rfl (u_new _) ?_; intro w16 U16 g_w16; refine Hid.out ?_)
      have U11 := U11.step hv_v16 g_w16
      have U12 := U12.step hv_v16 g_w16
      have U13 := U13.step hv_v16 g_w16
      have U14 := U14.step hv_v16 g_w16
      have U15 := U15.step hv_v16 g_w16
      have hb := below_step hb hb.size hv_v16 g_w16
      have hz := hb.size
      generalize v16.heap.size = b16 at U16 ⊢
      clear hv_v16 g_w16
      have q13 := U13.hi
      have q16 := U16.hi
      rw [z20] at q13
      rw [z21] at q16
      clear z20 z21
      refine Lib.hid ?_
      have hv_w16 := Below.refl w16.heap.size w16
      go_wp2_with (first | (refine wpList_loadU rfl (.tmp 11) rfl b11 p00 rfl U11 ?_) | (refine wpList_storeU rfl (.tmp 17) (.tmp 135) rfl w16.heap.size p00 0 rfl rfl (u_new _) ?_; intro w17 U17 g_w17; refine Hid.out ?_))
      clear q13 q16
      have U11 := U11.step hv_w16 g_w17
      have U12 := U12.step hv_w16 g_w17
      have U13 := U13.step hv_w16 g_w17
      have U14 := U14.step hv_w16 g_w17
      have U15 := U15.step hv_w16 g_w17
      have U16 := U16.step hv_w16 g_w17
      have hb := below_step hb hb.size hv_w16 g_w17
      have hz := hb.size
      generalize w16.heap.size = b17 at U17 ⊢
      clear hv_w16 g_w17
      refine Lib.hid ?_
      go_wp2_with (first | (refine wpList_loadU rfl (.tmp 12) rfl b12 p10 rfl U12 ?_) | (refine wpList_loadU rfl (.tmp 14) rfl b14 p01 rfl U14 ?_))
      refine (add128_any _ p10 p01 (by omega)).mono ?_
      rintro e v18 ⟨rfl, hv_v18⟩
      obtain ⟨s1, h_s1⟩ : ∃ x, x = p10 + p01 := ⟨_, rfl⟩
      rw [← h_s1]
      have H_s1 := Lib.hid h_s1
      clear h_s1
      go_wp2_with (refine wpList_storeU rfl (.tmp 18) (.tmp 138) rfl v18.heap.size s1 0 rfl rfl (u_new _) ?_; intro w18 U18 g_w18; refine Hid.out ?_)
      have U11 := U11.step hv_v18 g_w18
      have U12 := U12.step hv_v18 g_w18
      have U13 := U13.step hv_v18 g_w18
      have U14 := U14.step hv_v18 g_w18
      have U15 := U15.step hv_v18 g_w18
      have U16 := U16.step hv_v18 g_w18
      have U17 := U17.step hv_v18 g_w18
      have hb := below_step hb hb.size hv_v18 g_w18
      have hz := hb.size
      generalize v18.heap.size = b18 at U18 ⊢
      clear hv_v18 g_w18
      refine Lib.hid ?_
      go_wp2_with (first | (refine wpList_loadU rfl (.tmp 13) rfl b13 p20 rfl U13 ?_) | (refine wpList_loadU rfl (.tmp 15) rfl b15 p11 rfl U15 ?_))
      refine (add128_any _ p20 p11 (by omega)).mono ?_
      rintro e v19 ⟨rfl, hv_v19⟩
      obtain ⟨s2, h_s2⟩ : ∃ x, x = p20 + p11 := ⟨_, rfl⟩
      rw [← h_s2]
      have H_s2 := Lib.hid h_s2
      clear h_s2
      go_wp2_with (refine wpList_storeU rfl (.tmp 19) (.tmp 141) rfl v19.heap.size s2 0 rfl rfl (u_new _) ?_; intro w19 U19 g_w19; refine Hid.out ?_)
      have U11 := U11.step hv_v19 g_w19
      have U12 := U12.step hv_v19 g_w19
      have U13 := U13.step hv_v19 g_w19
      have U14 := U14.step hv_v19 g_w19
      have U15 := U15.step hv_v19 g_w19
      have U16 := U16.step hv_v19 g_w19
      have U17 := U17.step hv_v19 g_w19
      have U18 := U18.step hv_v19 g_w19
      have hb := below_step hb hb.size hv_v19 g_w19
      have hz := hb.size
      generalize v19.heap.size = b19 at U19 ⊢
      clear hv_v19 g_w19
      refine Lib.hid ?_
      have hv_w19 := Below.refl w19.heap.size w19
      go_wp2_with (first | (refine wpList_loadU rfl (.tmp 16) rfl b16 p21 rfl U16 ?_) | (refine wpList_storeU rfl (.tmp 20) (.tmp 142) rfl w19.heap.size p21 0 rfl rfl (u_new _) ?_; intro w20 U20 g_w20; refine Hid.out ?_))
      have U11 := U11.step hv_w19 g_w20
      have U12 := U12.step hv_w19 g_w20
      have U13 := U13.step hv_w19 g_w20
      have U14 := U14.step hv_w19 g_w20
      have U15 := U15.step hv_w19 g_w20
      have U16 := U16.step hv_w19 g_w20
      have U17 := U17.step hv_w19 g_w20
      have U18 := U18.step hv_w19 g_w20
      have U19 := U19.step hv_w19 g_w20
      have hb := below_step hb hb.size hv_w19 g_w20
      have hz := hb.size
      generalize w19.heap.size = b20 at U20 ⊢
      clear hv_w19 g_w20
      have h_s1 := H_s1.out
      have h_s2 := H_s2.out
      obtain ⟨pl, h_pl⟩ : ∃ x, x = p00 % 18446744073709551616 := ⟨_, rfl⟩
      obtain ⟨ph, h_ph⟩ : ∃ x, x = p00 / 18446744073709551616 := ⟨_, rfl⟩
      obtain ⟨ml, h_ml⟩ : ∃ x, x = s1 % 18446744073709551616 := ⟨_, rfl⟩
      obtain ⟨mh, h_mh⟩ : ∃ x, x = s1 / 18446744073709551616 := ⟨_, rfl⟩
      obtain ⟨nl, h_nl⟩ : ∃ x, x = s2 % 18446744073709551616 := ⟨_, rfl⟩
      obtain ⟨nh, h_nh⟩ : ∃ x, x = s2 / 18446744073709551616 := ⟨_, rfl⟩
      have c17l := U17.lo
      have c17h := U17.hi
      have c18l := U18.lo
      have c18h := U18.hi
      have c19l := U19.lo
      have c19h := U19.hi
      have c20l := U20.lo
      rw [← h_pl] at c17l
      rw [← h_ph] at c17h
      rw [← h_ml] at c18l
      rw [← h_mh] at c18h
      rw [← h_nl] at c19l
      rw [← h_nh] at c19h
      rw [Nat.mod_eq_of_lt (show p21 < 18446744073709551616 by omega)] at c20l
      have l_pl : pl < 18446744073709551616 := by omega
      have l_ph : ph < 18446744073709551616 := by omega
      have l_ml : ml < 18446744073709551616 := by omega
      have l_mh : mh < 18446744073709551616 := by omega
      have l_nl : nl < 18446744073709551616 := by omega
      have l_nh : nh ≤ 2305843009213693952 := by omega
      have E_p00 := Lib.hid (show p00 = pl + 18446744073709551616 * ph by omega)
      have E_s1 := Lib.hid (show s1 = ml + 18446744073709551616 * mh by omega)
      have E_s2 := Lib.hid (show s2 = nl + 18446744073709551616 * nh by omega)
      clear h_pl h_ph h_ml h_mh h_nl h_nh h_s1 h_s2 l_p00 l_p10 l_p20 l_p01 l_p11
      obtain ⟨t1, h_t1⟩ : ∃ x, x = (ml + ph + 0) % 18446744073709551616 := ⟨_, rfl⟩
      obtain ⟨c1, h_c1⟩ : ∃ x, x = (ml + ph + 0) / 18446744073709551616 := ⟨_, rfl⟩
      have l_t1 : t1 < 18446744073709551616 := by omega
      have l_c1 : c1 ≤ 1 := by omega
      have hA1 := fun w => add64_run ml ph 0 (by omega) w
      rw [← h_t1, ← h_c1] at hA1
      have E_t1 := Lib.hid (show ml + ph + 0 = t1 + 18446744073709551616 * c1 by omega)
      clear h_t1 h_c1
      simp only [Int.natCast_zero] at hA1
      obtain ⟨t2, h_t2⟩ : ∃ x, x = (nl + mh + c1) % 18446744073709551616 := ⟨_, rfl⟩
      obtain ⟨c2', h_c2'⟩ : ∃ x, x = (nl + mh + c1) / 18446744073709551616 := ⟨_, rfl⟩
      have l_t2 : t2 < 18446744073709551616 := by omega
      have l_c2' : c2' ≤ 1 := by omega
      have hA2 := fun w => add64_run nl mh c1 (by omega) w
      rw [← h_t2, ← h_c2'] at hA2
      have E_t2 := Lib.hid (show nl + mh + c1 = t2 + 18446744073709551616 * c2' by omega)
      clear h_t2 h_c2'
      obtain ⟨t3, h_t3⟩ : ∃ x, x = p21 + nh + c2' := ⟨_, rfl⟩
      have l_t3 : t3 < 18446744073709551616 := by omega
      have hA3 := fun w => add64_run p21 nh c2' l_c2' w
      rw [← h_t3, Nat.mod_eq_of_lt l_t3, Nat.div_eq_of_lt l_t3] at hA3
      simp only [Int.natCast_zero] at hA3
      have E_t3 := Lib.hid h_t3
      clear h_t3
      obtain ⟨u, h_u⟩ : ∃ x, x = t2 / 4 := ⟨_, rfl⟩
      obtain ⟨v, h_v⟩ : ∃ x, x = t2 % 4 := ⟨_, rfl⟩
      obtain ⟨q, h_q⟩ : ∃ x, x = 4 * u := ⟨_, rfl⟩
      have l_v : v < 4 := by omega
      have l_q : q < 18446744073709551616 := by omega
      have E_u := Lib.hid (show t2 = 4 * u + v by omega)
      have b3 : bits .and .u64 (t2 : Int) 3 = (v : Int) := by
        rw [show (3 : Int) = ((3 : Nat) : Int) from rfl, u64_and_nat t2 3 l_t2 (by decide), show (3 : Nat) = 2 ^ 2 - 1 from rfl, Nat.and_two_pow_sub_one_eq_mod, h_v]
      have b4 : bits .and .u64 (t2 : Int) 18446744073709551612 = (q : Int) := by
        rw [show (18446744073709551612 : Int) = ((18446744073709551612 : Nat) : Int) from rfl, u64_and_nat t2 18446744073709551612 l_t2 (by decide), and_high t2 l_t2, h_q, h_u]
      have E_q := Lib.hid h_q
      clear h_u h_v h_q
      refine Lib.hid ?_
      have hv_w20 := Below.refl w20.heap.size w20
      go_wp2_with (refine wpList_storeL rfl (.tmp 26) (.tmp 178) rfl w20.heap.size q t3 0 rfl rfl (u_new _) ?_; intro w26 U26 g_w26; refine Hid.out ?_)
      clear hA1 hA2 hA3 b3 b4 c17l c17h c18l c18h c19l c19h c20l
      have lb26 := Nat.le_trans hb.size hv_w20.size
      have hb := below_step hb hb.size hv_w20 g_w26
      have hz := hb.size
      generalize w20.heap.size = b26 at U26 lb26 ⊢
      clear hv_w20 g_w26
      clear U11 U12 U13 U14 U15 U16 U17 U18 U19 U20
      obtain ⟨C, h_C⟩ : ∃ x, x = q + 18446744073709551616 * t3 := ⟨_, rfl⟩
      have eq1 : C % 18446744073709551616 = q := by omega
      have eq2 : C / 18446744073709551616 = t3 := by omega
      have V26 : UAt w26 b26 C := by unfold UAt; rw [eq1, eq2]; exact U26
      have c26l := V26.lo
      have c26h := V26.hi
      rw [eq1] at c26l
      rw [eq2] at c26h
      have l_C : C < 340282366920938463463374607431768211456 := by omega
      have E_C := Lib.hid h_C
      clear eq1 eq2 h_C U26
      obtain ⟨e0, h_e0⟩ : ∃ x, x = (pl + q + 0) % 18446744073709551616 := ⟨_, rfl⟩
      obtain ⟨c3, h_c3⟩ : ∃ x, x = (pl + q + 0) / 18446744073709551616 := ⟨_, rfl⟩
      have l_e0 : e0 < 18446744073709551616 := by omega
      have l_c3 : c3 ≤ 1 := by omega
      have hA4 := fun w => add64_run pl q 0 (by omega) w
      rw [← h_e0, ← h_c3] at hA4
      have E_e0 := Lib.hid (show pl + q + 0 = e0 + 18446744073709551616 * c3 by omega)
      clear h_e0 h_c3
      simp only [Int.natCast_zero] at hA4
      obtain ⟨e1, h_e1⟩ : ∃ x, x = (t1 + t3 + c3) % 18446744073709551616 := ⟨_, rfl⟩
      obtain ⟨c4, h_c4⟩ : ∃ x, x = (t1 + t3 + c3) / 18446744073709551616 := ⟨_, rfl⟩
      have l_e1 : e1 < 18446744073709551616 := by omega
      have l_c4 : c4 ≤ 1 := by omega
      have hA5 := fun w => add64_run t1 t3 c3 (by omega) w
      rw [← h_e1, ← h_c4] at hA5
      have E_e1 := Lib.hid (show t1 + t3 + c3 = e1 + 18446744073709551616 * c4 by omega)
      clear h_e1 h_c4
      obtain ⟨e2, h_e2⟩ : ∃ x, x = v + c4 := ⟨_, rfl⟩
      have b5 : IntKind.u64.wrap ((v : Int) + (c4 : Int)) = (e2 : Int) := (IntWalk.u64_in _ (by omega)).trans (by omega)
      have l_e2 : e2 ≤ 4 := by omega
      have E_e2 := Lib.hid h_e2
      clear h_e2
      refine Lib.hid ?_
      go_wp2_with (refine wpList_loadU rfl (.tmp 26) rfl b26 C rfl V26 ?_)
      refine (shr2_any _ C l_C).mono ?_
      rintro e v26 ⟨rfl, hv_v26⟩
      clear hA4 hA5 b5 c26l c26h
      have V26 := V26.below hv_v26
      have hb := hb.trans (hv_v26.mono hb.size)
      clear hv_v26
      obtain ⟨D, h_D⟩ : ∃ x, x = C / 4 := ⟨_, rfl⟩
      rw [← h_D]
      have H_D := Lib.hid h_D
      clear h_D
      go_wp2_with (refine wpList_storeU rfl (.tmp 26) (.tmp 198) rfl b26 D C rfl rfl V26 ?_; intro w27 W26 g_w27; refine Hid.out ?_)
      have hb := bkept hb g_w27 lb26 hb.size
      clear g_w27 V26
      have h_D := H_D.out
      obtain ⟨dl, h_dl⟩ : ∃ x, x = D % 18446744073709551616 := ⟨_, rfl⟩
      obtain ⟨dh, h_dh⟩ : ∃ x, x = D / 18446744073709551616 := ⟨_, rfl⟩
      have c27l := W26.lo
      have c27h := W26.hi
      rw [← h_dl] at c27l
      rw [← h_dh] at c27h
      have l_dl : dl < 18446744073709551616 := by omega
      have l_dh : dh < 18446744073709551616 := by omega
      have E_D := Lib.hid (show D = dl + 18446744073709551616 * dh by omega)
      have E_D4 := Lib.hid (show q + 18446744073709551616 * t3 = 4 * D by have h1 := E_C.out; have h2 := E_q.out; omega)
      clear h_D h_dl h_dh
      obtain ⟨y0, h_y0⟩ : ∃ x, x = (e0 + dl + 0) % 18446744073709551616 := ⟨_, rfl⟩
      obtain ⟨c5, h_c5⟩ : ∃ x, x = (e0 + dl + 0) / 18446744073709551616 := ⟨_, rfl⟩
      have l_y0 : y0 < 18446744073709551616 := by omega
      have l_c5 : c5 ≤ 1 := by omega
      have hA6 := fun w => add64_run e0 dl 0 (by omega) w
      rw [← h_y0, ← h_c5] at hA6
      have E_y0 := Lib.hid (show e0 + dl + 0 = y0 + 18446744073709551616 * c5 by omega)
      clear h_y0 h_c5
      simp only [Int.natCast_zero] at hA6
      obtain ⟨y1, h_y1⟩ : ∃ x, x = (e1 + dh + c5) % 18446744073709551616 := ⟨_, rfl⟩
      obtain ⟨c6, h_c6⟩ : ∃ x, x = (e1 + dh + c5) / 18446744073709551616 := ⟨_, rfl⟩
      have l_y1 : y1 < 18446744073709551616 := by omega
      have l_c6 : c6 ≤ 1 := by omega
      have hA7 := fun w => add64_run e1 dh c5 (by omega) w
      rw [← h_y1, ← h_c6] at hA7
      have E_y1 := Lib.hid (show e1 + dh + c5 = y1 + 18446744073709551616 * c6 by omega)
      clear h_y1 h_c6
      obtain ⟨y2, h_y2⟩ : ∃ x, x = e2 + c6 := ⟨_, rfl⟩
      have b6 : IntKind.u64.wrap ((e2 : Int) + (c6 : Int)) = (y2 : Int) := (IntWalk.u64_in _ (by omega)).trans (by omega)
      have E_y2 := Lib.hid h_y2
      clear h_y2
      have l16 : mm.length - 16 = (mm.drop 16).length := by simp
      refine Lib.hid ?_
      go_wp2_with fail
      go_roundw
      case measure => simp only [lenOf]; omega
      case rel =>
        have hT : (h + blkN (mm.take 16)) * r = pl + 18446744073709551616 * t1 + 340282366920938463463374607431768211456 * t2 + 6277101735386680763835789423207666416102355444464034512896 * t3 := by
          rw [HSUM.out, HR.out, mul_limbs, H_p00.out, H_p10.out, H_p01.out, H_p20.out, H_p11.out, H_p21.out, ← H_s1.out, ← H_s2.out]
          exact carry_limbs p00 s1 s2 p21 pl ph ml mh nl nh t1 t2 t3 c1 c2' E_p00.out E_s1.out E_s2.out (by have := E_t1.out; omega) E_t2.out E_t3.out
        have hF := fold_limbs _ pl t1 t2 t3 u v q t3 dl dh D e0 e1 e2 c3 c4 c5 c6 y0 y1 y2 hT l_pl l_t1 E_u.out l_v (by have := E_q.out; omega) (by have h1 := E_D4.out; have h2 := E_q.out; omega) E_D.out (by have := E_e0.out; omega) E_e1.out E_e2.out (by have := E_y0.out; omega) E_y1.out E_y2.out
        have hl := lim_of (updN h (blkN (mm.take 16)) r) y0 y1 y2 l_y0 l_y1 hF.symm
        have hok2 := updN_ok h (blkN (mm.take 16)) r HOK.out (blkN_lt _ (by simp; omega)) HRL.out
        have hp2 : polyA r (updN h (blkN (mm.take 16)) r % p5) (mm.drop 16) = polyA r (hh % p5) m := by
          rw [updN_mod, ← HP.out, polyA_step r (h % p5) mm (by intro e; subst e; simp at hlt)]
        exact ⟨mm.drop 16, some ⟨gm, o2, none⟩, c2 - 16, updN h (blkN (mm.take 16)) r, y0, y1, y2, by rw [l16], rfl, rfl, rfl, hl, by unfold Hid; rw [List.length_drop]; have := HM.out; omega, by rw [List.length_drop]; omega, range_at (by have h := HRG2.out; unfold u8s at h ⊢; rw [List.map_drop]; exact h), hok2, hp2, hb⟩
    · have h0 : mm = [] := List.eq_nil_of_length_eq_zero (by omega)
      have hfin : h % p5 = polyA r (hh % p5) m := by rw [← HP.out, h0, polyA_nil]
      have HFIN := Lib.hid hfin
      have d1 : decide (0 < mm.length) = false := by simp; omega
      have hS1 := hS.below hb
      have hx := HX.out
      have HX2 := HX
      have c0 := hS1.cell 0 (by simp [stC])
      have c1 := hS1.cell 1 (by simp [stC])
      have c2' := hS1.cell 2 (by simp [stC])
      have f0' := hS1.fr 0
      have f1' := hS1.fr 1
      have f2' := hS1.fr 2
      simp only [stC, List.getElem_cons_succ, List.getElem_cons_zero] at c0 c1 c2'
      clear hfin h0 HP HX hx hlt
      go_wp2_with fail
      go_region
      go_end0
      have hx := HX2.out
      have hA := ((hS1.set 0 (.int .u64 (x0 : Int)) (by simp [stC])).set 1 (.int .u64 (x1 : Int)) (by simp [stC])).set 2 (.int .u64 (x2 : Int)) (by simp [stC])
      simp only [stC, List.set_cons_zero, List.set_cons_succ] at hA
      refine ⟨rfl, h, HOK.out, by rw [← HR.out]; exact HFIN.out, ?_, ?_⟩
      · rw [stC, ← hx.1, ← hx.2.1, ← hx.2.2]; exact hA
      · have hg : w.grownBy wr (some g) := ⟨hb.os, hb.tape, hb.output, hb.size, fun k hk _ => hb.block k hk⟩
        exact grown_drewN (grown_set0 (grown_set0 (grown_set0 hg 0 _) 1 _) 2 _) 1
end Go.Proofs.YtkocgogpbammaaaDoor

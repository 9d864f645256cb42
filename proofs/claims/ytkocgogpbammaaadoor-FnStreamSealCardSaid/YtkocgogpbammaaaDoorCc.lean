/- The reference's joined. Conditions: sizes. -/
import Derived.Test.YtkocgogpbammaaaDoorSj
import Derived.Test.YtkocgogpbammaaaDoorRp
set_option linter.unusedVariables false
set_option linter.unusedSimpArgs false
namespace Go.Proofs.YtkocgogpbammaaaDoor
open Go.RowKit

/-- A slice whose bytes are l. -/
def IsL (w : World) (v : Value) (l : List UInt8) : Prop := ∃ a c, v = .slice a l.length c ∧ At w a (u8s l)
theorem IsL.below {w w' : World} {v : Value} {l : List UInt8} (h : IsL w v l) (hb : Below w.heap.size w w') : IsL w' v l := by
  obtain ⟨a, c, h1, h2⟩ := h
  exact ⟨a, c, h1, h2.below hb⟩
theorem IsL.slice {w : World} {v : Value} {l : List UInt8} (h : IsL w v l) : ∃ a m c, v = .slice a m c ∧ IsL w (.slice a m c) l := by
  obtain ⟨a, c, h1, h2⟩ := h
  exact ⟨a, _, c, h1, a, c, rfl, h2⟩
theorem Own.isL {w : World} {base : Nat} {v : Value} {l : List UInt8} (h : Own w base 5 v (u8s l)) : IsL w v l := by
  obtain ⟨a, c, h1, -, h3, -⟩ := h.at
  rw [u8s_length] at h1
  exact ⟨a, c, h1, h3⟩

set_option maxRecDepth 100000 in
set_option maxHeartbeats 2000000 in
theorem joined_any (w : World) (g o n c : Nat) (vs : List Value) (ls : List (List UInt8)) (hn : n = vs.length) (hls : ls.length = n) (hnb : n ≤ 1000) (hr : w.rangeAt g o vs) (hL : ∀ k (h1 : k < vs.length) (h2 : k < ls.length), IsL w vs[k] ls[k]) (hbig : ls.flatten.length ≤ 4294967296) :
    Calls Tryd.prog 21 #[.slice (some ⟨g, o, none⟩) n c] w fun e w' => ∃ v, e = .returned v ∧ Own w' w.heap.size 5 v (u8s ls.flatten) ∧ Below w.heap.size w w' := by
  have HR := Lib.hid hr
  have HL := Lib.hid hL
  have HN := Lib.hid hn
  have HLS := Lib.hid hls
  have HB := Lib.hid hbig
  clear hr hL hn hls hbig
  go_enter Tryd.func21, Tryd.ntmps21
  go_wp2_with fail
  go_loopw [3, 9] (fun v iv wr => ∃ k : Nat, k ≤ n ∧ iv = .int .i64 k ∧ Own wr w.heap.size 5 v (u8s (ls.take k).flatten) ∧ Below w.heap.size w wr) (fun _ iv _ => n - (intOf iv).toNat)
  case atStart => exact ⟨0, Nat.zero_le _, rfl, Own.empty w _ _ (Nat.le_refl _), (Below.refl _ _).alloc (Nat.le_refl _) _⟩
  case round =>
    obtain ⟨k, hk, rfl, hown, hb⟩ := hrel
    by_cases hlk : k < n
    · have hdk : decide ((k : Int) < (n : Int)) = true := decide_eq_true (by omega)
      have hdk2 : decide (k < n) = true := decide_eq_true hlk
      have hkv : k < vs.length := by rw [← HN.out]; exact hlk
      have hkl : k < ls.length := by rw [HLS.out]; exact hlk
      obtain ⟨a, cc, hv, hat⟩ := HL.out k hkv hkl
      have hcell : wr.cell? ⟨g, o + k, none⟩ = some (.slice a (ls[k]).length cc) := by
        rw [← hv]
        exact range_below HR.out hb k _ (List.getElem?_eq_getElem hkv)
      have hat' := hat.below hb
      have htk : (ls.take (k + 1)).flatten = (ls.take k).flatten ++ ls[k] := by rw [List.take_succ_eq_append_getElem hkl, List.flatten_append]; simp
      have HT : Hid (u8s (ls.take (k + 1)).flatten = u8s (ls.take k).flatten ++ u8s ls[k]) := Lib.hid (by rw [htk, u8s_append])
      have hfl : (ls.take (k + 1)).flatten.length ≤ 4294967296 := by
        have h : ls.flatten = (ls.take (k + 1)).flatten ++ (ls.drop (k + 1)).flatten := by rw [← List.flatten_append, List.take_append_drop]
        have h2 := HB.out
        rw [h, List.length_append] at h2
        omega
      rw [htk, List.length_append] at hfl
      have hs : w.heap.size ≤ wr.heap.size := hb.size
      have c1 : ((u8s (ls.take k).flatten).length + (u8s ls[k]).length) * 1 ≤ 140737488355328 := by simp only [u8s_length]; omega
      have c2 : (u8s (ls.take k).flatten).length + (u8s ls[k]).length ≤ maxLen := by simp only [u8s_length, maxLen]; omega
      have hul := u8s_length ls[k]
      have ho8 := u8s_oneCell ls[k]
      generalize u8s ls[k] = L at *
      generalize (ls[k]).length = m at *
      generalize u8s (ls.take k).flatten = O at *
      have HFL := Lib.hid hfl
      clear htk hv hat hfl hkv
      go_wp2_with (at_builtin; refine wpList_appendN sty8 rfl (.tmp 13) (.tmp 14) rfl w.heap.size _ _ rfl hown _ L _ _ rfl hul hat' ho8 c1 c2 hs ?_; intro v' w1 hown' hgr)
      have hb1 := below_grown hb hown hgr (Nat.le_refl _) hs
      go_roundw
      case rel => exact ⟨k + 1, hlk, by go_num, by rw [HT.out]; exact hown', hb1⟩
      case measure => simp [intOf]; omega
    · have hdk : decide ((k : Int) < (n : Int)) = false := decide_eq_false (by omega)
      have hdk2 : decide (k < n) = false := decide_eq_false hlk
      have hkn : k = n := by omega
      rw [hkn, List.take_of_length_le (by rw [HLS.out]; exact Nat.le_refl _)] at hown
      clear hkn hlk hk
      go_wp2
      go_ret
      exact ⟨_, rfl, hown, hb⟩
end Go.Proofs.YtkocgogpbammaaaDoor

/- The reference's ChaCha. Conditions: a key of 32 bytes, a nonce of 12, no data, sizes. -/

namespace Go.Proofs.YtkocgogpbammaaaDoor
open Go.RowKit

theorem k64_size : (Tryd.prog.info? 61).map (·.size) = some 64 := by kernel_rfl
theorem ct_get (key nonce text : List UInt8) (k : Nat) (h : k < text.length) : (ctOf key nonce text).take (k + 1) = (ctOf key nonce text).take k ++ [text[k] ^^^ (ksb (st0 key (1 + k / 64) nonce)).getD (k % 64) 0] := by
  have hl : k < (ctOf key nonce text).length := by rw [ctOf_length]; exact h
  rw [List.take_succ_eq_append_getElem hl]
  congr 2
  simp only [ctOf, XM, List.getElem_mapIdx]
  rw [if_pos h]
  rfl
theorem pk_eq (key nonce : List UInt8) : (ksb (st0 key 0 nonce)).take 32 = pkOf key nonce := by
  have hkl : (ksb (st0 key 0 nonce)).length = 64 := by simp [ksb]
  apply List.ext_getElem (by rw [List.length_take, pkOf_length, hkl]; rfl)
  intro j h1 h2
  have hj : j < 32 := by rw [pkOf_length] at h2; exact h2
  rw [List.getElem_take]
  simp only [pkOf, XM, List.getElem_mapIdx]
  rw [if_pos hj]
  have hz : zer32[j]'(by simp [zer32]; exact hj) = 0 := by
    have h3 : ∀ x ∈ zer32, x = 0 := by decide
    exact h3 _ (List.getElem_mem _)
  rw [hz, UInt8.zero_xor]
  unfold ksf
  rw [show 0 + j / 64 = 0 by omega, Nat.mod_eq_of_lt (show j < 64 by omega), List.getD_eq_getElem?_getD]
  have e : st0 key 0 nonce = stW (kwOf key) 0 (nwOf nonce) := rfl
  rw [← e, List.getElem?_eq_getElem (by omega)]
  rfl

theorem Own.over {w0 w w' : World} {base k : Nat} {e : TypeId} {v : Value} {vs : List Value} (h : Own w0 base e v vs) (hb : Below w0.heap.size w0 w) (hg : w.grownBy w' (some k)) (hk : w0.heap.size ≤ k) : Own w' base e v vs :=
  h.of_block fun j hj => by
    have hl := (h.lt j hj).2
    rw [hg.block j (Nat.lt_of_lt_of_le hl hb.size) (fun e => by have := Option.some.inj e; omega)]
    exact hb.block j hl

set_option maxRecDepth 100000 in
set_option maxHeartbeats 8000000 in
theorem chacha_any (w : World) (gk ok ck gn on cn : Nat) (ta : Option Addr) (tc : Nat) (key nonce text : List UInt8) (hk : key.length = 32) (hn : nonce.length = 12) (hck : 32 ≤ ck) (hcn : 12 ≤ cn) (hK : w.rangeAt gk ok (u8s key)) (hNR : w.rangeAt gn on (u8s nonce)) (hT : At w ta (u8s text)) (hbig : text.length ≤ 100000000) :
    Calls Tryd.prog 13 #[.slice (some ⟨gk, ok, none⟩) 32 ck, .slice (some ⟨gn, on, none⟩) 12 cn, .slice ta text.length tc, .slice none 0 0] w fun e w' => ∃ v, e = .returned v ∧ Own w' w.heap.size 5 v (u8s (sealedOf key nonce text)) ∧ Below w.heap.size w w' := by
  obtain ⟨n, hnn⟩ : ∃ n, n = text.length := ⟨_, rfl⟩
  obtain ⟨ct, hct⟩ : ∃ ct, ct = ctOf key nonce text := ⟨_, rfl⟩
  have hctl : ct.length = n := by rw [hct, ctOf_length, hnn]
  have HCT := Lib.hid hct
  have HNN := Lib.hid hnn
  have HK := Lib.hid hk
  have HNL := Lib.hid hn
  have HKR := Lib.hid hK
  have HNR := Lib.hid hNR
  have HT := Lib.hid hT
  rw [← hnn] at hbig ⊢
  clear hct hnn hk hn hK hNR hT
  go_enter Tryd.func13, Tryd.ntmps13
  go_wp2_with fail
  go_loopw [9, 18] (fun v iv wr => ∃ k : Nat, k ≤ n ∧ iv = .int .i64 k ∧ Own wr w.heap.size 5 v (u8s (ct.take k)) ∧ Below w.heap.size w wr) (fun _ iv _ => n - (intOf iv).toNat)
  case atStart => exact ⟨0, Nat.zero_le _, rfl, Own.empty w _ _ (Nat.le_refl _), (Below.refl _ _).alloc (Nat.le_refl _) _⟩
  case round =>
    obtain ⟨k, hk, rfl, hown, hb⟩ := hrel
    by_cases hlk : k < n
    · have hdk : decide ((k : Int) < (n : Int)) = true := decide_eq_true (by omega)
      have hdk2 : decide (k < n) = true := decide_eq_true hlk
      have hkt : k < text.length := by rw [← HNN.out]; exact hlk
      obtain ⟨gt, ot, rfl, hcell⟩ := HT.out (by rw [u8s_length]; omega)
      have hcx0 := hcell k (by rw [u8s_length]; exact hkt)
      have hcx : wr.cell? ⟨gt, ot + k, none⟩ = some (.int .u8 ((text[k]).toNat : Int)) := by
        have h1 : gt < w.heap.size := World.block_lt_of_cell? w _ hcx0
        rw [World.cell?_of_block (a := ⟨gt, ot + k, none⟩) (hb.block gt h1), hcx0, u8s_get]
      obtain ⟨q, hq⟩ : ∃ q, q = k / 64 := ⟨_, rfl⟩
      obtain ⟨q1, hq1⟩ : ∃ q, q = 1 + k / 64 := ⟨_, rfl⟩
      obtain ⟨r, hr⟩ : ∃ r, r = k % 64 := ⟨_, rfl⟩
      have lr : r < 64 := by omega
      have eq1 : IntKind.i64.wrap ((k : Int) / 64) = (q : Int) := (IntWalk.i64_in _ (by omega)).trans (by omega)
      have eq2 : IntKind.i64.wrap (1 + (q : Int)) = (q1 : Int) := (IntWalk.i64_in _ (by omega)).trans (by omega)
      have eq3 : IntKind.u32.wrap (q1 : Int) = (q1 : Int) := IntWalk.u32_in _ (by omega)
      have em : (k : Int).tmod 64 = (r : Int) := by rw [Int.tmod_eq_emod_of_nonneg (by omega)]; omega
      have hstep := ct_get key nonce text k hkt
      rw [← HCT.out, ← hq1, ← hr] at hstep
      have hcl : ((ksb (st0 key q1 nonce))).length = 64 := by simp [ksb]
      have hST := stream_any wr gk ok ck gn on cn key nonce q1 HK.out HNL.out (by omega) hck hcn (range_below HKR.out hb) (range_below HNR.out hb)
      generalize ksb (st0 key q1 nonce) = blk at *
      have hbr : blk.getD r 0 = blk[r]'(by omega) := by rw [List.getD_eq_getElem?_getD, List.getElem?_eq_getElem (by omega)]; rfl
      rw [hbr] at hstep
      generalize text[k] = x at *
      obtain ⟨y, hy⟩ : ∃ y, y = blk[r]'(by omega) := ⟨_, rfl⟩
      rw [← hy] at hstep
      have ex : bits .xor .u8 (x.toNat : Int) (y.toNat : Int) = ((x ^^^ y).toNat : Int) := by rw [UInt8.toNat_xor]; exact u8_xor_nat _ _ (UInt8.toNat_lt x) (UInt8.toNat_lt y)
      have HSTEP : Hid (u8s (ct.take (k + 1)) = u8s (ct.take k) ++ [Value.int .u8 ((x ^^^ y).toNat : Int)]) := Lib.hid (by rw [hstep, u8s_append]; rfl)
      generalize (x ^^^ y).toNat = z at *
      have hcell0 : (u8s blk)[r]? = some (.int .u8 (y.toNat : Int)) := by
        simp only [u8s, List.getElem?_map]
        rw [List.getElem?_eq_getElem (show r < blk.length by omega), ← hy]
        rfl
      have HST := Lib.hid hST
      have hs : w.heap.size ≤ wr.heap.size := hb.size
      have hOl : (u8s (ct.take k)).length = k := by rw [u8s_length, List.length_take]; omega
      clear hST hbr hy hstep hq hq1 hr hcell hcx0 hkt
      go_wp2_with fail
      refine HST.out.mono ?_
      rintro e w5 ⟨rfl, hb5⟩
      have hown5 := hown.below hb5
      have hb5' := hb.trans (hb5.mono hb.size)
      have hs5 := hb5.size
      have hcx5 : w5.cell? ⟨gt, ot + k, none⟩ = some (.int .u8 (x.toNat : Int)) := (World.cell?_of_block (a := ⟨gt, ot + k, none⟩) (hb5.block gt (World.block_lt_of_cell? wr _ hcx))).trans hcx
      have hZ : Arr (w5.alloc (.cells (u8s zer64).toArray 61)) w5.heap.size 61 (u8s zer64) := arr_new w5 _ _
      have hb6 := Below.alloc hb5' hb5'.size (.cells (u8s zer64).toArray 61)
      clear hcx HST hown hb hb5
      go_wp2_with (refine wpList_storeV k64_size rfl (.tmp 12) (.tmp 29) rfl w5.heap.size (u8s blk) (u8s zer64) (by rw [u8s_length, hcl]) (by simp [zer64]) (u8s_oneCell _) rfl rfl hZ ?_; intro w7 hB7 hg7; refine Hid.out ?_)
      have hown7 := hown5.over (below_alloc w5 _) hg7 (Nat.le_refl _)
      have hb7 := bkept hb6 hg7 (by omega) hb6.size
      have hs7 := hb7.size
      have hcx7 : w7.cell? ⟨gt, ot + k, none⟩ = some (.int .u8 (x.toNat : Int)) := by
        have h1 := World.block_lt_of_cell? w5 _ hcx5
        rw [World.cell?_of_block (a := ⟨gt, ot + k, none⟩) (hg7.block gt (Nat.lt_trans h1 hZ.lt) (fun e => absurd (Option.some.inj e) (Nat.ne_of_lt h1))), World.cell?_of_block (a := ⟨gt, ot + k, none⟩) (Below.heap_alloc w5 _ gt h1)]
        exact hcx5
      have hcr : w7.cell? ⟨w5.heap.size, r, none⟩ = some (.int .u8 (y.toNat : Int)) := hB7.cellE hcell0
      have q1' : ((u8s (ct.take k)).length + 1) * 1 ≤ 140737488355328 := by rw [hOl]; omega
      have q2' : (u8s (ct.take k)).length + 1 ≤ maxLen := by rw [hOl]; simp [maxLen]; omega
      clear hown5 hZ hg7 hb6 hb5' hcx5
      refine Lib.hid ?_
      go_wp2_with (at_builtin; refine wpList_append1 sty8 rfl _ _ rfl w.heap.size _ _ rfl hown7 _ _ rfl rfl q1' q2' hs7 ?_; intro v8 w8 hown8 hg8)
      have hb8 := below_grown hb7 hown7 hg8 (Nat.le_refl _) hs7
      go_roundw
      case rel => exact ⟨k + 1, hlk, by go_num, by rw [HSTEP.out]; exact hown8, hb8⟩
      case measure => simp [intOf]; omega
    · have hdk : decide ((k : Int) < (n : Int)) = false := decide_eq_false (by omega)
      have hdk2 : decide (k < n) = false := decide_eq_false hlk
      have hkn : k = n := by omega
      rw [hkn, List.take_of_length_le (by rw [hctl]; exact Nat.le_refl _)] at hown
      clear hkn hlk hk
      have HST := Lib.hid (stream_any wr gk ok ck gn on cn key nonce 0 HK.out HNL.out (by decide) hck hcn (range_below HKR.out hb) (range_below HNR.out hb))
      obtain ⟨b0, hb0⟩ : ∃ b, b = ksb (st0 key 0 nonce) := ⟨_, rfl⟩
      have hb0l : b0.length = 64 := by rw [hb0, ksb_length]
      have hpk : b0.take 32 = pkOf key nonce := by rw [hb0, pk_eq]
      rw [← hb0] at HST
      have HPK := Lib.hid hpk
      clear hb0 hpk
      go_wp2_with fail
      refine HST.out.mono ?_
      rintro e w5 ⟨rfl, hb5⟩
      have hown5 := hown.below hb5
      have hb5' := hb.trans (hb5.mono hb.size)
      have hZ : Arr (w5.alloc (.cells (u8s zer64).toArray 61)) w5.heap.size 61 (u8s zer64) := arr_new w5 _ _
      have hb6 := Below.alloc hb5' hb5'.size (.cells (u8s zer64).toArray 61)
      clear HST hown hb hb5
      go_wp2_with (refine wpList_storeV k64_size rfl (.tmp 13) (.tmp 42) rfl w5.heap.size (u8s b0) (u8s zer64) (by rw [u8s_length, hb0l]) (by simp [zer64]) (u8s_oneCell _) rfl rfl hZ ?_; intro w7 hB7 hg7; refine Hid.out ?_)
      have hown7 := hown5.over (below_alloc w5 _) hg7 (Nat.le_refl _)
      have hb7 := bkept hb6 hg7 hb5'.size hb6.size
      have hB7l := hB7.lt
      obtain ⟨g13, hg13⟩ : ∃ g, g = w5.heap.size := ⟨_, rfl⟩
      have hg13w : w.heap.size ≤ g13 := by rw [hg13]; exact hb5'.size
      rw [← hg13] at hB7 hB7l ⊢
      clear hown5 hZ hg7 hb6 hb5' hg13
      obtain ⟨a9, c9, rfl, -, hat9, hab9⟩ := hown7.at
      rw [u8s_length, hctl] at hown7 ⊢
      have hP0 := padding_any w7 none 0 [] (by decide)
      have HP0 := Lib.hid hP0
      clear hP0
      refine Lib.hid ?_
      go_wp2_with fail
      refine HP0.out.mono ?_
      rintro e w8 ⟨v8, rfl, hO8, hb8⟩
      have hown8 := hown7.below hb8
      have hB8 := hB7.below hb8
      have hbb8 := hb7.trans (hb8.mono hb7.size)
      have hat8 := hat9.below hb8
      obtain ⟨a8, m8, c8, rfl, hI8⟩ := hO8.isL.slice
      clear HP0 hown7 hB7 hb7 hat9 hO8 hb8
      have hP1 := padding_any w8 a9 c9 ct (by omega)
      rw [hctl] at hP1
      have HP1 := Lib.hid hP1
      clear hP1
      go_wp2_with fail
      refine HP1.out.mono ?_
      rintro e w9 ⟨v9, rfl, hO9, hb9⟩
      have hown9 := hown8.below hb9
      have hB9 := hB8.below hb9
      have hbb9 := hbb8.trans (hb9.mono hbb8.size)
      have hat9 := hat8.below hb9
      have hI8' := hI8.below hb9
      obtain ⟨a7, m7, c7, rfl, hI9⟩ := hO9.isL.slice
      clear HP1 hown8 hB8 hbb8 hat8 hI8 hO9 hb9
      have hba := below_alloc w9 (.cells [Value.slice none 0 0, .slice a8 m8 c8, .slice a9 n c9, .slice a7 m7 c7].toArray 23)
      have hrow := arr_new w9 [Value.slice none 0 0, .slice a8 m8 c8, .slice a9 n c9, .slice a7 m7 c7] 23
      obtain ⟨L1, hL1⟩ : ∃ L, L = [([] : List UInt8), List.replicate (padN ([] : List UInt8).length) 0, ct, List.replicate (padN n) 0] := ⟨_, rfl⟩
      have hF1 : L1.flatten = padB [] ++ padB ct := by rw [hL1]; simp [padB, hctl]
      have hJ1 : ∀ k (h1 : k < [Value.slice none 0 0, Value.slice a8 m8 c8, Value.slice a9 n c9, Value.slice a7 m7 c7].length) (h2 : k < L1.length), IsL (w9.alloc (.cells [Value.slice none 0 0, .slice a8 m8 c8, .slice a9 n c9, .slice a7 m7 c7].toArray 23)) [Value.slice none 0 0, Value.slice a8 m8 c8, Value.slice a9 n c9, Value.slice a7 m7 c7][k] L1[k] := by
        subst hL1
        intro k h1 h2
        match k, h1, h2 with
        | 0, _, _ => exact ⟨none, 0, rfl, fun h => absurd h (by simp [u8s])⟩
        | 1, _, _ => exact hI8'.below hba
        | 2, _, _ => exact ⟨a9, c9, by simp [hctl], hat9.below hba⟩
        | 3, _, _ => exact hI9.below hba
      have hpB : (padB ([] : List UInt8) ++ padB ct).length ≤ 200000000 := by
        simp only [padB, List.length_append, List.length_replicate, List.length_nil, padN, hctl]; omega
      have HJ1 := Lib.hid (joined_any (w9.alloc (.cells [Value.slice none 0 0, .slice a8 m8 c8, .slice a9 n c9, .slice a7 m7 c7].toArray 23)) w9.heap.size 0 4 4 [Value.slice none 0 0, .slice a8 m8 c8, .slice a9 n c9, .slice a7 m7 c7] L1 rfl (by rw [hL1]; rfl) (by decide) hrow.range hJ1 (by rw [hF1]; omega))
      rw [hF1] at HJ1
      have hownA := hown9.below hba
      have hBA := hB9.below hba
      have hbbA := hbb9.trans (hba.mono hbb9.size)
      have hatA := hat9.below hba
      clear hrow hJ1 hF1 hL1 hown9 hB9 hbb9 hat9 hI8' hI9 hba
      go_wp2_with fail
      refine HJ1.out.mono ?_
      rintro e w10 ⟨v10, rfl, hO10, hb10⟩
      have hown10 := hownA.below hb10
      have hB10 := hBA.below hb10
      have hbb10 := hbbA.trans (hb10.mono hbbA.size)
      obtain ⟨a10, m10, c10, rfl, hI10⟩ := hO10.isL.slice
      clear HJ1 hownA hBA hbbA hatA hO10 hb10
      go_wp2_with fail
      refine (lowest_any w10 0 (by decide)).mono ?_
      rintro e w11 ⟨v11, rfl, hO11, hb11⟩
      have hown11 := hown10.below hb11
      have hB11 := hB10.below hb11
      have hbb11 := hbb10.trans (hb11.mono hbb10.size)
      have hI10' := hI10.below hb11
      obtain ⟨a11, m11, c11, rfl, hI11⟩ := hO11.isL.slice
      clear hown10 hB10 hbb10 hI10 hO11 hb11
      go_wp2_with fail
      refine (lowest_any w11 n (by omega)).mono ?_
      rintro e w12 ⟨v12, rfl, hO12, hb12⟩
      have hown12 := hown11.below hb12
      have hB12 := hB11.below hb12
      have hbb12 := hbb11.trans (hb12.mono hbb11.size)
      have hI10' := hI10'.below hb12
      have hI11' := hI11.below hb12
      obtain ⟨a12, m12, c12, rfl, hI12⟩ := hO12.isL.slice
      clear hown11 hB11 hbb11 hI11 hO12 hb12
      have hbb := below_alloc w12 (.cells [Value.slice a10 m10 c10, .slice a11 m11 c11, .slice a12 m12 c12].toArray 23)
      have hrow := arr_new w12 [Value.slice a10 m10 c10, .slice a11 m11 c11, .slice a12 m12 c12] 23
      obtain ⟨L2, hL2⟩ : ∃ L, L = [padB [] ++ padB ct, Lib.leBytes 8 0, Lib.leBytes 8 n] := ⟨_, rfl⟩
      have hF2 : L2.flatten = mOf ct := by rw [hL2]; simp [mOf, hctl]
      have hJ2 : ∀ k (h1 : k < [Value.slice a10 m10 c10, Value.slice a11 m11 c11, Value.slice a12 m12 c12].length) (h2 : k < L2.length), IsL (w12.alloc (.cells [Value.slice a10 m10 c10, .slice a11 m11 c11, .slice a12 m12 c12].toArray 23)) [Value.slice a10 m10 c10, Value.slice a11 m11 c11, Value.slice a12 m12 c12][k] L2[k] := by
        subst hL2
        intro k h1 h2
        match k, h1, h2 with
        | 0, _, _ => exact hI10'.below hbb
        | 1, _, _ => exact hI11'.below hbb
        | 2, _, _ => exact hI12.below hbb
      have hml : (mOf ct).length ≤ 300000000 := by
        unfold mOf
        rw [List.length_append, List.length_append, Lib.leBytes_length, Lib.leBytes_length]; omega
      have hm0 : 0 < (mOf ct).length := by
        unfold mOf
        rw [List.length_append, List.length_append, Lib.leBytes_length]; omega
      have HJ2 := Lib.hid (joined_any (w12.alloc (.cells [Value.slice a10 m10 c10, .slice a11 m11 c11, .slice a12 m12 c12].toArray 23)) w12.heap.size 0 3 3 [Value.slice a10 m10 c10, .slice a11 m11 c11, .slice a12 m12 c12] L2 rfl (by rw [hL2]; rfl) (by decide) hrow.range hJ2 (by rw [hF2]; omega))
      rw [hF2] at HJ2
      have hownA := hown12.below hbb
      have hBA := hB12.below hbb
      have hbbA := hbb12.trans (hbb.mono hbb12.size)
      clear hrow hJ2 hF2 hL2 hown12 hB12 hbb12 hI10' hI11' hI12 hbb hpB
      go_wp2_with fail
      refine HJ2.out.mono ?_
      rintro e w13 ⟨v13, rfl, hO13, hb13⟩
      have hown13 := hownA.below hb13
      have hB13 := hBA.below hb13
      have hbb13 := hbbA.trans (hb13.mono hbbA.size)
      obtain ⟨gm, cm, rfl, hgm, hgm2, hmc, hmm, hmr⟩ := hO13.row (by rw [u8s_length]; exact hm0)
      obtain ⟨ml, hmle⟩ : ∃ x, x = (mOf ct).length := ⟨_, rfl⟩
      rw [u8s_length, ← hmle] at hmc ⊢
      have hpr : w13.rangeAt g13 0 (u8s (pkOf key nonce)) := by
        have h : Arr w13 g13 61 ([] ++ u8s (b0.take 32) ++ u8s (b0.drop 32)) := by rw [List.nil_append, ← u8s_append, List.take_append_drop]; exact hB13
        rw [HPK.out] at h
        exact range_piece h 0 rfl
      have HPOL := Lib.hid (poly_any w13 g13 0 64 gm 0 cm ml (pkOf key nonce) (mOf ct) (pkOf_length _ _) (by decide) hmle hmc (by omega) hpr hmr)
      clear HJ2 hownA hBA hbbA hO13 hb13 hpr hmr hB13 hmle hml hm0
      go_wp2_with fail
      refine HPOL.out.mono ?_
      rintro e w14 ⟨v14, rfl, hO14, hb14⟩
      have hown14 := hown13.below hb14
      have hbb14 := hbb13.trans (hb14.mono hbb13.size)
      obtain ⟨a14, c14, rfl, -, hat14, -⟩ := hO14.at
      rw [u8s_length, polyT_length]
      have hs14 := hbb14.size
      have r1 : ((u8s ct).length + (u8s (polyT (pkOf key nonce) (mOf ct))).length) * 1 ≤ 140737488355328 := by rw [u8s_length, u8s_length, polyT_length, hctl]; omega
      have r2 : (u8s ct).length + (u8s (polyT (pkOf key nonce) (mOf ct))).length ≤ maxLen := by rw [u8s_length, u8s_length, polyT_length, hctl]; unfold maxLen; omega
      have r3 : (u8s (polyT (pkOf key nonce) (mOf ct))).length = 16 := by rw [u8s_length, polyT_length]
      clear HPOL hown13 hbb13 hb14 hO14
      go_wp2_with (at_builtin; refine wpList_appendN sty8 rfl (.tmp 60) (.tmp 63) rfl w.heap.size _ _ rfl hown14 _ (u8s (polyT (pkOf key nonce) (mOf ct))) _ _ rfl r3 hat14 (u8s_oneCell _) r1 r2 hs14 ?_; intro v15 w15 hown15 hg15)
      have hb15 := below_grown hbb14 hown14 hg15 (Nat.le_refl _) hs14
      go_wp2
      go_ret
      refine ⟨_, rfl, ?_, hb15⟩
      rw [show sealedOf key nonce text = ct ++ polyT (pkOf key nonce) (mOf ct) by unfold sealedOf tagOf; rw [← HCT.out], u8s_append]
      exact hown15
end Go.Proofs.YtkocgogpbammaaaDoor

/- The reference's Step. Conditions: numbers below 2^256. (Printed by wip/genstep2.py.) -/
import Derived.Test.YthjminkkmljjhaaGreatDoorSs
import Derived.Deep.Cut
namespace Go.Proofs.YthjminkkmljjhaaGreatDoor
open Go.RowKit

def zerosW : List Nat := zerosN ++ (zerosN ++ (zerosN ++ (zerosN ++ zerosN)))
abbrev objW (l : List Nat) : Obj := .cells (u64s l).toArray 59
structure LsLt (s : LS) : Prop where
  x2 : s.x2 < 115792089237316195423570985008687907853269984665640564039457584007913129639936
  z2 : s.z2 < 115792089237316195423570985008687907853269984665640564039457584007913129639936
  x3 : s.x3 < 115792089237316195423570985008687907853269984665640564039457584007913129639936
  z3 : s.z3 < 115792089237316195423570985008687907853269984665640564039457584007913129639936
theorem swp_lt {b : Nat} {s : LS} (h : LsLt s) : LsLt (swp b s) := by
  obtain ⟨h1, h2, h3, h4⟩ := h
  unfold swp; split
  · exact ⟨h3, h4, h1, h2⟩
  · exact ⟨h1, h2, h3, h4⟩
theorem dbl_lt (u : Nat) (s : LS) : LsLt (dbl u s) := ⟨n_lt (mulm_lt _ _), n_lt (mulm_lt _ _), n_lt (mulm_lt _ _), n_lt (mulm_lt _ _)⟩
theorem there_part {w : World} {g o m n : Nat} (h : w.there g 0 n) (hm : o + m ≤ n) : w.there g o m := by
  intro j hj
  have := h (o + j) (by omega)
  rwa [Nat.zero_add] at this
theorem grown_setCells {g : Nat} : ∀ (vs : List Value) (o : Nat) (w w' : World), w.grownBy w' (some g) → w.grownBy (w'.setCells g o vs) (some g)
  | [], _, _, _, h => h
  | v :: r, o, w, w', h => grown_setCells r (o + 1) w _ ⟨h.os, h.tape, h.output, by have := h.size; simpa [World.setCell] using this, fun k hk hne => by rw [Below.heap_setCell _ _ _ _ (fun e => hne (by rw [e]))]; exact h.block k hk hne⟩
theorem grown_trans' {w w1 w2 : World} {r : Option Nat} (h : w.grownBy w1 r) (k : w1.grownBy w2 r) : w.grownBy w2 r :=
  ⟨k.os.trans h.os, k.tape.trans h.tape, k.output.trans h.output, Nat.le_trans h.size k.size, fun i hi hne => (k.block i (Nat.lt_of_lt_of_le hi h.size) hne).trans (h.block i hi hne)⟩
section
variable {ops : Array Oper} {rest : List Oper} {o : Oper} {act : Act} {w : World} {Q : Exit → Act → World → Prop}
theorem wpList_storeW1 (hgd : o.guard = none) (x y : Operand) (ho : o.op = .store 56 x y) (g u a b c d v : Nat) (hx : act.eval x = .pointer (some ⟨g, 16, none⟩)) (hy : act.eval y = nv (dig 16 v)) (hR : WAt w g u ⟨a, b, c, d⟩)
    (h : ∀ w', WAt w' g u ⟨v, b, c, d⟩ → w.grownBy w' (some g) → wpList Tryz.prog ops Q rest (act.put o.dst undef) w') : wpList Tryz.prog ops Q (o :: rest) act w := by
  have h1 := arr_setCells (u64s (dig 16 v)) 16 w _ hR (by simp)
  simp only [u64s_length, dig_length, Nat.reduceAdd] at h1
  rw [l5_swap1] at h1
  exact wpList_store_mid hgd _ x y ho g 16 (u64s (dig 16 v)).toArray hx hy (by have h3 := there_part (o := 16) (m := 16) (Arr.there hR) (by simp); simpa using h3) (by rw [n_size]; simp) (by rw [all_oneCell_toArray (u64s_oneCell _)]) (h _ h1 (grown_setCells _ _ _ _ (World.grownBy.refl _ _)))
theorem wpList_storeW2 (hgd : o.guard = none) (x y : Operand) (ho : o.op = .store 56 x y) (g u a b c d v : Nat) (hx : act.eval x = .pointer (some ⟨g, 32, none⟩)) (hy : act.eval y = nv (dig 16 v)) (hR : WAt w g u ⟨a, b, c, d⟩)
    (h : ∀ w', WAt w' g u ⟨a, v, c, d⟩ → w.grownBy w' (some g) → wpList Tryz.prog ops Q rest (act.put o.dst undef) w') : wpList Tryz.prog ops Q (o :: rest) act w := by
  have h1 := arr_setCells (u64s (dig 16 v)) 32 w _ hR (by simp)
  simp only [u64s_length, dig_length, Nat.reduceAdd] at h1
  rw [l5_swap2] at h1
  exact wpList_store_mid hgd _ x y ho g 32 (u64s (dig 16 v)).toArray hx hy (by have h3 := there_part (o := 32) (m := 16) (Arr.there hR) (by simp); simpa using h3) (by rw [n_size]; simp) (by rw [all_oneCell_toArray (u64s_oneCell _)]) (h _ h1 (grown_setCells _ _ _ _ (World.grownBy.refl _ _)))
theorem wpList_storeW3 (hgd : o.guard = none) (x y : Operand) (ho : o.op = .store 56 x y) (g u a b c d v : Nat) (hx : act.eval x = .pointer (some ⟨g, 48, none⟩)) (hy : act.eval y = nv (dig 16 v)) (hR : WAt w g u ⟨a, b, c, d⟩)
    (h : ∀ w', WAt w' g u ⟨a, b, v, d⟩ → w.grownBy w' (some g) → wpList Tryz.prog ops Q rest (act.put o.dst undef) w') : wpList Tryz.prog ops Q (o :: rest) act w := by
  have h1 := arr_setCells (u64s (dig 16 v)) 48 w _ hR (by simp)
  simp only [u64s_length, dig_length, Nat.reduceAdd] at h1
  rw [l5_swap3] at h1
  exact wpList_store_mid hgd _ x y ho g 48 (u64s (dig 16 v)).toArray hx hy (by have h3 := there_part (o := 48) (m := 16) (Arr.there hR) (by simp); simpa using h3) (by rw [n_size]; simp) (by rw [all_oneCell_toArray (u64s_oneCell _)]) (h _ h1 (grown_setCells _ _ _ _ (World.grownBy.refl _ _)))
theorem wpList_storeW4 (hgd : o.guard = none) (x y : Operand) (ho : o.op = .store 56 x y) (g u a b c d v : Nat) (hx : act.eval x = .pointer (some ⟨g, 64, none⟩)) (hy : act.eval y = nv (dig 16 v)) (hR : WAt w g u ⟨a, b, c, d⟩)
    (h : ∀ w', WAt w' g u ⟨a, b, c, v⟩ → w.grownBy w' (some g) → wpList Tryz.prog ops Q rest (act.put o.dst undef) w') : wpList Tryz.prog ops Q (o :: rest) act w := by
  have h1 := arr_setCells (u64s (dig 16 v)) 64 w _ hR (by simp)
  simp only [u64s_length, dig_length, Nat.reduceAdd] at h1
  rw [l5_swap4] at h1
  exact wpList_store_mid hgd _ x y ho g 64 (u64s (dig 16 v)).toArray hx hy (by have h3 := there_part (o := 64) (m := 16) (Arr.there hR) (by simp); simpa using h3) (by rw [n_size]; simp) (by rw [all_oneCell_toArray (u64s_oneCell _)]) (h _ h1 (grown_setCells _ _ _ _ (World.grownBy.refl _ _)))
end

set_option maxRecDepth 100000 in
set_option maxHeartbeats 4000000 in
theorem step_any (w : World) (u b : Nat) (s : LS) (hu : u < 115792089237316195423570985008687907853269984665640564039457584007913129639936) (hs : LsLt s) (hb2 : b < 2) :
    Calls Tryz.prog 26 #[nv (l5 u s), .int .u64 (b : Int)] w fun e w' => e = .returned (nv (l5 (u % pp) (dbl u (swp b s)))) ∧ Below w.heap.size w w' := by
  have hA0 : WAt (w.alloc (objW (l5 u s))) w.heap.size u s := arr_new w _ _
  have hR0 : Arr ((w.alloc (objW (l5 u s))).alloc (objW zerosW)) (w.heap.size + 1) 59 (u64s zerosW) := arr_new2 w _ _ _
  obtain ⟨w2, hw2⟩ : ∃ w2, w2 = (w.alloc (objW (l5 u s))).alloc (objW zerosW) := ⟨_, rfl⟩
  have hsz2 : w2.heap.size = w.heap.size + 2 := by rw [hw2]; simp
  have hA : WAt w2 w.heap.size u s := by rw [hw2]; exact hA0.below (below_alloc _ _)
  rw [← hw2] at hR0
  have hb0 : Below w.heap.size w w2 := by rw [hw2]; exact Below.alloc (below_alloc _ _) (below_alloc _ _).size _
  have hpl := swp_lt (b := b) hs
  have HU := Lib.hid hu
  clear hA0 hu
  go_enter Tryz.func26, Tryz.ntmps26
  go_upto_region 1 with fail
  show Code.wp _ _ _ _ ((w.alloc (objW (l5 u s))).alloc (objW zerosW))
  rw [← hw2]
  clear hw2
  go_upto_if 15 with fail
  go_cut [] (fun wx => WAt wx w.heap.size u (swp b s) ∧ Arr wx (w.heap.size + 1) 59 (u64s zerosW) ∧ Below w.heap.size w wx ∧ w.heap.size + 2 ≤ wx.heap.size)
  case first =>
    clear hpl
    obtain ⟨a, b2, c, d⟩ := s
    by_cases hb1 : b = 1
    · subst hb1
      go_wp2_with (first | (refine wpList_load_mid rfl 56 (.tmp 16) rfl w.heap.size 48 rfl (u64s (dig 16 c)) _ hA.r3 n_und rfl (n_len c) ?_) | (refine wpList_load_mid rfl 56 (.tmp 18) rfl w.heap.size 64 rfl (u64s (dig 16 d)) _ hA.r4 n_und rfl (n_len d) ?_) | (refine wpList_load_mid rfl 56 (.tmp 20) rfl w.heap.size 16 rfl (u64s (dig 16 a)) _ hA.r1 n_und rfl (n_len a) ?_) | (refine wpList_load_mid rfl 56 (.tmp 22) rfl w.heap.size 32 rfl (u64s (dig 16 b2)) _ hA.r2 n_und rfl (n_len b2) ?_) | (refine wpList_storeW1 rfl (.tmp 24) (.tmp 17) rfl w.heap.size u a b2 c d c rfl rfl hA ?_; intro w3 h3 g3) | (refine wpList_storeW2 rfl (.tmp 25) (.tmp 19) rfl w.heap.size u c b2 c d d rfl rfl h3 ?_; intro w4 h4 g4) | (refine wpList_storeW3 rfl (.tmp 26) (.tmp 21) rfl w.heap.size u c d c d a rfl rfl h4 ?_; intro w5 h5 g5) | (refine wpList_storeW4 rfl (.tmp 27) (.tmp 23) rfl w.heap.size u c d a d b2 rfl rfl h5 ?_; intro w6 h6 g6))
      go_meet
      have gg := grown_trans' (grown_trans' g3 g4) (grown_trans' g5 g6)
      exact ⟨h6, hR0.kept gg (by omega), bkept hb0 gg (Nat.le_refl _) hb0.size, by have := gg.size; omega⟩
    · have d1 : ((b : Int) == 1) = false := by rw [beq_eq_false_iff_ne]; omega
      go_wp2_with fail
      go_meet
      exact ⟨by unfold swp; rw [if_neg hb1]; exact hA, hR0, hb0, by omega⟩
  case rest =>
    obtain ⟨hW, hR, hb, hsz⟩ := hcut
    clear hA hR0 hb0 hsz2 hs hb2
    obtain ⟨q, hq⟩ : ∃ q, q = swp b s := ⟨_, rfl⟩
    rw [← hq] at hW hpl
    have HQ := Lib.hid hq
    clear hq
    obtain ⟨p1, p2, p3, p4⟩ := q
    obtain ⟨hp1, hp2, hp3, hp4⟩ := hpl
    simp only at hp1 hp2 hp3 hp4
    have hp1 := Lib.hid hp1
    have hp2 := Lib.hid hp2
    have hp3 := Lib.hid hp3
    have hp4 := Lib.hid hp4
    obtain ⟨A, eA⟩ : ∃ x, x = addm p1 p2 := ⟨_, rfl⟩
    have hA : Hid (A < 115792089237316195423570985008687907853269984665640564039457584007913129639936) := by unfold Hid; rw [eA]; exact n_lt (addm_lt _ _)
    have HA := Lib.hid eA
    clear eA
    obtain ⟨C, eC⟩ : ∃ x, x = subm p1 p2 := ⟨_, rfl⟩
    have hC : Hid (C < 115792089237316195423570985008687907853269984665640564039457584007913129639936) := by unfold Hid; rw [eC]; exact n_lt (subm_lt _ _)
    have HC := Lib.hid eC
    clear eC
    obtain ⟨AA, eAA⟩ : ∃ x, x = mulm A A := ⟨_, rfl⟩
    have hAA : Hid (AA < 115792089237316195423570985008687907853269984665640564039457584007913129639936) := by unfold Hid; rw [eAA]; exact n_lt (mulm_lt _ _)
    have HAA := Lib.hid eAA
    clear eAA
    obtain ⟨BB, eBB⟩ : ∃ x, x = mulm C C := ⟨_, rfl⟩
    have hBB : Hid (BB < 115792089237316195423570985008687907853269984665640564039457584007913129639936) := by unfold Hid; rw [eBB]; exact n_lt (mulm_lt _ _)
    have HBB := Lib.hid eBB
    clear eBB
    obtain ⟨E, eE⟩ : ∃ x, x = subm AA BB := ⟨_, rfl⟩
    have hE : Hid (E < 115792089237316195423570985008687907853269984665640564039457584007913129639936) := by unfold Hid; rw [eE]; exact n_lt (subm_lt _ _)
    have HE := Lib.hid eE
    clear eE
    obtain ⟨D1, eD1⟩ : ∃ x, x = subm p3 p4 := ⟨_, rfl⟩
    have hD1 : Hid (D1 < 115792089237316195423570985008687907853269984665640564039457584007913129639936) := by unfold Hid; rw [eD1]; exact n_lt (subm_lt _ _)
    have HD1 := Lib.hid eD1
    clear eD1
    obtain ⟨DA, eDA⟩ : ∃ x, x = mulm D1 A := ⟨_, rfl⟩
    have hDA : Hid (DA < 115792089237316195423570985008687907853269984665640564039457584007913129639936) := by unfold Hid; rw [eDA]; exact n_lt (mulm_lt _ _)
    have HDA := Lib.hid eDA
    clear eDA
    obtain ⟨D2, eD2⟩ : ∃ x, x = addm p3 p4 := ⟨_, rfl⟩
    have hD2 : Hid (D2 < 115792089237316195423570985008687907853269984665640564039457584007913129639936) := by unfold Hid; rw [eD2]; exact n_lt (addm_lt _ _)
    have HD2 := Lib.hid eD2
    clear eD2
    obtain ⟨CB, eCB⟩ : ∃ x, x = mulm D2 C := ⟨_, rfl⟩
    have hCB : Hid (CB < 115792089237316195423570985008687907853269984665640564039457584007913129639936) := by unfold Hid; rw [eCB]; exact n_lt (mulm_lt _ _)
    have HCB := Lib.hid eCB
    clear eCB
    obtain ⟨X, eX⟩ : ∃ x, x = addm DA CB := ⟨_, rfl⟩
    have hX : Hid (X < 115792089237316195423570985008687907853269984665640564039457584007913129639936) := by unfold Hid; rw [eX]; exact n_lt (addm_lt _ _)
    have HX := Lib.hid eX
    clear eX
    obtain ⟨Y, eY⟩ : ∃ x, x = subm DA CB := ⟨_, rfl⟩
    have hY : Hid (Y < 115792089237316195423570985008687907853269984665640564039457584007913129639936) := by unfold Hid; rw [eY]; exact n_lt (subm_lt _ _)
    have HY := Lib.hid eY
    clear eY
    obtain ⟨XX, eXX⟩ : ∃ x, x = mulm X X := ⟨_, rfl⟩
    have hXX : Hid (XX < 115792089237316195423570985008687907853269984665640564039457584007913129639936) := by unfold Hid; rw [eXX]; exact n_lt (mulm_lt _ _)
    have HXX := Lib.hid eXX
    clear eXX
    obtain ⟨YY, eYY⟩ : ∃ x, x = mulm Y Y := ⟨_, rfl⟩
    have hYY : Hid (YY < 115792089237316195423570985008687907853269984665640564039457584007913129639936) := by unfold Hid; rw [eYY]; exact n_lt (mulm_lt _ _)
    have HYY := Lib.hid eYY
    clear eYY
    obtain ⟨UY, eUY⟩ : ∃ x, x = mulm u YY := ⟨_, rfl⟩
    have hUY : Hid (UY < 115792089237316195423570985008687907853269984665640564039457584007913129639936) := by unfold Hid; rw [eUY]; exact n_lt (mulm_lt _ _)
    have HUY := Lib.hid eUY
    clear eUY
    obtain ⟨SE, eSE⟩ : ∃ x, x = mulm 121665 E := ⟨_, rfl⟩
    have hSE : Hid (SE < 115792089237316195423570985008687907853269984665640564039457584007913129639936) := by unfold Hid; rw [eSE]; exact n_lt (mulm_lt _ _)
    have HSE := Lib.hid eSE
    clear eSE
    obtain ⟨AS, eAS⟩ : ∃ x, x = addm AA SE := ⟨_, rfl⟩
    have hAS : Hid (AS < 115792089237316195423570985008687907853269984665640564039457584007913129639936) := by unfold Hid; rw [eAS]; exact n_lt (addm_lt _ _)
    have HAS := Lib.hid eAS
    clear eAS
    obtain ⟨EA, eEA⟩ : ∃ x, x = mulm E AS := ⟨_, rfl⟩
    have hEA : Hid (EA < 115792089237316195423570985008687907853269984665640564039457584007913129639936) := by unfold Hid; rw [eEA]; exact n_lt (mulm_lt _ _)
    have HEA := Lib.hid eEA
    clear eEA
    obtain ⟨AB, eAB⟩ : ∃ x, x = mulm AA BB := ⟨_, rfl⟩
    have hAB : Hid (AB < 115792089237316195423570985008687907853269984665640564039457584007913129639936) := by unfold Hid; rw [eAB]; exact n_lt (mulm_lt _ _)
    have HAB := Lib.hid eAB
    clear eAB
    obtain ⟨zr, hzr, hR⟩ : ∃ z, z.length = 80 ∧ Arr wc (w.heap.size + 1) 59 z := ⟨_, by simp [zerosW, zerosN], hR⟩
    go_wp2_with fail
    go_cut [5, 6] (fun s5 s6 wx => ∃ gA gC : Nat, s5 = .pointer (some ⟨gA, 0, none⟩) ∧ s6 = .pointer (some ⟨gC, 0, none⟩) ∧ NAt wx gA (dig 16 A) ∧ NAt wx gC (dig 16 C) ∧ w.heap.size + 2 ≤ gA ∧ w.heap.size + 2 ≤ gC ∧ WAt wx w.heap.size u ⟨p1, p2, p3, p4⟩ ∧ (∃ z, z.length = 80 ∧ Arr wx (w.heap.size + 1) 59 z) ∧ Below w.heap.size w wx ∧ w.heap.size + 2 ≤ wx.heap.size)
    case first =>
      refine wp_region_held_drew (S := fun w' => GH wc w' (w.heap.size + 1) 80 59) (by kernel_rfl) (GH.start hR hzr) (fun hH => ?_)
      refine wpAnyH_take (i := 0) (v := ?_) rfl (by kernel_rfl) (by kernel_rfl) (by kernel_rfl) (fun _ _ _ h => h) (Or.inl ⟨by rfl, fun w' hSw => by go_simp; with_reducible rfl⟩) hH ?_
      simp only [Act.put, List.getElem_toArray, List.getElem_cons_succ, List.getElem_cons_zero, List.setIfInBounds_toArray, List.set_cons_zero, List.set_cons_succ]
      refine wpAnyH_take (i := 1) (v := _) rfl (by kernel_rfl) (by kernel_rfl) (by kernel_rfl) (fun _ _ _ h => h) (yieldsIf_load_mid (by rfl) _ _ rfl _ _ rfl _ _ (fun w' h => WAt.r1 (Arr.kept hW (GH.g h) (by omega))) n_und rfl (n_len p1)) hH ?_
      simp only [Act.put, List.getElem_toArray, List.getElem_cons_succ, List.getElem_cons_zero, List.setIfInBounds_toArray, List.set_cons_zero, List.set_cons_succ]
      refine wpAnyH_take (i := 2) (v := ?_) rfl (by kernel_rfl) (by kernel_rfl) (by kernel_rfl) (fun _ _ _ h => h) (Or.inl ⟨by rfl, fun w' hSw => by go_simp; with_reducible rfl⟩) hH ?_
      simp only [Act.put, List.getElem_toArray, List.getElem_cons_succ, List.getElem_cons_zero, List.setIfInBounds_toArray, List.set_cons_zero, List.set_cons_succ]
      refine wpAnyH_take (i := 3) (v := _) rfl (by kernel_rfl) (by kernel_rfl) (by kernel_rfl) (fun _ _ _ h => h) (yieldsIf_load_mid (by rfl) _ _ rfl _ _ rfl _ _ (fun w' h => WAt.r2 (Arr.kept hW (GH.g h) (by omega))) n_und rfl (n_len p2)) hH ?_
      simp only [Act.put, List.getElem_toArray, List.getElem_cons_succ, List.getElem_cons_zero, List.setIfInBounds_toArray, List.set_cons_zero, List.set_cons_succ]
      refine wpAnyH_take (i := 5) (v := ?_) rfl (by kernel_rfl) (by kernel_rfl) (by kernel_rfl) (fun _ _ _ h => h) (Or.inl ⟨by rfl, fun w' hSw => by go_simp; with_reducible rfl⟩) hH ?_
      simp only [Act.put, List.getElem_toArray, List.getElem_cons_succ, List.getElem_cons_zero, List.setIfInBounds_toArray, List.set_cons_zero, List.set_cons_succ]
      refine wpAnyH_take (i := 6) (v := _) rfl (by kernel_rfl) (by kernel_rfl) (by kernel_rfl) (fun _ _ _ h => h) (yieldsIf_load_mid (by rfl) _ _ rfl _ _ rfl _ _ (fun w' h => WAt.r1 (Arr.kept hW (GH.g h) (by omega))) n_und rfl (n_len p1)) hH ?_
      simp only [Act.put, List.getElem_toArray, List.getElem_cons_succ, List.getElem_cons_zero, List.setIfInBounds_toArray, List.set_cons_zero, List.set_cons_succ]
      refine wpAnyH_take (i := 7) (v := ?_) rfl (by kernel_rfl) (by kernel_rfl) (by kernel_rfl) (fun _ _ _ h => h) (Or.inl ⟨by rfl, fun w' hSw => by go_simp; with_reducible rfl⟩) hH ?_
      simp only [Act.put, List.getElem_toArray, List.getElem_cons_succ, List.getElem_cons_zero, List.setIfInBounds_toArray, List.set_cons_zero, List.set_cons_succ]
      refine wpAnyH_take (i := 8) (v := _) rfl (by kernel_rfl) (by kernel_rfl) (by kernel_rfl) (fun _ _ _ h => h) (yieldsIf_load_mid (by rfl) _ _ rfl _ _ rfl _ _ (fun w' h => WAt.r2 (Arr.kept hW (GH.g h) (by omega))) n_und rfl (n_len p2)) hH ?_
      simp only [Act.put, List.getElem_toArray, List.getElem_cons_succ, List.getElem_cons_zero, List.setIfInBounds_toArray, List.set_cons_zero, List.set_cons_succ]
      refine wpAnyH_ready (rs := [4, 10, 11]) (by kernel_rfl) (by simp) ?_
      refine AllReadyH.cons rfl (fun K hK => ?_) ?_
      · try simp only [List.getElem_toArray, List.getElem_cons_succ, List.getElem_cons_zero]
        go_simp
        go_at_call 43
        refine (specAdd_any _ p1 p2 hp1.out hp2.out).mono ?_
        rintro e v1 ⟨rfl, hb_v1⟩
        rw [← HA.out]
        refine hK.out _ _ (hH.call hb_v1) (fun hH => ?_)
        clear hK K
        try simp only [Act.put, List.getElem_toArray, List.getElem_cons_succ, List.getElem_cons_zero, List.setIfInBounds_toArray, List.set_cons_zero, List.set_cons_succ]
        refine wpAnyH_ready (rs := [9, 10, 11]) (by kernel_rfl) (by simp) ?_
        refine AllReadyH.cons rfl (fun K hK => ?_) ?_
        · try simp only [List.getElem_toArray, List.getElem_cons_succ, List.getElem_cons_zero]
          go_simp
          go_at_call 44
          refine (specSub_any _ p1 p2 hp1.out hp2.out).mono ?_
          rintro e v2 ⟨rfl, hb_v2⟩
          rw [← HC.out]
          refine hK.out _ _ (hH.call hb_v2) (fun hH => ?_)
          clear hK K
          try simp only [Act.put, List.getElem_toArray, List.getElem_cons_succ, List.getElem_cons_zero, List.setIfInBounds_toArray, List.set_cons_zero, List.set_cons_succ]
          refine wpAnyH_ready (rs := [10, 11]) (by kernel_rfl) (by simp) ?_
          refine AllReadyH.cons rfl (fun K hK => ?_) ?_
          · try simp only [List.getElem_toArray, List.getElem_cons_succ, List.getElem_cons_zero]
            go_simp
            show K _ (v2.alloc (objN zerosN))
            obtain ⟨v3, e_v3⟩ : ∃ x, x = v2.alloc (objN zerosN) := ⟨_, rfl⟩
            obtain ⟨gA, e_gA⟩ : ∃ g, g = v2.heap.size := ⟨_, rfl⟩
            have e2_gA : v2.heap.size = gA := e_gA.symm
            rw [← e_v3]
            try rw [← e_gA]
            try rw [e2_gA]
            have n_gA : NAt v3 gA zerosN := by rw [e_v3, e_gA]; exact arr_new _ _ _
            have b_v3 : Below v2.heap.size v2 v3 := by rw [e_v3]; exact below_alloc _ _
            have ge_gA : wc.heap.size ≤ gA := by rw [e_gA]; exact hH.g.size
            refine hK.out _ _ (hH.call b_v3) (fun hH => ?_)
            clear hK K e_v3 e_gA e2_gA b_v3
            refine wpAnyH_ready (rs := [11]) (by kernel_rfl) (by simp) ?_
            refine AllReadyH.cons rfl (fun K hK => ?_) AllReadyH.nil
            try simp only [List.getElem_toArray, List.getElem_cons_succ, List.getElem_cons_zero]
            go_simp
            show K _ (v3.alloc (objN zerosN))
            obtain ⟨v4, e_v4⟩ : ∃ x, x = v3.alloc (objN zerosN) := ⟨_, rfl⟩
            obtain ⟨gC, e_gC⟩ : ∃ g, g = v3.heap.size := ⟨_, rfl⟩
            have e2_gC : v3.heap.size = gC := e_gC.symm
            rw [← e_v4]
            try rw [← e_gC]
            try rw [e2_gC]
            have n_gC : NAt v4 gC zerosN := by rw [e_v4, e_gC]; exact arr_new _ _ _
            have b_v4 : Below v3.heap.size v3 v4 := by rw [e_v4]; exact below_alloc _ _
            have ge_gC : wc.heap.size ≤ gC := by rw [e_gC]; exact hH.g.size
            have ne_gC_gA : gA ≠ gC := by have := n_gA.lt; omega
            have n_gA := n_gA.below b_v4
            refine hK.out _ _ (hH.call b_v4) (fun hH => ?_)
            clear hK K e_v4 e_gC e2_gC b_v4
            refine wpAnyH_ready (rs := [12]) (by kernel_rfl) (by simp) ?_
            refine AllReadyH.cons rfl (fun K hK => ?_) AllReadyH.nil
            try simp only [List.getElem_toArray, List.getElem_cons_succ, List.getElem_cons_zero]
            refine wanted_step (by rfl) ?_
            refine step_storeN (.tmp 5) (.tmp 32) rfl gA (dig 16 (A)) zerosN (by simp) rfl rfl rfl n_gA ?_
            intro v5 m_gA g_v5
            refine hK.out _ _ (hH.other g_v5 ge_gA (by omega)) (fun hH => ?_)
            clear hK K n_gA
            have n_gC := n_gC.kept g_v5 (by omega)
            clear g_v5
            refine wpAnyH_ready (rs := [13]) (by kernel_rfl) (by simp) ?_
            refine AllReadyH.cons rfl (fun K hK => ?_) AllReadyH.nil
            try simp only [List.getElem_toArray, List.getElem_cons_succ, List.getElem_cons_zero]
            refine wanted_step (by rfl) ?_
            refine step_storeN (.tmp 6) (.tmp 37) rfl gC (dig 16 (C)) zerosN (by simp) rfl rfl rfl n_gC ?_
            intro v6 m_gC g_v6
            refine hK.out _ _ (hH.other g_v6 ge_gC (by omega)) (fun hH => ?_)
            clear hK K n_gC
            have m_gA := m_gA.kept g_v6 (by omega)
            clear g_v6
            refine wpAnyH_done (by kernel_rfl) ?_ _
            go_wp2_with fail
            go_meet
            exact ⟨gA, gC, rfl, rfl, m_gA, m_gC, (by omega), (by omega), hW.kept hH.g (by omega), hH.z, hH.below hb (by omega) hb.size, Nat.le_trans hsz hH.g.size⟩
          refine AllReadyH.cons rfl (fun K hK => ?_) ?_
          · try simp only [List.getElem_toArray, List.getElem_cons_succ, List.getElem_cons_zero]
            go_simp
            show K _ (v2.alloc (objN zerosN))
            obtain ⟨v7, e_v7⟩ : ∃ x, x = v2.alloc (objN zerosN) := ⟨_, rfl⟩
            obtain ⟨gC, e_gC⟩ : ∃ g, g = v2.heap.size := ⟨_, rfl⟩
            have e2_gC : v2.heap.size = gC := e_gC.symm
            rw [← e_v7]
            try rw [← e_gC]
            try rw [e2_gC]
            have n_gC : NAt v7 gC zerosN := by rw [e_v7, e_gC]; exact arr_new _ _ _
            have b_v7 : Below v2.heap.size v2 v7 := by rw [e_v7]; exact below_alloc _ _
            have ge_gC : wc.heap.size ≤ gC := by rw [e_gC]; exact hH.g.size
            refine hK.out _ _ (hH.call b_v7) (fun hH => ?_)
            clear hK K e_v7 e_gC e2_gC b_v7
            refine wpAnyH_ready (rs := [10]) (by kernel_rfl) (by simp) ?_
            refine AllReadyH.cons rfl (fun K hK => ?_) AllReadyH.nil
            try simp only [List.getElem_toArray, List.getElem_cons_succ, List.getElem_cons_zero]
            go_simp
            show K _ (v7.alloc (objN zerosN))
            obtain ⟨v8, e_v8⟩ : ∃ x, x = v7.alloc (objN zerosN) := ⟨_, rfl⟩
            obtain ⟨gA, e_gA⟩ : ∃ g, g = v7.heap.size := ⟨_, rfl⟩
            have e2_gA : v7.heap.size = gA := e_gA.symm
            rw [← e_v8]
            try rw [← e_gA]
            try rw [e2_gA]
            have n_gA : NAt v8 gA zerosN := by rw [e_v8, e_gA]; exact arr_new _ _ _
            have b_v8 : Below v7.heap.size v7 v8 := by rw [e_v8]; exact below_alloc _ _
            have ge_gA : wc.heap.size ≤ gA := by rw [e_gA]; exact hH.g.size
            have ne_gA_gC : gC ≠ gA := by have := n_gC.lt; omega
            have n_gC := n_gC.below b_v8
            refine hK.out _ _ (hH.call b_v8) (fun hH => ?_)
            clear hK K e_v8 e_gA e2_gA b_v8
            refine wpAnyH_ready (rs := [12]) (by kernel_rfl) (by simp) ?_
            refine AllReadyH.cons rfl (fun K hK => ?_) AllReadyH.nil
            try simp only [List.getElem_toArray, List.getElem_cons_succ, List.getElem_cons_zero]
            refine wanted_step (by rfl) ?_
            refine step_storeN (.tmp 5) (.tmp 32) rfl gA (dig 16 (A)) zerosN (by simp) rfl rfl rfl n_gA ?_
            intro v9 m_gA g_v9
            refine hK.out _ _ (hH.other g_v9 ge_gA (by omega)) (fun hH => ?_)
            clear hK K n_gA
            have n_gC := n_gC.kept g_v9 (by omega)
            clear g_v9
            refine wpAnyH_ready (rs := [13]) (by kernel_rfl) (by simp) ?_
            refine AllReadyH.cons rfl (fun K hK => ?_) AllReadyH.nil
            try simp only [List.getElem_toArray, List.getElem_cons_succ, List.getElem_cons_zero]
            refine wanted_step (by rfl) ?_
            refine step_storeN (.tmp 6) (.tmp 37) rfl gC (dig 16 (C)) zerosN (by simp) rfl rfl rfl n_gC ?_
            intro v10 m_gC g_v10
            refine hK.out _ _ (hH.other g_v10 ge_gC (by omega)) (fun hH => ?_)
            clear hK K n_gC
            have m_gA := m_gA.kept g_v10 (by omega)
            clear g_v10
            refine wpAnyH_done (by kernel_rfl) ?_ _
            go_wp2_with fail
            go_meet
            exact ⟨gA, gC, rfl, rfl, m_gA, m_gC, (by omega), (by omega), hW.kept hH.g (by omega), hH.z, hH.below hb (by omega) hb.size, Nat.le_trans hsz hH.g.size⟩
          exact AllReadyH.nil
        refine AllReadyH.cons rfl (fun K hK => ?_) ?_
        · try simp only [List.getElem_toArray, List.getElem_cons_succ, List.getElem_cons_zero]
          go_simp
          show K _ (v1.alloc (objN zerosN))
          obtain ⟨v11, e_v11⟩ : ∃ x, x = v1.alloc (objN zerosN) := ⟨_, rfl⟩
          obtain ⟨gA, e_gA⟩ : ∃ g, g = v1.heap.size := ⟨_, rfl⟩
          have e2_gA : v1.heap.size = gA := e_gA.symm
          rw [← e_v11]
          try rw [← e_gA]
          try rw [e2_gA]
          have n_gA : NAt v11 gA zerosN := by rw [e_v11, e_gA]; exact arr_new _ _ _
          have b_v11 : Below v1.heap.size v1 v11 := by rw [e_v11]; exact below_alloc _ _
          have ge_gA : wc.heap.size ≤ gA := by rw [e_gA]; exact hH.g.size
          refine hK.out _ _ (hH.call b_v11) (fun hH => ?_)
          clear hK K e_v11 e_gA e2_gA b_v11
          refine wpAnyH_ready (rs := [9, 11]) (by kernel_rfl) (by simp) ?_
          refine AllReadyH.cons rfl (fun K hK => ?_) ?_
          · try simp only [List.getElem_toArray, List.getElem_cons_succ, List.getElem_cons_zero]
            go_simp
            go_at_call 44
            refine (specSub_any _ p1 p2 hp1.out hp2.out).mono ?_
            rintro e v12 ⟨rfl, hb_v12⟩
            rw [← HC.out]
            refine hK.out _ _ (hH.call hb_v12) (fun hH => ?_)
            clear hK K
            try simp only [Act.put, List.getElem_toArray, List.getElem_cons_succ, List.getElem_cons_zero, List.setIfInBounds_toArray, List.set_cons_zero, List.set_cons_succ]
            have n_gA := n_gA.below hb_v12
            refine wpAnyH_ready (rs := [11]) (by kernel_rfl) (by simp) ?_
            refine AllReadyH.cons rfl (fun K hK => ?_) AllReadyH.nil
            try simp only [List.getElem_toArray, List.getElem_cons_succ, List.getElem_cons_zero]
            go_simp
            show K _ (v12.alloc (objN zerosN))
            obtain ⟨v13, e_v13⟩ : ∃ x, x = v12.alloc (objN zerosN) := ⟨_, rfl⟩
            obtain ⟨gC, e_gC⟩ : ∃ g, g = v12.heap.size := ⟨_, rfl⟩
            have e2_gC : v12.heap.size = gC := e_gC.symm
            rw [← e_v13]
            try rw [← e_gC]
            try rw [e2_gC]
            have n_gC : NAt v13 gC zerosN := by rw [e_v13, e_gC]; exact arr_new _ _ _
            have b_v13 : Below v12.heap.size v12 v13 := by rw [e_v13]; exact below_alloc _ _
            have ge_gC : wc.heap.size ≤ gC := by rw [e_gC]; exact hH.g.size
            have ne_gC_gA : gA ≠ gC := by have := n_gA.lt; omega
            have n_gA := n_gA.below b_v13
            refine hK.out _ _ (hH.call b_v13) (fun hH => ?_)
            clear hK K e_v13 e_gC e2_gC b_v13
            refine wpAnyH_ready (rs := [12]) (by kernel_rfl) (by simp) ?_
            refine AllReadyH.cons rfl (fun K hK => ?_) AllReadyH.nil
            try simp only [List.getElem_toArray, List.getElem_cons_succ, List.getElem_cons_zero]
            refine wanted_step (by rfl) ?_
            refine step_storeN (.tmp 5) (.tmp 32) rfl gA (dig 16 (A)) zerosN (by simp) rfl rfl rfl n_gA ?_
            intro v14 m_gA g_v14
            refine hK.out _ _ (hH.other g_v14 ge_gA (by omega)) (fun hH => ?_)
            clear hK K n_gA
            have n_gC := n_gC.kept g_v14 (by omega)
            clear g_v14
            refine wpAnyH_ready (rs := [13]) (by kernel_rfl) (by simp) ?_
            refine AllReadyH.cons rfl (fun K hK => ?_) AllReadyH.nil
            try simp only [List.getElem_toArray, List.getElem_cons_succ, List.getElem_cons_zero]
            refine wanted_step (by rfl) ?_
            refine step_storeN (.tmp 6) (.tmp 37) rfl gC (dig 16 (C)) zerosN (by simp) rfl rfl rfl n_gC ?_
            intro v15 m_gC g_v15
            refine hK.out _ _ (hH.other g_v15 ge_gC (by omega)) (fun hH => ?_)
            clear hK K n_gC
            have m_gA := m_gA.kept g_v15 (by omega)
            clear g_v15
            refine wpAnyH_done (by kernel_rfl) ?_ _
            go_wp2_with fail
            go_meet
            exact ⟨gA, gC, rfl, rfl, m_gA, m_gC, (by omega), (by omega), hW.kept hH.g (by omega), hH.z, hH.below hb (by omega) hb.size, Nat.le_trans hsz hH.g.size⟩
          refine AllReadyH.cons rfl (fun K hK => ?_) ?_
          · try simp only [List.getElem_toArray, List.getElem_cons_succ, List.getElem_cons_zero]
            go_simp
            show K _ (v11.alloc (objN zerosN))
            obtain ⟨v16, e_v16⟩ : ∃ x, x = v11.alloc (objN zerosN) := ⟨_, rfl⟩
            obtain ⟨gC, e_gC⟩ : ∃ g, g = v11.heap.size := ⟨_, rfl⟩
            have e2_gC : v11.heap.size = gC := e_gC.symm
            rw [← e_v16]
            try rw [← e_gC]
            try rw [e2_gC]
            have n_gC : NAt v16 gC zerosN := by rw [e_v16, e_gC]; exact arr_new _ _ _
            have b_v16 : Below v11.heap.size v11 v16 := by rw [e_v16]; exact below_alloc _ _
            have ge_gC : wc.heap.size ≤ gC := by rw [e_gC]; exact hH.g.size
            have ne_gC_gA : gA ≠ gC := by have := n_gA.lt; omega
            have n_gA := n_gA.below b_v16
            refine hK.out _ _ (hH.call b_v16) (fun hH => ?_)
            clear hK K e_v16 e_gC e2_gC b_v16
            refine wpAnyH_ready (rs := [9]) (by kernel_rfl) (by simp) ?_
            refine AllReadyH.cons rfl (fun K hK => ?_) AllReadyH.nil
            try simp only [List.getElem_toArray, List.getElem_cons_succ, List.getElem_cons_zero]
            go_simp
            go_at_call 44
            refine (specSub_any _ p1 p2 hp1.out hp2.out).mono ?_
            rintro e v17 ⟨rfl, hb_v17⟩
            rw [← HC.out]
            refine hK.out _ _ (hH.call hb_v17) (fun hH => ?_)
            clear hK K
            try simp only [Act.put, List.getElem_toArray, List.getElem_cons_succ, List.getElem_cons_zero, List.setIfInBounds_toArray, List.set_cons_zero, List.set_cons_succ]
            have n_gA := n_gA.below hb_v17
            have n_gC := n_gC.below hb_v17
            refine wpAnyH_ready (rs := [12]) (by kernel_rfl) (by simp) ?_
            refine AllReadyH.cons rfl (fun K hK => ?_) AllReadyH.nil
            try simp only [List.getElem_toArray, List.getElem_cons_succ, List.getElem_cons_zero]
            refine wanted_step (by rfl) ?_
            refine step_storeN (.tmp 5) (.tmp 32) rfl gA (dig 16 (A)) zerosN (by simp) rfl rfl rfl n_gA ?_
            intro v18 m_gA g_v18
            refine hK.out _ _ (hH.other g_v18 ge_gA (by omega)) (fun hH => ?_)
            clear hK K n_gA
            have n_gC := n_gC.kept g_v18 (by omega)
            clear g_v18
            refine wpAnyH_ready (rs := [13]) (by kernel_rfl) (by simp) ?_
            refine AllReadyH.cons rfl (fun K hK => ?_) AllReadyH.nil
            try simp only [List.getElem_toArray, List.getElem_cons_succ, List.getElem_cons_zero]
            refine wanted_step (by rfl) ?_
            refine step_storeN (.tmp 6) (.tmp 37) rfl gC (dig 16 (C)) zerosN (by simp) rfl rfl rfl n_gC ?_
            intro v19 m_gC g_v19
            refine hK.out _ _ (hH.other g_v19 ge_gC (by omega)) (fun hH => ?_)
            clear hK K n_gC
            have m_gA := m_gA.kept g_v19 (by omega)
            clear g_v19
            refine wpAnyH_done (by kernel_rfl) ?_ _
            go_wp2_with fail
            go_meet
            exact ⟨gA, gC, rfl, rfl, m_gA, m_gC, (by omega), (by omega), hW.kept hH.g (by omega), hH.z, hH.below hb (by omega) hb.size, Nat.le_trans hsz hH.g.size⟩
          exact AllReadyH.nil
        refine AllReadyH.cons rfl (fun K hK => ?_) ?_
        · try simp only [List.getElem_toArray, List.getElem_cons_succ, List.getElem_cons_zero]
          go_simp
          show K _ (v1.alloc (objN zerosN))
          obtain ⟨v20, e_v20⟩ : ∃ x, x = v1.alloc (objN zerosN) := ⟨_, rfl⟩
          obtain ⟨gC, e_gC⟩ : ∃ g, g = v1.heap.size := ⟨_, rfl⟩
          have e2_gC : v1.heap.size = gC := e_gC.symm
          rw [← e_v20]
          try rw [← e_gC]
          try rw [e2_gC]
          have n_gC : NAt v20 gC zerosN := by rw [e_v20, e_gC]; exact arr_new _ _ _
          have b_v20 : Below v1.heap.size v1 v20 := by rw [e_v20]; exact below_alloc _ _
          have ge_gC : wc.heap.size ≤ gC := by rw [e_gC]; exact hH.g.size
          refine hK.out _ _ (hH.call b_v20) (fun hH => ?_)
          clear hK K e_v20 e_gC e2_gC b_v20
          refine wpAnyH_ready (rs := [9, 10]) (by kernel_rfl) (by simp) ?_
          refine AllReadyH.cons rfl (fun K hK => ?_) ?_
          · try simp only [List.getElem_toArray, List.getElem_cons_succ, List.getElem_cons_zero]
            go_simp
            go_at_call 44
            refine (specSub_any _ p1 p2 hp1.out hp2.out).mono ?_
            rintro e v21 ⟨rfl, hb_v21⟩
            rw [← HC.out]
            refine hK.out _ _ (hH.call hb_v21) (fun hH => ?_)
            clear hK K
            try simp only [Act.put, List.getElem_toArray, List.getElem_cons_succ, List.getElem_cons_zero, List.setIfInBounds_toArray, List.set_cons_zero, List.set_cons_succ]
            have n_gC := n_gC.below hb_v21
            refine wpAnyH_ready (rs := [10]) (by kernel_rfl) (by simp) ?_
            refine AllReadyH.cons rfl (fun K hK => ?_) AllReadyH.nil
            try simp only [List.getElem_toArray, List.getElem_cons_succ, List.getElem_cons_zero]
            go_simp
            show K _ (v21.alloc (objN zerosN))
            obtain ⟨v22, e_v22⟩ : ∃ x, x = v21.alloc (objN zerosN) := ⟨_, rfl⟩
            obtain ⟨gA, e_gA⟩ : ∃ g, g = v21.heap.size := ⟨_, rfl⟩
            have e2_gA : v21.heap.size = gA := e_gA.symm
            rw [← e_v22]
            try rw [← e_gA]
            try rw [e2_gA]
            have n_gA : NAt v22 gA zerosN := by rw [e_v22, e_gA]; exact arr_new _ _ _
            have b_v22 : Below v21.heap.size v21 v22 := by rw [e_v22]; exact below_alloc _ _
            have ge_gA : wc.heap.size ≤ gA := by rw [e_gA]; exact hH.g.size
            have ne_gA_gC : gC ≠ gA := by have := n_gC.lt; omega
            have n_gC := n_gC.below b_v22
            refine hK.out _ _ (hH.call b_v22) (fun hH => ?_)
            clear hK K e_v22 e_gA e2_gA b_v22
            refine wpAnyH_ready (rs := [12]) (by kernel_rfl) (by simp) ?_
            refine AllReadyH.cons rfl (fun K hK => ?_) AllReadyH.nil
            try simp only [List.getElem_toArray, List.getElem_cons_succ, List.getElem_cons_zero]
            refine wanted_step (by rfl) ?_
            refine step_storeN (.tmp 5) (.tmp 32) rfl gA (dig 16 (A)) zerosN (by simp) rfl rfl rfl n_gA ?_
            intro v23 m_gA g_v23
            refine hK.out _ _ (hH.other g_v23 ge_gA (by omega)) (fun hH => ?_)
            clear hK K n_gA
            have n_gC := n_gC.kept g_v23 (by omega)
            clear g_v23
            refine wpAnyH_ready (rs := [13]) (by kernel_rfl) (by simp) ?_
            refine AllReadyH.cons rfl (fun K hK => ?_) AllReadyH.nil
            try simp only [List.getElem_toArray, List.getElem_cons_succ, List.getElem_cons_zero]
            refine wanted_step (by rfl) ?_
            refine step_storeN (.tmp 6) (.tmp 37) rfl gC (dig 16 (C)) zerosN (by simp) rfl rfl rfl n_gC ?_
            intro v24 m_gC g_v24
            refine hK.out _ _ (hH.other g_v24 ge_gC (by omega)) (fun hH => ?_)
            clear hK K n_gC
            have m_gA := m_gA.kept g_v24 (by omega)
            clear g_v24
            refine wpAnyH_done (by kernel_rfl) ?_ _
            go_wp2_with fail
            go_meet
            exact ⟨gA, gC, rfl, rfl, m_gA, m_gC, (by omega), (by omega), hW.kept hH.g (by omega), hH.z, hH.below hb (by omega) hb.size, Nat.le_trans hsz hH.g.size⟩
          refine AllReadyH.cons rfl (fun K hK => ?_) ?_
          · try simp only [List.getElem_toArray, List.getElem_cons_succ, List.getElem_cons_zero]
            go_simp
            show K _ (v20.alloc (objN zerosN))
            obtain ⟨v25, e_v25⟩ : ∃ x, x = v20.alloc (objN zerosN) := ⟨_, rfl⟩
            obtain ⟨gA, e_gA⟩ : ∃ g, g = v20.heap.size := ⟨_, rfl⟩
            have e2_gA : v20.heap.size = gA := e_gA.symm
            rw [← e_v25]
            try rw [← e_gA]
            try rw [e2_gA]
            have n_gA : NAt v25 gA zerosN := by rw [e_v25, e_gA]; exact arr_new _ _ _
            have b_v25 : Below v20.heap.size v20 v25 := by rw [e_v25]; exact below_alloc _ _
            have ge_gA : wc.heap.size ≤ gA := by rw [e_gA]; exact hH.g.size
            have ne_gA_gC : gC ≠ gA := by have := n_gC.lt; omega
            have n_gC := n_gC.below b_v25
            refine hK.out _ _ (hH.call b_v25) (fun hH => ?_)
            clear hK K e_v25 e_gA e2_gA b_v25
            refine wpAnyH_ready (rs := [9]) (by kernel_rfl) (by simp) ?_
            refine AllReadyH.cons rfl (fun K hK => ?_) AllReadyH.nil
            try simp only [List.getElem_toArray, List.getElem_cons_succ, List.getElem_cons_zero]
            go_simp
            go_at_call 44
            refine (specSub_any _ p1 p2 hp1.out hp2.out).mono ?_
            rintro e v26 ⟨rfl, hb_v26⟩
            rw [← HC.out]
            refine hK.out _ _ (hH.call hb_v26) (fun hH => ?_)
            clear hK K
            try simp only [Act.put, List.getElem_toArray, List.getElem_cons_succ, List.getElem_cons_zero, List.setIfInBounds_toArray, List.set_cons_zero, List.set_cons_succ]
            have n_gC := n_gC.below hb_v26
            have n_gA := n_gA.below hb_v26
            refine wpAnyH_ready (rs := [12]) (by kernel_rfl) (by simp) ?_
            refine AllReadyH.cons rfl (fun K hK => ?_) AllReadyH.nil
            try simp only [List.getElem_toArray, List.getElem_cons_succ, List.getElem_cons_zero]
            refine wanted_step (by rfl) ?_
            refine step_storeN (.tmp 5) (.tmp 32) rfl gA (dig 16 (A)) zerosN (by simp) rfl rfl rfl n_gA ?_
            intro v27 m_gA g_v27
            refine hK.out _ _ (hH.other g_v27 ge_gA (by omega)) (fun hH => ?_)
            clear hK K n_gA
            have n_gC := n_gC.kept g_v27 (by omega)
            clear g_v27
            refine wpAnyH_ready (rs := [13]) (by kernel_rfl) (by simp) ?_
            refine AllReadyH.cons rfl (fun K hK => ?_) AllReadyH.nil
            try simp only [List.getElem_toArray, List.getElem_cons_succ, List.getElem_cons_zero]
            refine wanted_step (by rfl) ?_
            refine step_storeN (.tmp 6) (.tmp 37) rfl gC (dig 16 (C)) zerosN (by simp) rfl rfl rfl n_gC ?_
            intro v28 m_gC g_v28
            refine hK.out _ _ (hH.other g_v28 ge_gC (by omega)) (fun hH => ?_)
            clear hK K n_gC
            have m_gA := m_gA.kept g_v28 (by omega)
            clear g_v28
            refine wpAnyH_done (by kernel_rfl) ?_ _
            go_wp2_with fail
            go_meet
            exact ⟨gA, gC, rfl, rfl, m_gA, m_gC, (by omega), (by omega), hW.kept hH.g (by omega), hH.z, hH.below hb (by omega) hb.size, Nat.le_trans hsz hH.g.size⟩
          exact AllReadyH.nil
        exact AllReadyH.nil
      refine AllReadyH.cons rfl (fun K hK => ?_) ?_
      · try simp only [List.getElem_toArray, List.getElem_cons_succ, List.getElem_cons_zero]
        go_simp
        show K _ (wc.drew.alloc (objN zerosN))
        obtain ⟨v29, e_v29⟩ : ∃ x, x = wc.drew.alloc (objN zerosN) := ⟨_, rfl⟩
        obtain ⟨gA, e_gA⟩ : ∃ g, g = wc.drew.heap.size := ⟨_, rfl⟩
        have e2_gA : wc.heap.size = gA := e_gA.symm
        rw [← e_v29]
        try rw [← e_gA]
        try rw [e2_gA]
        have n_gA : NAt v29 gA zerosN := by rw [e_v29, e_gA]; exact arr_new _ _ _
        have b_v29 : Below wc.drew.heap.size wc.drew v29 := by rw [e_v29]; exact below_alloc _ _
        have ge_gA : wc.heap.size ≤ gA := by rw [e_gA]; exact hH.g.size
        refine hK.out _ _ (hH.call b_v29) (fun hH => ?_)
        clear hK K e_v29 e_gA e2_gA b_v29
        refine wpAnyH_ready (rs := [4, 11]) (by kernel_rfl) (by simp) ?_
        refine AllReadyH.cons rfl (fun K hK => ?_) ?_
        · try simp only [List.getElem_toArray, List.getElem_cons_succ, List.getElem_cons_zero]
          go_simp
          go_at_call 43
          refine (specAdd_any _ p1 p2 hp1.out hp2.out).mono ?_
          rintro e v30 ⟨rfl, hb_v30⟩
          rw [← HA.out]
          refine hK.out _ _ (hH.call hb_v30) (fun hH => ?_)
          clear hK K
          try simp only [Act.put, List.getElem_toArray, List.getElem_cons_succ, List.getElem_cons_zero, List.setIfInBounds_toArray, List.set_cons_zero, List.set_cons_succ]
          have n_gA := n_gA.below hb_v30
          refine wpAnyH_ready (rs := [9, 11]) (by kernel_rfl) (by simp) ?_
          refine AllReadyH.cons rfl (fun K hK => ?_) ?_
          · try simp only [List.getElem_toArray, List.getElem_cons_succ, List.getElem_cons_zero]
            go_simp
            go_at_call 44
            refine (specSub_any _ p1 p2 hp1.out hp2.out).mono ?_
            rintro e v31 ⟨rfl, hb_v31⟩
            rw [← HC.out]
            refine hK.out _ _ (hH.call hb_v31) (fun hH => ?_)
            clear hK K
            try simp only [Act.put, List.getElem_toArray, List.getElem_cons_succ, List.getElem_cons_zero, List.setIfInBounds_toArray, List.set_cons_zero, List.set_cons_succ]
            have n_gA := n_gA.below hb_v31
            refine wpAnyH_ready (rs := [11]) (by kernel_rfl) (by simp) ?_
            refine AllReadyH.cons rfl (fun K hK => ?_) AllReadyH.nil
            try simp only [List.getElem_toArray, List.getElem_cons_succ, List.getElem_cons_zero]
            go_simp
            show K _ (v31.alloc (objN zerosN))
            obtain ⟨v32, e_v32⟩ : ∃ x, x = v31.alloc (objN zerosN) := ⟨_, rfl⟩
            obtain ⟨gC, e_gC⟩ : ∃ g, g = v31.heap.size := ⟨_, rfl⟩
            have e2_gC : v31.heap.size = gC := e_gC.symm
            rw [← e_v32]
            try rw [← e_gC]
            try rw [e2_gC]
            have n_gC : NAt v32 gC zerosN := by rw [e_v32, e_gC]; exact arr_new _ _ _
            have b_v32 : Below v31.heap.size v31 v32 := by rw [e_v32]; exact below_alloc _ _
            have ge_gC : wc.heap.size ≤ gC := by rw [e_gC]; exact hH.g.size
            have ne_gC_gA : gA ≠ gC := by have := n_gA.lt; omega
            have n_gA := n_gA.below b_v32
            refine hK.out _ _ (hH.call b_v32) (fun hH => ?_)
            clear hK K e_v32 e_gC e2_gC b_v32
            refine wpAnyH_ready (rs := [12]) (by kernel_rfl) (by simp) ?_
            refine AllReadyH.cons rfl (fun K hK => ?_) AllReadyH.nil
            try simp only [List.getElem_toArray, List.getElem_cons_succ, List.getElem_cons_zero]
            refine wanted_step (by rfl) ?_
            refine step_storeN (.tmp 5) (.tmp 32) rfl gA (dig 16 (A)) zerosN (by simp) rfl rfl rfl n_gA ?_
            intro v33 m_gA g_v33
            refine hK.out _ _ (hH.other g_v33 ge_gA (by omega)) (fun hH => ?_)
            clear hK K n_gA
            have n_gC := n_gC.kept g_v33 (by omega)
            clear g_v33
            refine wpAnyH_ready (rs := [13]) (by kernel_rfl) (by simp) ?_
            refine AllReadyH.cons rfl (fun K hK => ?_) AllReadyH.nil
            try simp only [List.getElem_toArray, List.getElem_cons_succ, List.getElem_cons_zero]
            refine wanted_step (by rfl) ?_
            refine step_storeN (.tmp 6) (.tmp 37) rfl gC (dig 16 (C)) zerosN (by simp) rfl rfl rfl n_gC ?_
            intro v34 m_gC g_v34
            refine hK.out _ _ (hH.other g_v34 ge_gC (by omega)) (fun hH => ?_)
            clear hK K n_gC
            have m_gA := m_gA.kept g_v34 (by omega)
            clear g_v34
            refine wpAnyH_done (by kernel_rfl) ?_ _
            go_wp2_with fail
            go_meet
            exact ⟨gA, gC, rfl, rfl, m_gA, m_gC, (by omega), (by omega), hW.kept hH.g (by omega), hH.z, hH.below hb (by omega) hb.size, Nat.le_trans hsz hH.g.size⟩
          refine AllReadyH.cons rfl (fun K hK => ?_) ?_
          · try simp only [List.getElem_toArray, List.getElem_cons_succ, List.getElem_cons_zero]
            go_simp
            show K _ (v30.alloc (objN zerosN))
            obtain ⟨v35, e_v35⟩ : ∃ x, x = v30.alloc (objN zerosN) := ⟨_, rfl⟩
            obtain ⟨gC, e_gC⟩ : ∃ g, g = v30.heap.size := ⟨_, rfl⟩
            have e2_gC : v30.heap.size = gC := e_gC.symm
            rw [← e_v35]
            try rw [← e_gC]
            try rw [e2_gC]
            have n_gC : NAt v35 gC zerosN := by rw [e_v35, e_gC]; exact arr_new _ _ _
            have b_v35 : Below v30.heap.size v30 v35 := by rw [e_v35]; exact below_alloc _ _
            have ge_gC : wc.heap.size ≤ gC := by rw [e_gC]; exact hH.g.size
            have ne_gC_gA : gA ≠ gC := by have := n_gA.lt; omega
            have n_gA := n_gA.below b_v35
            refine hK.out _ _ (hH.call b_v35) (fun hH => ?_)
            clear hK K e_v35 e_gC e2_gC b_v35
            refine wpAnyH_ready (rs := [9]) (by kernel_rfl) (by simp) ?_
            refine AllReadyH.cons rfl (fun K hK => ?_) AllReadyH.nil
            try simp only [List.getElem_toArray, List.getElem_cons_succ, List.getElem_cons_zero]
            go_simp
            go_at_call 44
            refine (specSub_any _ p1 p2 hp1.out hp2.out).mono ?_
            rintro e v36 ⟨rfl, hb_v36⟩
            rw [← HC.out]
            refine hK.out _ _ (hH.call hb_v36) (fun hH => ?_)
            clear hK K
            try simp only [Act.put, List.getElem_toArray, List.getElem_cons_succ, List.getElem_cons_zero, List.setIfInBounds_toArray, List.set_cons_zero, List.set_cons_succ]
            have n_gA := n_gA.below hb_v36
            have n_gC := n_gC.below hb_v36
            refine wpAnyH_ready (rs := [12]) (by kernel_rfl) (by simp) ?_
            refine AllReadyH.cons rfl (fun K hK => ?_) AllReadyH.nil
            try simp only [List.getElem_toArray, List.getElem_cons_succ, List.getElem_cons_zero]
            refine wanted_step (by rfl) ?_
            refine step_storeN (.tmp 5) (.tmp 32) rfl gA (dig 16 (A)) zerosN (by simp) rfl rfl rfl n_gA ?_
            intro v37 m_gA g_v37
            refine hK.out _ _ (hH.other g_v37 ge_gA (by omega)) (fun hH => ?_)
            clear hK K n_gA
            have n_gC := n_gC.kept g_v37 (by omega)
            clear g_v37
            refine wpAnyH_ready (rs := [13]) (by kernel_rfl) (by simp) ?_
            refine AllReadyH.cons rfl (fun K hK => ?_) AllReadyH.nil
            try simp only [List.getElem_toArray, List.getElem_cons_succ, List.getElem_cons_zero]
            refine wanted_step (by rfl) ?_
            refine step_storeN (.tmp 6) (.tmp 37) rfl gC (dig 16 (C)) zerosN (by simp) rfl rfl rfl n_gC ?_
            intro v38 m_gC g_v38
            refine hK.out _ _ (hH.other g_v38 ge_gC (by omega)) (fun hH => ?_)
            clear hK K n_gC
            have m_gA := m_gA.kept g_v38 (by omega)
            clear g_v38
            refine wpAnyH_done (by kernel_rfl) ?_ _
            go_wp2_with fail
            go_meet
            exact ⟨gA, gC, rfl, rfl, m_gA, m_gC, (by omega), (by omega), hW.kept hH.g (by omega), hH.z, hH.below hb (by omega) hb.size, Nat.le_trans hsz hH.g.size⟩
          exact AllReadyH.nil
        refine AllReadyH.cons rfl (fun K hK => ?_) ?_
        · try simp only [List.getElem_toArray, List.getElem_cons_succ, List.getElem_cons_zero]
          go_simp
          show K _ (v29.alloc (objN zerosN))
          obtain ⟨v39, e_v39⟩ : ∃ x, x = v29.alloc (objN zerosN) := ⟨_, rfl⟩
          obtain ⟨gC, e_gC⟩ : ∃ g, g = v29.heap.size := ⟨_, rfl⟩
          have e2_gC : v29.heap.size = gC := e_gC.symm
          rw [← e_v39]
          try rw [← e_gC]
          try rw [e2_gC]
          have n_gC : NAt v39 gC zerosN := by rw [e_v39, e_gC]; exact arr_new _ _ _
          have b_v39 : Below v29.heap.size v29 v39 := by rw [e_v39]; exact below_alloc _ _
          have ge_gC : wc.heap.size ≤ gC := by rw [e_gC]; exact hH.g.size
          have ne_gC_gA : gA ≠ gC := by have := n_gA.lt; omega
          have n_gA := n_gA.below b_v39
          refine hK.out _ _ (hH.call b_v39) (fun hH => ?_)
          clear hK K e_v39 e_gC e2_gC b_v39
          refine wpAnyH_ready (rs := [4]) (by kernel_rfl) (by simp) ?_
          refine AllReadyH.cons rfl (fun K hK => ?_) AllReadyH.nil
          try simp only [List.getElem_toArray, List.getElem_cons_succ, List.getElem_cons_zero]
          go_simp
          go_at_call 43
          refine (specAdd_any _ p1 p2 hp1.out hp2.out).mono ?_
          rintro e v40 ⟨rfl, hb_v40⟩
          rw [← HA.out]
          refine hK.out _ _ (hH.call hb_v40) (fun hH => ?_)
          clear hK K
          try simp only [Act.put, List.getElem_toArray, List.getElem_cons_succ, List.getElem_cons_zero, List.setIfInBounds_toArray, List.set_cons_zero, List.set_cons_succ]
          have n_gA := n_gA.below hb_v40
          have n_gC := n_gC.below hb_v40
          refine wpAnyH_ready (rs := [9]) (by kernel_rfl) (by simp) ?_
          refine AllReadyH.cons rfl (fun K hK => ?_) AllReadyH.nil
          try simp only [List.getElem_toArray, List.getElem_cons_succ, List.getElem_cons_zero]
          go_simp
          go_at_call 44
          refine (specSub_any _ p1 p2 hp1.out hp2.out).mono ?_
          rintro e v41 ⟨rfl, hb_v41⟩
          rw [← HC.out]
          refine hK.out _ _ (hH.call hb_v41) (fun hH => ?_)
          clear hK K
          try simp only [Act.put, List.getElem_toArray, List.getElem_cons_succ, List.getElem_cons_zero, List.setIfInBounds_toArray, List.set_cons_zero, List.set_cons_succ]
          have n_gA := n_gA.below hb_v41
          have n_gC := n_gC.below hb_v41
          refine wpAnyH_ready (rs := [12]) (by kernel_rfl) (by simp) ?_
          refine AllReadyH.cons rfl (fun K hK => ?_) AllReadyH.nil
          try simp only [List.getElem_toArray, List.getElem_cons_succ, List.getElem_cons_zero]
          refine wanted_step (by rfl) ?_
          refine step_storeN (.tmp 5) (.tmp 32) rfl gA (dig 16 (A)) zerosN (by simp) rfl rfl rfl n_gA ?_
          intro v42 m_gA g_v42
          refine hK.out _ _ (hH.other g_v42 ge_gA (by omega)) (fun hH => ?_)
          clear hK K n_gA
          have n_gC := n_gC.kept g_v42 (by omega)
          clear g_v42
          refine wpAnyH_ready (rs := [13]) (by kernel_rfl) (by simp) ?_
          refine AllReadyH.cons rfl (fun K hK => ?_) AllReadyH.nil
          try simp only [List.getElem_toArray, List.getElem_cons_succ, List.getElem_cons_zero]
          refine wanted_step (by rfl) ?_
          refine step_storeN (.tmp 6) (.tmp 37) rfl gC (dig 16 (C)) zerosN (by simp) rfl rfl rfl n_gC ?_
          intro v43 m_gC g_v43
          refine hK.out _ _ (hH.other g_v43 ge_gC (by omega)) (fun hH => ?_)
          clear hK K n_gC
          have m_gA := m_gA.kept g_v43 (by omega)
          clear g_v43
          refine wpAnyH_done (by kernel_rfl) ?_ _
          go_wp2_with fail
          go_meet
          exact ⟨gA, gC, rfl, rfl, m_gA, m_gC, (by omega), (by omega), hW.kept hH.g (by omega), hH.z, hH.below hb (by omega) hb.size, Nat.le_trans hsz hH.g.size⟩
        exact AllReadyH.nil
      refine AllReadyH.cons rfl (fun K hK => ?_) ?_
      · try simp only [List.getElem_toArray, List.getElem_cons_succ, List.getElem_cons_zero]
        go_simp
        show K _ (wc.drew.alloc (objN zerosN))
        obtain ⟨v44, e_v44⟩ : ∃ x, x = wc.drew.alloc (objN zerosN) := ⟨_, rfl⟩
        obtain ⟨gC, e_gC⟩ : ∃ g, g = wc.drew.heap.size := ⟨_, rfl⟩
        have e2_gC : wc.heap.size = gC := e_gC.symm
        rw [← e_v44]
        try rw [← e_gC]
        try rw [e2_gC]
        have n_gC : NAt v44 gC zerosN := by rw [e_v44, e_gC]; exact arr_new _ _ _
        have b_v44 : Below wc.drew.heap.size wc.drew v44 := by rw [e_v44]; exact below_alloc _ _
        have ge_gC : wc.heap.size ≤ gC := by rw [e_gC]; exact hH.g.size
        refine hK.out _ _ (hH.call b_v44) (fun hH => ?_)
        clear hK K e_v44 e_gC e2_gC b_v44
        refine wpAnyH_ready (rs := [4, 10]) (by kernel_rfl) (by simp) ?_
        refine AllReadyH.cons rfl (fun K hK => ?_) ?_
        · try simp only [List.getElem_toArray, List.getElem_cons_succ, List.getElem_cons_zero]
          go_simp
          go_at_call 43
          refine (specAdd_any _ p1 p2 hp1.out hp2.out).mono ?_
          rintro e v45 ⟨rfl, hb_v45⟩
          rw [← HA.out]
          refine hK.out _ _ (hH.call hb_v45) (fun hH => ?_)
          clear hK K
          try simp only [Act.put, List.getElem_toArray, List.getElem_cons_succ, List.getElem_cons_zero, List.setIfInBounds_toArray, List.set_cons_zero, List.set_cons_succ]
          have n_gC := n_gC.below hb_v45
          refine wpAnyH_ready (rs := [9, 10]) (by kernel_rfl) (by simp) ?_
          refine AllReadyH.cons rfl (fun K hK => ?_) ?_
          · try simp only [List.getElem_toArray, List.getElem_cons_succ, List.getElem_cons_zero]
            go_simp
            go_at_call 44
            refine (specSub_any _ p1 p2 hp1.out hp2.out).mono ?_
            rintro e v46 ⟨rfl, hb_v46⟩
            rw [← HC.out]
            refine hK.out _ _ (hH.call hb_v46) (fun hH => ?_)
            clear hK K
            try simp only [Act.put, List.getElem_toArray, List.getElem_cons_succ, List.getElem_cons_zero, List.setIfInBounds_toArray, List.set_cons_zero, List.set_cons_succ]
            have n_gC := n_gC.below hb_v46
            refine wpAnyH_ready (rs := [10]) (by kernel_rfl) (by simp) ?_
            refine AllReadyH.cons rfl (fun K hK => ?_) AllReadyH.nil
            try simp only [List.getElem_toArray, List.getElem_cons_succ, List.getElem_cons_zero]
            go_simp
            show K _ (v46.alloc (objN zerosN))
            obtain ⟨v47, e_v47⟩ : ∃ x, x = v46.alloc (objN zerosN) := ⟨_, rfl⟩
            obtain ⟨gA, e_gA⟩ : ∃ g, g = v46.heap.size := ⟨_, rfl⟩
            have e2_gA : v46.heap.size = gA := e_gA.symm
            rw [← e_v47]
            try rw [← e_gA]
            try rw [e2_gA]
            have n_gA : NAt v47 gA zerosN := by rw [e_v47, e_gA]; exact arr_new _ _ _
            have b_v47 : Below v46.heap.size v46 v47 := by rw [e_v47]; exact below_alloc _ _
            have ge_gA : wc.heap.size ≤ gA := by rw [e_gA]; exact hH.g.size
            have ne_gA_gC : gC ≠ gA := by have := n_gC.lt; omega
            have n_gC := n_gC.below b_v47
            refine hK.out _ _ (hH.call b_v47) (fun hH => ?_)
            clear hK K e_v47 e_gA e2_gA b_v47
            refine wpAnyH_ready (rs := [12]) (by kernel_rfl) (by simp) ?_
            refine AllReadyH.cons rfl (fun K hK => ?_) AllReadyH.nil
            try simp only [List.getElem_toArray, List.getElem_cons_succ, List.getElem_cons_zero]
            refine wanted_step (by rfl) ?_
            refine step_storeN (.tmp 5) (.tmp 32) rfl gA (dig 16 (A)) zerosN (by simp) rfl rfl rfl n_gA ?_
            intro v48 m_gA g_v48
            refine hK.out _ _ (hH.other g_v48 ge_gA (by omega)) (fun hH => ?_)
            clear hK K n_gA
            have n_gC := n_gC.kept g_v48 (by omega)
            clear g_v48
            refine wpAnyH_ready (rs := [13]) (by kernel_rfl) (by simp) ?_
            refine AllReadyH.cons rfl (fun K hK => ?_) AllReadyH.nil
            try simp only [List.getElem_toArray, List.getElem_cons_succ, List.getElem_cons_zero]
            refine wanted_step (by rfl) ?_
            refine step_storeN (.tmp 6) (.tmp 37) rfl gC (dig 16 (C)) zerosN (by simp) rfl rfl rfl n_gC ?_
            intro v49 m_gC g_v49
            refine hK.out _ _ (hH.other g_v49 ge_gC (by omega)) (fun hH => ?_)
            clear hK K n_gC
            have m_gA := m_gA.kept g_v49 (by omega)
            clear g_v49
            refine wpAnyH_done (by kernel_rfl) ?_ _
            go_wp2_with fail
            go_meet
            exact ⟨gA, gC, rfl, rfl, m_gA, m_gC, (by omega), (by omega), hW.kept hH.g (by omega), hH.z, hH.below hb (by omega) hb.size, Nat.le_trans hsz hH.g.size⟩
          refine AllReadyH.cons rfl (fun K hK => ?_) ?_
          · try simp only [List.getElem_toArray, List.getElem_cons_succ, List.getElem_cons_zero]
            go_simp
            show K _ (v45.alloc (objN zerosN))
            obtain ⟨v50, e_v50⟩ : ∃ x, x = v45.alloc (objN zerosN) := ⟨_, rfl⟩
            obtain ⟨gA, e_gA⟩ : ∃ g, g = v45.heap.size := ⟨_, rfl⟩
            have e2_gA : v45.heap.size = gA := e_gA.symm
            rw [← e_v50]
            try rw [← e_gA]
            try rw [e2_gA]
            have n_gA : NAt v50 gA zerosN := by rw [e_v50, e_gA]; exact arr_new _ _ _
            have b_v50 : Below v45.heap.size v45 v50 := by rw [e_v50]; exact below_alloc _ _
            have ge_gA : wc.heap.size ≤ gA := by rw [e_gA]; exact hH.g.size
            have ne_gA_gC : gC ≠ gA := by have := n_gC.lt; omega
            have n_gC := n_gC.below b_v50
            refine hK.out _ _ (hH.call b_v50) (fun hH => ?_)
            clear hK K e_v50 e_gA e2_gA b_v50
            refine wpAnyH_ready (rs := [9]) (by kernel_rfl) (by simp) ?_
            refine AllReadyH.cons rfl (fun K hK => ?_) AllReadyH.nil
            try simp only [List.getElem_toArray, List.getElem_cons_succ, List.getElem_cons_zero]
            go_simp
            go_at_call 44
            refine (specSub_any _ p1 p2 hp1.out hp2.out).mono ?_
            rintro e v51 ⟨rfl, hb_v51⟩
            rw [← HC.out]
            refine hK.out _ _ (hH.call hb_v51) (fun hH => ?_)
            clear hK K
            try simp only [Act.put, List.getElem_toArray, List.getElem_cons_succ, List.getElem_cons_zero, List.setIfInBounds_toArray, List.set_cons_zero, List.set_cons_succ]
            have n_gC := n_gC.below hb_v51
            have n_gA := n_gA.below hb_v51
            refine wpAnyH_ready (rs := [12]) (by kernel_rfl) (by simp) ?_
            refine AllReadyH.cons rfl (fun K hK => ?_) AllReadyH.nil
            try simp only [List.getElem_toArray, List.getElem_cons_succ, List.getElem_cons_zero]
            refine wanted_step (by rfl) ?_
            refine step_storeN (.tmp 5) (.tmp 32) rfl gA (dig 16 (A)) zerosN (by simp) rfl rfl rfl n_gA ?_
            intro v52 m_gA g_v52
            refine hK.out _ _ (hH.other g_v52 ge_gA (by omega)) (fun hH => ?_)
            clear hK K n_gA
            have n_gC := n_gC.kept g_v52 (by omega)
            clear g_v52
            refine wpAnyH_ready (rs := [13]) (by kernel_rfl) (by simp) ?_
            refine AllReadyH.cons rfl (fun K hK => ?_) AllReadyH.nil
            try simp only [List.getElem_toArray, List.getElem_cons_succ, List.getElem_cons_zero]
            refine wanted_step (by rfl) ?_
            refine step_storeN (.tmp 6) (.tmp 37) rfl gC (dig 16 (C)) zerosN (by simp) rfl rfl rfl n_gC ?_
            intro v53 m_gC g_v53
            refine hK.out _ _ (hH.other g_v53 ge_gC (by omega)) (fun hH => ?_)
            clear hK K n_gC
            have m_gA := m_gA.kept g_v53 (by omega)
            clear g_v53
            refine wpAnyH_done (by kernel_rfl) ?_ _
            go_wp2_with fail
            go_meet
            exact ⟨gA, gC, rfl, rfl, m_gA, m_gC, (by omega), (by omega), hW.kept hH.g (by omega), hH.z, hH.below hb (by omega) hb.size, Nat.le_trans hsz hH.g.size⟩
          exact AllReadyH.nil
        refine AllReadyH.cons rfl (fun K hK => ?_) ?_
        · try simp only [List.getElem_toArray, List.getElem_cons_succ, List.getElem_cons_zero]
          go_simp
          show K _ (v44.alloc (objN zerosN))
          obtain ⟨v54, e_v54⟩ : ∃ x, x = v44.alloc (objN zerosN) := ⟨_, rfl⟩
          obtain ⟨gA, e_gA⟩ : ∃ g, g = v44.heap.size := ⟨_, rfl⟩
          have e2_gA : v44.heap.size = gA := e_gA.symm
          rw [← e_v54]
          try rw [← e_gA]
          try rw [e2_gA]
          have n_gA : NAt v54 gA zerosN := by rw [e_v54, e_gA]; exact arr_new _ _ _
          have b_v54 : Below v44.heap.size v44 v54 := by rw [e_v54]; exact below_alloc _ _
          have ge_gA : wc.heap.size ≤ gA := by rw [e_gA]; exact hH.g.size
          have ne_gA_gC : gC ≠ gA := by have := n_gC.lt; omega
          have n_gC := n_gC.below b_v54
          refine hK.out _ _ (hH.call b_v54) (fun hH => ?_)
          clear hK K e_v54 e_gA e2_gA b_v54
          refine wpAnyH_ready (rs := [4]) (by kernel_rfl) (by simp) ?_
          refine AllReadyH.cons rfl (fun K hK => ?_) AllReadyH.nil
          try simp only [List.getElem_toArray, List.getElem_cons_succ, List.getElem_cons_zero]
          go_simp
          go_at_call 43
          refine (specAdd_any _ p1 p2 hp1.out hp2.out).mono ?_
          rintro e v55 ⟨rfl, hb_v55⟩
          rw [← HA.out]
          refine hK.out _ _ (hH.call hb_v55) (fun hH => ?_)
          clear hK K
          try simp only [Act.put, List.getElem_toArray, List.getElem_cons_succ, List.getElem_cons_zero, List.setIfInBounds_toArray, List.set_cons_zero, List.set_cons_succ]
          have n_gC := n_gC.below hb_v55
          have n_gA := n_gA.below hb_v55
          refine wpAnyH_ready (rs := [9]) (by kernel_rfl) (by simp) ?_
          refine AllReadyH.cons rfl (fun K hK => ?_) AllReadyH.nil
          try simp only [List.getElem_toArray, List.getElem_cons_succ, List.getElem_cons_zero]
          go_simp
          go_at_call 44
          refine (specSub_any _ p1 p2 hp1.out hp2.out).mono ?_
          rintro e v56 ⟨rfl, hb_v56⟩
          rw [← HC.out]
          refine hK.out _ _ (hH.call hb_v56) (fun hH => ?_)
          clear hK K
          try simp only [Act.put, List.getElem_toArray, List.getElem_cons_succ, List.getElem_cons_zero, List.setIfInBounds_toArray, List.set_cons_zero, List.set_cons_succ]
          have n_gC := n_gC.below hb_v56
          have n_gA := n_gA.below hb_v56
          refine wpAnyH_ready (rs := [12]) (by kernel_rfl) (by simp) ?_
          refine AllReadyH.cons rfl (fun K hK => ?_) AllReadyH.nil
          try simp only [List.getElem_toArray, List.getElem_cons_succ, List.getElem_cons_zero]
          refine wanted_step (by rfl) ?_
          refine step_storeN (.tmp 5) (.tmp 32) rfl gA (dig 16 (A)) zerosN (by simp) rfl rfl rfl n_gA ?_
          intro v57 m_gA g_v57
          refine hK.out _ _ (hH.other g_v57 ge_gA (by omega)) (fun hH => ?_)
          clear hK K n_gA
          have n_gC := n_gC.kept g_v57 (by omega)
          clear g_v57
          refine wpAnyH_ready (rs := [13]) (by kernel_rfl) (by simp) ?_
          refine AllReadyH.cons rfl (fun K hK => ?_) AllReadyH.nil
          try simp only [List.getElem_toArray, List.getElem_cons_succ, List.getElem_cons_zero]
          refine wanted_step (by rfl) ?_
          refine step_storeN (.tmp 6) (.tmp 37) rfl gC (dig 16 (C)) zerosN (by simp) rfl rfl rfl n_gC ?_
          intro v58 m_gC g_v58
          refine hK.out _ _ (hH.other g_v58 ge_gC (by omega)) (fun hH => ?_)
          clear hK K n_gC
          have m_gA := m_gA.kept g_v58 (by omega)
          clear g_v58
          refine wpAnyH_done (by kernel_rfl) ?_ _
          go_wp2_with fail
          go_meet
          exact ⟨gA, gC, rfl, rfl, m_gA, m_gC, (by omega), (by omega), hW.kept hH.g (by omega), hH.z, hH.below hb (by omega) hb.size, Nat.le_trans hsz hH.g.size⟩
        exact AllReadyH.nil
      exact AllReadyH.nil
    clear hW hR hzr hb hsz 
    obtain ⟨gA, gC, rfl, rfl, m_gA, m_gC, q_gA, q_gC, hW, ⟨zr, hzr, hR⟩, hb, hsz⟩ := hcut
    go_wp2_with fail
    go_cut [7, 8] (fun s7 s8 wx => ∃ gAA gBB : Nat, s7 = .pointer (some ⟨gAA, 0, none⟩) ∧ s8 = .pointer (some ⟨gBB, 0, none⟩) ∧ NAt wx gAA (dig 16 AA) ∧ NAt wx gBB (dig 16 BB) ∧ NAt wx gA (dig 16 A) ∧ NAt wx gC (dig 16 C) ∧ w.heap.size + 2 ≤ gAA ∧ w.heap.size + 2 ≤ gBB ∧ WAt wx w.heap.size u ⟨p1, p2, p3, p4⟩ ∧ (∃ z, z.length = 80 ∧ Arr wx (w.heap.size + 1) 59 z) ∧ Below w.heap.size w wx ∧ w.heap.size + 2 ≤ wx.heap.size)
    case first =>
      refine wp_region_held_drew (S := fun w' => GH wc w' (w.heap.size + 1) 80 59) (by kernel_rfl) (GH.start hR hzr) (fun hH => ?_)
      refine wpAnyH_take (i := 0) (v := _) rfl (by kernel_rfl) (by kernel_rfl) (by kernel_rfl) (fun _ _ _ h => h) (yieldsIf_load_mid (by rfl) _ _ rfl _ _ rfl _ _ (fun w' h => Arr.range (Arr.kept m_gA (GH.g h) (by omega))) n_und rfl (n_len A)) hH ?_
      simp only [Act.put, List.getElem_toArray, List.getElem_cons_succ, List.getElem_cons_zero, List.setIfInBounds_toArray, List.set_cons_zero, List.set_cons_succ]
      refine wpAnyH_take (i := 1) (v := _) rfl (by kernel_rfl) (by kernel_rfl) (by kernel_rfl) (fun _ _ _ h => h) (yieldsIf_load_mid (by rfl) _ _ rfl _ _ rfl _ _ (fun w' h => Arr.range (Arr.kept m_gA (GH.g h) (by omega))) n_und rfl (n_len A)) hH ?_
      simp only [Act.put, List.getElem_toArray, List.getElem_cons_succ, List.getElem_cons_zero, List.setIfInBounds_toArray, List.set_cons_zero, List.set_cons_succ]
      refine wpAnyH_take (i := 3) (v := _) rfl (by kernel_rfl) (by kernel_rfl) (by kernel_rfl) (fun _ _ _ h => h) (yieldsIf_load_mid (by rfl) _ _ rfl _ _ rfl _ _ (fun w' h => Arr.range (Arr.kept m_gC (GH.g h) (by omega))) n_und rfl (n_len C)) hH ?_
      simp only [Act.put, List.getElem_toArray, List.getElem_cons_succ, List.getElem_cons_zero, List.setIfInBounds_toArray, List.set_cons_zero, List.set_cons_succ]
      refine wpAnyH_take (i := 4) (v := _) rfl (by kernel_rfl) (by kernel_rfl) (by kernel_rfl) (fun _ _ _ h => h) (yieldsIf_load_mid (by rfl) _ _ rfl _ _ rfl _ _ (fun w' h => Arr.range (Arr.kept m_gC (GH.g h) (by omega))) n_und rfl (n_len C)) hH ?_
      simp only [Act.put, List.getElem_toArray, List.getElem_cons_succ, List.getElem_cons_zero, List.setIfInBounds_toArray, List.set_cons_zero, List.set_cons_succ]
      refine wpAnyH_ready (rs := [2, 6, 7]) (by kernel_rfl) (by simp) ?_
      refine AllReadyH.cons rfl (fun K hK => ?_) ?_
      · try simp only [List.getElem_toArray, List.getElem_cons_succ, List.getElem_cons_zero]
        go_simp
        go_at_call 28
        refine (specMul_any _ A A hA.out hA.out).mono ?_
        rintro e v59 ⟨rfl, hb_v59⟩
        rw [← HAA.out]
        refine hK.out _ _ (hH.call hb_v59) (fun hH => ?_)
        clear hK K
        try simp only [Act.put, List.getElem_toArray, List.getElem_cons_succ, List.getElem_cons_zero, List.setIfInBounds_toArray, List.set_cons_zero, List.set_cons_succ]
        refine wpAnyH_ready (rs := [5, 6, 7]) (by kernel_rfl) (by simp) ?_
        refine AllReadyH.cons rfl (fun K hK => ?_) ?_
        · try simp only [List.getElem_toArray, List.getElem_cons_succ, List.getElem_cons_zero]
          go_simp
          go_at_call 28
          refine (specMul_any _ C C hC.out hC.out).mono ?_
          rintro e v60 ⟨rfl, hb_v60⟩
          rw [← HBB.out]
          refine hK.out _ _ (hH.call hb_v60) (fun hH => ?_)
          clear hK K
          try simp only [Act.put, List.getElem_toArray, List.getElem_cons_succ, List.getElem_cons_zero, List.setIfInBounds_toArray, List.set_cons_zero, List.set_cons_succ]
          refine wpAnyH_ready (rs := [6, 7]) (by kernel_rfl) (by simp) ?_
          refine AllReadyH.cons rfl (fun K hK => ?_) ?_
          · try simp only [List.getElem_toArray, List.getElem_cons_succ, List.getElem_cons_zero]
            go_simp
            show K _ (v60.alloc (objN zerosN))
            obtain ⟨v61, e_v61⟩ : ∃ x, x = v60.alloc (objN zerosN) := ⟨_, rfl⟩
            obtain ⟨gAA, e_gAA⟩ : ∃ g, g = v60.heap.size := ⟨_, rfl⟩
            have e2_gAA : v60.heap.size = gAA := e_gAA.symm
            rw [← e_v61]
            try rw [← e_gAA]
            try rw [e2_gAA]
            have n_gAA : NAt v61 gAA zerosN := by rw [e_v61, e_gAA]; exact arr_new _ _ _
            have b_v61 : Below v60.heap.size v60 v61 := by rw [e_v61]; exact below_alloc _ _
            have ge_gAA : wc.heap.size ≤ gAA := by rw [e_gAA]; exact hH.g.size
            refine hK.out _ _ (hH.call b_v61) (fun hH => ?_)
            clear hK K e_v61 e_gAA e2_gAA b_v61
            refine wpAnyH_ready (rs := [7]) (by kernel_rfl) (by simp) ?_
            refine AllReadyH.cons rfl (fun K hK => ?_) AllReadyH.nil
            try simp only [List.getElem_toArray, List.getElem_cons_succ, List.getElem_cons_zero]
            go_simp
            show K _ (v61.alloc (objN zerosN))
            obtain ⟨v62, e_v62⟩ : ∃ x, x = v61.alloc (objN zerosN) := ⟨_, rfl⟩
            obtain ⟨gBB, e_gBB⟩ : ∃ g, g = v61.heap.size := ⟨_, rfl⟩
            have e2_gBB : v61.heap.size = gBB := e_gBB.symm
            rw [← e_v62]
            try rw [← e_gBB]
            try rw [e2_gBB]
            have n_gBB : NAt v62 gBB zerosN := by rw [e_v62, e_gBB]; exact arr_new _ _ _
            have b_v62 : Below v61.heap.size v61 v62 := by rw [e_v62]; exact below_alloc _ _
            have ge_gBB : wc.heap.size ≤ gBB := by rw [e_gBB]; exact hH.g.size
            have ne_gBB_gAA : gAA ≠ gBB := by have := n_gAA.lt; omega
            have n_gAA := n_gAA.below b_v62
            refine hK.out _ _ (hH.call b_v62) (fun hH => ?_)
            clear hK K e_v62 e_gBB e2_gBB b_v62
            refine wpAnyH_ready (rs := [8]) (by kernel_rfl) (by simp) ?_
            refine AllReadyH.cons rfl (fun K hK => ?_) AllReadyH.nil
            try simp only [List.getElem_toArray, List.getElem_cons_succ, List.getElem_cons_zero]
            refine wanted_step (by rfl) ?_
            refine step_storeN (.tmp 7) (.tmp 40) rfl gAA (dig 16 (AA)) zerosN (by simp) rfl rfl rfl n_gAA ?_
            intro v63 m_gAA g_v63
            refine hK.out _ _ (hH.other g_v63 ge_gAA (by omega)) (fun hH => ?_)
            clear hK K n_gAA
            have n_gBB := n_gBB.kept g_v63 (by omega)
            clear g_v63
            refine wpAnyH_ready (rs := [9]) (by kernel_rfl) (by simp) ?_
            refine AllReadyH.cons rfl (fun K hK => ?_) AllReadyH.nil
            try simp only [List.getElem_toArray, List.getElem_cons_succ, List.getElem_cons_zero]
            refine wanted_step (by rfl) ?_
            refine step_storeN (.tmp 8) (.tmp 43) rfl gBB (dig 16 (BB)) zerosN (by simp) rfl rfl rfl n_gBB ?_
            intro v64 m_gBB g_v64
            refine hK.out _ _ (hH.other g_v64 ge_gBB (by omega)) (fun hH => ?_)
            clear hK K n_gBB
            have m_gAA := m_gAA.kept g_v64 (by omega)
            clear g_v64
            refine wpAnyH_done (by kernel_rfl) ?_ _
            go_wp2_with fail
            go_meet
            exact ⟨gAA, gBB, rfl, rfl, m_gAA, m_gBB, m_gA.kept hH.g (by omega), m_gC.kept hH.g (by omega), (by omega), (by omega), hW.kept hH.g (by omega), hH.z, hH.below hb (by omega) hb.size, Nat.le_trans hsz hH.g.size⟩
          refine AllReadyH.cons rfl (fun K hK => ?_) ?_
          · try simp only [List.getElem_toArray, List.getElem_cons_succ, List.getElem_cons_zero]
            go_simp
            show K _ (v60.alloc (objN zerosN))
            obtain ⟨v65, e_v65⟩ : ∃ x, x = v60.alloc (objN zerosN) := ⟨_, rfl⟩
            obtain ⟨gBB, e_gBB⟩ : ∃ g, g = v60.heap.size := ⟨_, rfl⟩
            have e2_gBB : v60.heap.size = gBB := e_gBB.symm
            rw [← e_v65]
            try rw [← e_gBB]
            try rw [e2_gBB]
            have n_gBB : NAt v65 gBB zerosN := by rw [e_v65, e_gBB]; exact arr_new _ _ _
            have b_v65 : Below v60.heap.size v60 v65 := by rw [e_v65]; exact below_alloc _ _
            have ge_gBB : wc.heap.size ≤ gBB := by rw [e_gBB]; exact hH.g.size
            refine hK.out _ _ (hH.call b_v65) (fun hH => ?_)
            clear hK K e_v65 e_gBB e2_gBB b_v65
            refine wpAnyH_ready (rs := [6]) (by kernel_rfl) (by simp) ?_
            refine AllReadyH.cons rfl (fun K hK => ?_) AllReadyH.nil
            try simp only [List.getElem_toArray, List.getElem_cons_succ, List.getElem_cons_zero]
            go_simp
            show K _ (v65.alloc (objN zerosN))
            obtain ⟨v66, e_v66⟩ : ∃ x, x = v65.alloc (objN zerosN) := ⟨_, rfl⟩
            obtain ⟨gAA, e_gAA⟩ : ∃ g, g = v65.heap.size := ⟨_, rfl⟩
            have e2_gAA : v65.heap.size = gAA := e_gAA.symm
            rw [← e_v66]
            try rw [← e_gAA]
            try rw [e2_gAA]
            have n_gAA : NAt v66 gAA zerosN := by rw [e_v66, e_gAA]; exact arr_new _ _ _
            have b_v66 : Below v65.heap.size v65 v66 := by rw [e_v66]; exact below_alloc _ _
            have ge_gAA : wc.heap.size ≤ gAA := by rw [e_gAA]; exact hH.g.size
            have ne_gAA_gBB : gBB ≠ gAA := by have := n_gBB.lt; omega
            have n_gBB := n_gBB.below b_v66
            refine hK.out _ _ (hH.call b_v66) (fun hH => ?_)
            clear hK K e_v66 e_gAA e2_gAA b_v66
            refine wpAnyH_ready (rs := [8]) (by kernel_rfl) (by simp) ?_
            refine AllReadyH.cons rfl (fun K hK => ?_) AllReadyH.nil
            try simp only [List.getElem_toArray, List.getElem_cons_succ, List.getElem_cons_zero]
            refine wanted_step (by rfl) ?_
            refine step_storeN (.tmp 7) (.tmp 40) rfl gAA (dig 16 (AA)) zerosN (by simp) rfl rfl rfl n_gAA ?_
            intro v67 m_gAA g_v67
            refine hK.out _ _ (hH.other g_v67 ge_gAA (by omega)) (fun hH => ?_)
            clear hK K n_gAA
            have n_gBB := n_gBB.kept g_v67 (by omega)
            clear g_v67
            refine wpAnyH_ready (rs := [9]) (by kernel_rfl) (by simp) ?_
            refine AllReadyH.cons rfl (fun K hK => ?_) AllReadyH.nil
            try simp only [List.getElem_toArray, List.getElem_cons_succ, List.getElem_cons_zero]
            refine wanted_step (by rfl) ?_
            refine step_storeN (.tmp 8) (.tmp 43) rfl gBB (dig 16 (BB)) zerosN (by simp) rfl rfl rfl n_gBB ?_
            intro v68 m_gBB g_v68
            refine hK.out _ _ (hH.other g_v68 ge_gBB (by omega)) (fun hH => ?_)
            clear hK K n_gBB
            have m_gAA := m_gAA.kept g_v68 (by omega)
            clear g_v68
            refine wpAnyH_done (by kernel_rfl) ?_ _
            go_wp2_with fail
            go_meet
            exact ⟨gAA, gBB, rfl, rfl, m_gAA, m_gBB, m_gA.kept hH.g (by omega), m_gC.kept hH.g (by omega), (by omega), (by omega), hW.kept hH.g (by omega), hH.z, hH.below hb (by omega) hb.size, Nat.le_trans hsz hH.g.size⟩
          exact AllReadyH.nil
        refine AllReadyH.cons rfl (fun K hK => ?_) ?_
        · try simp only [List.getElem_toArray, List.getElem_cons_succ, List.getElem_cons_zero]
          go_simp
          show K _ (v59.alloc (objN zerosN))
          obtain ⟨v69, e_v69⟩ : ∃ x, x = v59.alloc (objN zerosN) := ⟨_, rfl⟩
          obtain ⟨gAA, e_gAA⟩ : ∃ g, g = v59.heap.size := ⟨_, rfl⟩
          have e2_gAA : v59.heap.size = gAA := e_gAA.symm
          rw [← e_v69]
          try rw [← e_gAA]
          try rw [e2_gAA]
          have n_gAA : NAt v69 gAA zerosN := by rw [e_v69, e_gAA]; exact arr_new _ _ _
          have b_v69 : Below v59.heap.size v59 v69 := by rw [e_v69]; exact below_alloc _ _
          have ge_gAA : wc.heap.size ≤ gAA := by rw [e_gAA]; exact hH.g.size
          refine hK.out _ _ (hH.call b_v69) (fun hH => ?_)
          clear hK K e_v69 e_gAA e2_gAA b_v69
          refine wpAnyH_ready (rs := [5, 7]) (by kernel_rfl) (by simp) ?_
          refine AllReadyH.cons rfl (fun K hK => ?_) ?_
          · try simp only [List.getElem_toArray, List.getElem_cons_succ, List.getElem_cons_zero]
            go_simp
            go_at_call 28
            refine (specMul_any _ C C hC.out hC.out).mono ?_
            rintro e v70 ⟨rfl, hb_v70⟩
            rw [← HBB.out]
            refine hK.out _ _ (hH.call hb_v70) (fun hH => ?_)
            clear hK K
            try simp only [Act.put, List.getElem_toArray, List.getElem_cons_succ, List.getElem_cons_zero, List.setIfInBounds_toArray, List.set_cons_zero, List.set_cons_succ]
            have n_gAA := n_gAA.below hb_v70
            refine wpAnyH_ready (rs := [7]) (by kernel_rfl) (by simp) ?_
            refine AllReadyH.cons rfl (fun K hK => ?_) AllReadyH.nil
            try simp only [List.getElem_toArray, List.getElem_cons_succ, List.getElem_cons_zero]
            go_simp
            show K _ (v70.alloc (objN zerosN))
            obtain ⟨v71, e_v71⟩ : ∃ x, x = v70.alloc (objN zerosN) := ⟨_, rfl⟩
            obtain ⟨gBB, e_gBB⟩ : ∃ g, g = v70.heap.size := ⟨_, rfl⟩
            have e2_gBB : v70.heap.size = gBB := e_gBB.symm
            rw [← e_v71]
            try rw [← e_gBB]
            try rw [e2_gBB]
            have n_gBB : NAt v71 gBB zerosN := by rw [e_v71, e_gBB]; exact arr_new _ _ _
            have b_v71 : Below v70.heap.size v70 v71 := by rw [e_v71]; exact below_alloc _ _
            have ge_gBB : wc.heap.size ≤ gBB := by rw [e_gBB]; exact hH.g.size
            have ne_gBB_gAA : gAA ≠ gBB := by have := n_gAA.lt; omega
            have n_gAA := n_gAA.below b_v71
            refine hK.out _ _ (hH.call b_v71) (fun hH => ?_)
            clear hK K e_v71 e_gBB e2_gBB b_v71
            refine wpAnyH_ready (rs := [8]) (by kernel_rfl) (by simp) ?_
            refine AllReadyH.cons rfl (fun K hK => ?_) AllReadyH.nil
            try simp only [List.getElem_toArray, List.getElem_cons_succ, List.getElem_cons_zero]
            refine wanted_step (by rfl) ?_
            refine step_storeN (.tmp 7) (.tmp 40) rfl gAA (dig 16 (AA)) zerosN (by simp) rfl rfl rfl n_gAA ?_
            intro v72 m_gAA g_v72
            refine hK.out _ _ (hH.other g_v72 ge_gAA (by omega)) (fun hH => ?_)
            clear hK K n_gAA
            have n_gBB := n_gBB.kept g_v72 (by omega)
            clear g_v72
            refine wpAnyH_ready (rs := [9]) (by kernel_rfl) (by simp) ?_
            refine AllReadyH.cons rfl (fun K hK => ?_) AllReadyH.nil
            try simp only [List.getElem_toArray, List.getElem_cons_succ, List.getElem_cons_zero]
            refine wanted_step (by rfl) ?_
            refine step_storeN (.tmp 8) (.tmp 43) rfl gBB (dig 16 (BB)) zerosN (by simp) rfl rfl rfl n_gBB ?_
            intro v73 m_gBB g_v73
            refine hK.out _ _ (hH.other g_v73 ge_gBB (by omega)) (fun hH => ?_)
            clear hK K n_gBB
            have m_gAA := m_gAA.kept g_v73 (by omega)
            clear g_v73
            refine wpAnyH_done (by kernel_rfl) ?_ _
            go_wp2_with fail
            go_meet
            exact ⟨gAA, gBB, rfl, rfl, m_gAA, m_gBB, m_gA.kept hH.g (by omega), m_gC.kept hH.g (by omega), (by omega), (by omega), hW.kept hH.g (by omega), hH.z, hH.below hb (by omega) hb.size, Nat.le_trans hsz hH.g.size⟩
          refine AllReadyH.cons rfl (fun K hK => ?_) ?_
          · try simp only [List.getElem_toArray, List.getElem_cons_succ, List.getElem_cons_zero]
            go_simp
            show K _ (v69.alloc (objN zerosN))
            obtain ⟨v74, e_v74⟩ : ∃ x, x = v69.alloc (objN zerosN) := ⟨_, rfl⟩
            obtain ⟨gBB, e_gBB⟩ : ∃ g, g = v69.heap.size := ⟨_, rfl⟩
            have e2_gBB : v69.heap.size = gBB := e_gBB.symm
            rw [← e_v74]
            try rw [← e_gBB]
            try rw [e2_gBB]
            have n_gBB : NAt v74 gBB zerosN := by rw [e_v74, e_gBB]; exact arr_new _ _ _
            have b_v74 : Below v69.heap.size v69 v74 := by rw [e_v74]; exact below_alloc _ _
            have ge_gBB : wc.heap.size ≤ gBB := by rw [e_gBB]; exact hH.g.size
            have ne_gBB_gAA : gAA ≠ gBB := by have := n_gAA.lt; omega
            have n_gAA := n_gAA.below b_v74
            refine hK.out _ _ (hH.call b_v74) (fun hH => ?_)
            clear hK K e_v74 e_gBB e2_gBB b_v74
            refine wpAnyH_ready (rs := [5]) (by kernel_rfl) (by simp) ?_
            refine AllReadyH.cons rfl (fun K hK => ?_) AllReadyH.nil
            try simp only [List.getElem_toArray, List.getElem_cons_succ, List.getElem_cons_zero]
            go_simp
            go_at_call 28
            refine (specMul_any _ C C hC.out hC.out).mono ?_
            rintro e v75 ⟨rfl, hb_v75⟩
            rw [← HBB.out]
            refine hK.out _ _ (hH.call hb_v75) (fun hH => ?_)
            clear hK K
            try simp only [Act.put, List.getElem_toArray, List.getElem_cons_succ, List.getElem_cons_zero, List.setIfInBounds_toArray, List.set_cons_zero, List.set_cons_succ]
            have n_gAA := n_gAA.below hb_v75
            have n_gBB := n_gBB.below hb_v75
            refine wpAnyH_ready (rs := [8]) (by kernel_rfl) (by simp) ?_
            refine AllReadyH.cons rfl (fun K hK => ?_) AllReadyH.nil
            try simp only [List.getElem_toArray, List.getElem_cons_succ, List.getElem_cons_zero]
            refine wanted_step (by rfl) ?_
            refine step_storeN (.tmp 7) (.tmp 40) rfl gAA (dig 16 (AA)) zerosN (by simp) rfl rfl rfl n_gAA ?_
            intro v76 m_gAA g_v76
            refine hK.out _ _ (hH.other g_v76 ge_gAA (by omega)) (fun hH => ?_)
            clear hK K n_gAA
            have n_gBB := n_gBB.kept g_v76 (by omega)
            clear g_v76
            refine wpAnyH_ready (rs := [9]) (by kernel_rfl) (by simp) ?_
            refine AllReadyH.cons rfl (fun K hK => ?_) AllReadyH.nil
            try simp only [List.getElem_toArray, List.getElem_cons_succ, List.getElem_cons_zero]
            refine wanted_step (by rfl) ?_
            refine step_storeN (.tmp 8) (.tmp 43) rfl gBB (dig 16 (BB)) zerosN (by simp) rfl rfl rfl n_gBB ?_
            intro v77 m_gBB g_v77
            refine hK.out _ _ (hH.other g_v77 ge_gBB (by omega)) (fun hH => ?_)
            clear hK K n_gBB
            have m_gAA := m_gAA.kept g_v77 (by omega)
            clear g_v77
            refine wpAnyH_done (by kernel_rfl) ?_ _
            go_wp2_with fail
            go_meet
            exact ⟨gAA, gBB, rfl, rfl, m_gAA, m_gBB, m_gA.kept hH.g (by omega), m_gC.kept hH.g (by omega), (by omega), (by omega), hW.kept hH.g (by omega), hH.z, hH.below hb (by omega) hb.size, Nat.le_trans hsz hH.g.size⟩
          exact AllReadyH.nil
        refine AllReadyH.cons rfl (fun K hK => ?_) ?_
        · try simp only [List.getElem_toArray, List.getElem_cons_succ, List.getElem_cons_zero]
          go_simp
          show K _ (v59.alloc (objN zerosN))
          obtain ⟨v78, e_v78⟩ : ∃ x, x = v59.alloc (objN zerosN) := ⟨_, rfl⟩
          obtain ⟨gBB, e_gBB⟩ : ∃ g, g = v59.heap.size := ⟨_, rfl⟩
          have e2_gBB : v59.heap.size = gBB := e_gBB.symm
          rw [← e_v78]
          try rw [← e_gBB]
          try rw [e2_gBB]
          have n_gBB : NAt v78 gBB zerosN := by rw [e_v78, e_gBB]; exact arr_new _ _ _
          have b_v78 : Below v59.heap.size v59 v78 := by rw [e_v78]; exact below_alloc _ _
          have ge_gBB : wc.heap.size ≤ gBB := by rw [e_gBB]; exact hH.g.size
          refine hK.out _ _ (hH.call b_v78) (fun hH => ?_)
          clear hK K e_v78 e_gBB e2_gBB b_v78
          refine wpAnyH_ready (rs := [5, 6]) (by kernel_rfl) (by simp) ?_
          refine AllReadyH.cons rfl (fun K hK => ?_) ?_
          · try simp only [List.getElem_toArray, List.getElem_cons_succ, List.getElem_cons_zero]
            go_simp
            go_at_call 28
            refine (specMul_any _ C C hC.out hC.out).mono ?_
            rintro e v79 ⟨rfl, hb_v79⟩
            rw [← HBB.out]
            refine hK.out _ _ (hH.call hb_v79) (fun hH => ?_)
            clear hK K
            try simp only [Act.put, List.getElem_toArray, List.getElem_cons_succ, List.getElem_cons_zero, List.setIfInBounds_toArray, List.set_cons_zero, List.set_cons_succ]
            have n_gBB := n_gBB.below hb_v79
            refine wpAnyH_ready (rs := [6]) (by kernel_rfl) (by simp) ?_
            refine AllReadyH.cons rfl (fun K hK => ?_) AllReadyH.nil
            try simp only [List.getElem_toArray, List.getElem_cons_succ, List.getElem_cons_zero]
            go_simp
            show K _ (v79.alloc (objN zerosN))
            obtain ⟨v80, e_v80⟩ : ∃ x, x = v79.alloc (objN zerosN) := ⟨_, rfl⟩
            obtain ⟨gAA, e_gAA⟩ : ∃ g, g = v79.heap.size := ⟨_, rfl⟩
            have e2_gAA : v79.heap.size = gAA := e_gAA.symm
            rw [← e_v80]
            try rw [← e_gAA]
            try rw [e2_gAA]
            have n_gAA : NAt v80 gAA zerosN := by rw [e_v80, e_gAA]; exact arr_new _ _ _
            have b_v80 : Below v79.heap.size v79 v80 := by rw [e_v80]; exact below_alloc _ _
            have ge_gAA : wc.heap.size ≤ gAA := by rw [e_gAA]; exact hH.g.size
            have ne_gAA_gBB : gBB ≠ gAA := by have := n_gBB.lt; omega
            have n_gBB := n_gBB.below b_v80
            refine hK.out _ _ (hH.call b_v80) (fun hH => ?_)
            clear hK K e_v80 e_gAA e2_gAA b_v80
            refine wpAnyH_ready (rs := [8]) (by kernel_rfl) (by simp) ?_
            refine AllReadyH.cons rfl (fun K hK => ?_) AllReadyH.nil
            try simp only [List.getElem_toArray, List.getElem_cons_succ, List.getElem_cons_zero]
            refine wanted_step (by rfl) ?_
            refine step_storeN (.tmp 7) (.tmp 40) rfl gAA (dig 16 (AA)) zerosN (by simp) rfl rfl rfl n_gAA ?_
            intro v81 m_gAA g_v81
            refine hK.out _ _ (hH.other g_v81 ge_gAA (by omega)) (fun hH => ?_)
            clear hK K n_gAA
            have n_gBB := n_gBB.kept g_v81 (by omega)
            clear g_v81
            refine wpAnyH_ready (rs := [9]) (by kernel_rfl) (by simp) ?_
            refine AllReadyH.cons rfl (fun K hK => ?_) AllReadyH.nil
            try simp only [List.getElem_toArray, List.getElem_cons_succ, List.getElem_cons_zero]
            refine wanted_step (by rfl) ?_
            refine step_storeN (.tmp 8) (.tmp 43) rfl gBB (dig 16 (BB)) zerosN (by simp) rfl rfl rfl n_gBB ?_
            intro v82 m_gBB g_v82
            refine hK.out _ _ (hH.other g_v82 ge_gBB (by omega)) (fun hH => ?_)
            clear hK K n_gBB
            have m_gAA := m_gAA.kept g_v82 (by omega)
            clear g_v82
            refine wpAnyH_done (by kernel_rfl) ?_ _
            go_wp2_with fail
            go_meet
            exact ⟨gAA, gBB, rfl, rfl, m_gAA, m_gBB, m_gA.kept hH.g (by omega), m_gC.kept hH.g (by omega), (by omega), (by omega), hW.kept hH.g (by omega), hH.z, hH.below hb (by omega) hb.size, Nat.le_trans hsz hH.g.size⟩
          refine AllReadyH.cons rfl (fun K hK => ?_) ?_
          · try simp only [List.getElem_toArray, List.getElem_cons_succ, List.getElem_cons_zero]
            go_simp
            show K _ (v78.alloc (objN zerosN))
            obtain ⟨v83, e_v83⟩ : ∃ x, x = v78.alloc (objN zerosN) := ⟨_, rfl⟩
            obtain ⟨gAA, e_gAA⟩ : ∃ g, g = v78.heap.size := ⟨_, rfl⟩
            have e2_gAA : v78.heap.size = gAA := e_gAA.symm
            rw [← e_v83]
            try rw [← e_gAA]
            try rw [e2_gAA]
            have n_gAA : NAt v83 gAA zerosN := by rw [e_v83, e_gAA]; exact arr_new _ _ _
            have b_v83 : Below v78.heap.size v78 v83 := by rw [e_v83]; exact below_alloc _ _
            have ge_gAA : wc.heap.size ≤ gAA := by rw [e_gAA]; exact hH.g.size
            have ne_gAA_gBB : gBB ≠ gAA := by have := n_gBB.lt; omega
            have n_gBB := n_gBB.below b_v83
            refine hK.out _ _ (hH.call b_v83) (fun hH => ?_)
            clear hK K e_v83 e_gAA e2_gAA b_v83
            refine wpAnyH_ready (rs := [5]) (by kernel_rfl) (by simp) ?_
            refine AllReadyH.cons rfl (fun K hK => ?_) AllReadyH.nil
            try simp only [List.getElem_toArray, List.getElem_cons_succ, List.getElem_cons_zero]
            go_simp
            go_at_call 28
            refine (specMul_any _ C C hC.out hC.out).mono ?_
            rintro e v84 ⟨rfl, hb_v84⟩
            rw [← HBB.out]
            refine hK.out _ _ (hH.call hb_v84) (fun hH => ?_)
            clear hK K
            try simp only [Act.put, List.getElem_toArray, List.getElem_cons_succ, List.getElem_cons_zero, List.setIfInBounds_toArray, List.set_cons_zero, List.set_cons_succ]
            have n_gBB := n_gBB.below hb_v84
            have n_gAA := n_gAA.below hb_v84
            refine wpAnyH_ready (rs := [8]) (by kernel_rfl) (by simp) ?_
            refine AllReadyH.cons rfl (fun K hK => ?_) AllReadyH.nil
            try simp only [List.getElem_toArray, List.getElem_cons_succ, List.getElem_cons_zero]
            refine wanted_step (by rfl) ?_
            refine step_storeN (.tmp 7) (.tmp 40) rfl gAA (dig 16 (AA)) zerosN (by simp) rfl rfl rfl n_gAA ?_
            intro v85 m_gAA g_v85
            refine hK.out _ _ (hH.other g_v85 ge_gAA (by omega)) (fun hH => ?_)
            clear hK K n_gAA
            have n_gBB := n_gBB.kept g_v85 (by omega)
            clear g_v85
            refine wpAnyH_ready (rs := [9]) (by kernel_rfl) (by simp) ?_
            refine AllReadyH.cons rfl (fun K hK => ?_) AllReadyH.nil
            try simp only [List.getElem_toArray, List.getElem_cons_succ, List.getElem_cons_zero]
            refine wanted_step (by rfl) ?_
            refine step_storeN (.tmp 8) (.tmp 43) rfl gBB (dig 16 (BB)) zerosN (by simp) rfl rfl rfl n_gBB ?_
            intro v86 m_gBB g_v86
            refine hK.out _ _ (hH.other g_v86 ge_gBB (by omega)) (fun hH => ?_)
            clear hK K n_gBB
            have m_gAA := m_gAA.kept g_v86 (by omega)
            clear g_v86
            refine wpAnyH_done (by kernel_rfl) ?_ _
            go_wp2_with fail
            go_meet
            exact ⟨gAA, gBB, rfl, rfl, m_gAA, m_gBB, m_gA.kept hH.g (by omega), m_gC.kept hH.g (by omega), (by omega), (by omega), hW.kept hH.g (by omega), hH.z, hH.below hb (by omega) hb.size, Nat.le_trans hsz hH.g.size⟩
          exact AllReadyH.nil
        exact AllReadyH.nil
      refine AllReadyH.cons rfl (fun K hK => ?_) ?_
      · try simp only [List.getElem_toArray, List.getElem_cons_succ, List.getElem_cons_zero]
        go_simp
        show K _ (wc.drew.alloc (objN zerosN))
        obtain ⟨v87, e_v87⟩ : ∃ x, x = wc.drew.alloc (objN zerosN) := ⟨_, rfl⟩
        obtain ⟨gAA, e_gAA⟩ : ∃ g, g = wc.drew.heap.size := ⟨_, rfl⟩
        have e2_gAA : wc.heap.size = gAA := e_gAA.symm
        rw [← e_v87]
        try rw [← e_gAA]
        try rw [e2_gAA]
        have n_gAA : NAt v87 gAA zerosN := by rw [e_v87, e_gAA]; exact arr_new _ _ _
        have b_v87 : Below wc.drew.heap.size wc.drew v87 := by rw [e_v87]; exact below_alloc _ _
        have ge_gAA : wc.heap.size ≤ gAA := by rw [e_gAA]; exact hH.g.size
        refine hK.out _ _ (hH.call b_v87) (fun hH => ?_)
        clear hK K e_v87 e_gAA e2_gAA b_v87
        refine wpAnyH_ready (rs := [2, 7]) (by kernel_rfl) (by simp) ?_
        refine AllReadyH.cons rfl (fun K hK => ?_) ?_
        · try simp only [List.getElem_toArray, List.getElem_cons_succ, List.getElem_cons_zero]
          go_simp
          go_at_call 28
          refine (specMul_any _ A A hA.out hA.out).mono ?_
          rintro e v88 ⟨rfl, hb_v88⟩
          rw [← HAA.out]
          refine hK.out _ _ (hH.call hb_v88) (fun hH => ?_)
          clear hK K
          try simp only [Act.put, List.getElem_toArray, List.getElem_cons_succ, List.getElem_cons_zero, List.setIfInBounds_toArray, List.set_cons_zero, List.set_cons_succ]
          have n_gAA := n_gAA.below hb_v88
          refine wpAnyH_ready (rs := [5, 7]) (by kernel_rfl) (by simp) ?_
          refine AllReadyH.cons rfl (fun K hK => ?_) ?_
          · try simp only [List.getElem_toArray, List.getElem_cons_succ, List.getElem_cons_zero]
            go_simp
            go_at_call 28
            refine (specMul_any _ C C hC.out hC.out).mono ?_
            rintro e v89 ⟨rfl, hb_v89⟩
            rw [← HBB.out]
            refine hK.out _ _ (hH.call hb_v89) (fun hH => ?_)
            clear hK K
            try simp only [Act.put, List.getElem_toArray, List.getElem_cons_succ, List.getElem_cons_zero, List.setIfInBounds_toArray, List.set_cons_zero, List.set_cons_succ]
            have n_gAA := n_gAA.below hb_v89
            refine wpAnyH_ready (rs := [7]) (by kernel_rfl) (by simp) ?_
            refine AllReadyH.cons rfl (fun K hK => ?_) AllReadyH.nil
            try simp only [List.getElem_toArray, List.getElem_cons_succ, List.getElem_cons_zero]
            go_simp
            show K _ (v89.alloc (objN zerosN))
            obtain ⟨v90, e_v90⟩ : ∃ x, x = v89.alloc (objN zerosN) := ⟨_, rfl⟩
            obtain ⟨gBB, e_gBB⟩ : ∃ g, g = v89.heap.size := ⟨_, rfl⟩
            have e2_gBB : v89.heap.size = gBB := e_gBB.symm
            rw [← e_v90]
            try rw [← e_gBB]
            try rw [e2_gBB]
            have n_gBB : NAt v90 gBB zerosN := by rw [e_v90, e_gBB]; exact arr_new _ _ _
            have b_v90 : Below v89.heap.size v89 v90 := by rw [e_v90]; exact below_alloc _ _
            have ge_gBB : wc.heap.size ≤ gBB := by rw [e_gBB]; exact hH.g.size
            have ne_gBB_gAA : gAA ≠ gBB := by have := n_gAA.lt; omega
            have n_gAA := n_gAA.below b_v90
            refine hK.out _ _ (hH.call b_v90) (fun hH => ?_)
            clear hK K e_v90 e_gBB e2_gBB b_v90
            refine wpAnyH_ready (rs := [8]) (by kernel_rfl) (by simp) ?_
            refine AllReadyH.cons rfl (fun K hK => ?_) AllReadyH.nil
            try simp only [List.getElem_toArray, List.getElem_cons_succ, List.getElem_cons_zero]
            refine wanted_step (by rfl) ?_
            refine step_storeN (.tmp 7) (.tmp 40) rfl gAA (dig 16 (AA)) zerosN (by simp) rfl rfl rfl n_gAA ?_
            intro v91 m_gAA g_v91
            refine hK.out _ _ (hH.other g_v91 ge_gAA (by omega)) (fun hH => ?_)
            clear hK K n_gAA
            have n_gBB := n_gBB.kept g_v91 (by omega)
            clear g_v91
            refine wpAnyH_ready (rs := [9]) (by kernel_rfl) (by simp) ?_
            refine AllReadyH.cons rfl (fun K hK => ?_) AllReadyH.nil
            try simp only [List.getElem_toArray, List.getElem_cons_succ, List.getElem_cons_zero]
            refine wanted_step (by rfl) ?_
            refine step_storeN (.tmp 8) (.tmp 43) rfl gBB (dig 16 (BB)) zerosN (by simp) rfl rfl rfl n_gBB ?_
            intro v92 m_gBB g_v92
            refine hK.out _ _ (hH.other g_v92 ge_gBB (by omega)) (fun hH => ?_)
            clear hK K n_gBB
            have m_gAA := m_gAA.kept g_v92 (by omega)
            clear g_v92
            refine wpAnyH_done (by kernel_rfl) ?_ _
            go_wp2_with fail
            go_meet
            exact ⟨gAA, gBB, rfl, rfl, m_gAA, m_gBB, m_gA.kept hH.g (by omega), m_gC.kept hH.g (by omega), (by omega), (by omega), hW.kept hH.g (by omega), hH.z, hH.below hb (by omega) hb.size, Nat.le_trans hsz hH.g.size⟩
          refine AllReadyH.cons rfl (fun K hK => ?_) ?_
          · try simp only [List.getElem_toArray, List.getElem_cons_succ, List.getElem_cons_zero]
            go_simp
            show K _ (v88.alloc (objN zerosN))
            obtain ⟨v93, e_v93⟩ : ∃ x, x = v88.alloc (objN zerosN) := ⟨_, rfl⟩
            obtain ⟨gBB, e_gBB⟩ : ∃ g, g = v88.heap.size := ⟨_, rfl⟩
            have e2_gBB : v88.heap.size = gBB := e_gBB.symm
            rw [← e_v93]
            try rw [← e_gBB]
            try rw [e2_gBB]
            have n_gBB : NAt v93 gBB zerosN := by rw [e_v93, e_gBB]; exact arr_new _ _ _
            have b_v93 : Below v88.heap.size v88 v93 := by rw [e_v93]; exact below_alloc _ _
            have ge_gBB : wc.heap.size ≤ gBB := by rw [e_gBB]; exact hH.g.size
            have ne_gBB_gAA : gAA ≠ gBB := by have := n_gAA.lt; omega
            have n_gAA := n_gAA.below b_v93
            refine hK.out _ _ (hH.call b_v93) (fun hH => ?_)
            clear hK K e_v93 e_gBB e2_gBB b_v93
            refine wpAnyH_ready (rs := [5]) (by kernel_rfl) (by simp) ?_
            refine AllReadyH.cons rfl (fun K hK => ?_) AllReadyH.nil
            try simp only [List.getElem_toArray, List.getElem_cons_succ, List.getElem_cons_zero]
            go_simp
            go_at_call 28
            refine (specMul_any _ C C hC.out hC.out).mono ?_
            rintro e v94 ⟨rfl, hb_v94⟩
            rw [← HBB.out]
            refine hK.out _ _ (hH.call hb_v94) (fun hH => ?_)
            clear hK K
            try simp only [Act.put, List.getElem_toArray, List.getElem_cons_succ, List.getElem_cons_zero, List.setIfInBounds_toArray, List.set_cons_zero, List.set_cons_succ]
            have n_gAA := n_gAA.below hb_v94
            have n_gBB := n_gBB.below hb_v94
            refine wpAnyH_ready (rs := [8]) (by kernel_rfl) (by simp) ?_
            refine AllReadyH.cons rfl (fun K hK => ?_) AllReadyH.nil
            try simp only [List.getElem_toArray, List.getElem_cons_succ, List.getElem_cons_zero]
            refine wanted_step (by rfl) ?_
            refine step_storeN (.tmp 7) (.tmp 40) rfl gAA (dig 16 (AA)) zerosN (by simp) rfl rfl rfl n_gAA ?_
            intro v95 m_gAA g_v95
            refine hK.out _ _ (hH.other g_v95 ge_gAA (by omega)) (fun hH => ?_)
            clear hK K n_gAA
            have n_gBB := n_gBB.kept g_v95 (by omega)
            clear g_v95
            refine wpAnyH_ready (rs := [9]) (by kernel_rfl) (by simp) ?_
            refine AllReadyH.cons rfl (fun K hK => ?_) AllReadyH.nil
            try simp only [List.getElem_toArray, List.getElem_cons_succ, List.getElem_cons_zero]
            refine wanted_step (by rfl) ?_
            refine step_storeN (.tmp 8) (.tmp 43) rfl gBB (dig 16 (BB)) zerosN (by simp) rfl rfl rfl n_gBB ?_
            intro v96 m_gBB g_v96
            refine hK.out _ _ (hH.other g_v96 ge_gBB (by omega)) (fun hH => ?_)
            clear hK K n_gBB
            have m_gAA := m_gAA.kept g_v96 (by omega)
            clear g_v96
            refine wpAnyH_done (by kernel_rfl) ?_ _
            go_wp2_with fail
            go_meet
            exact ⟨gAA, gBB, rfl, rfl, m_gAA, m_gBB, m_gA.kept hH.g (by omega), m_gC.kept hH.g (by omega), (by omega), (by omega), hW.kept hH.g (by omega), hH.z, hH.below hb (by omega) hb.size, Nat.le_trans hsz hH.g.size⟩
          exact AllReadyH.nil
        refine AllReadyH.cons rfl (fun K hK => ?_) ?_
        · try simp only [List.getElem_toArray, List.getElem_cons_succ, List.getElem_cons_zero]
          go_simp
          show K _ (v87.alloc (objN zerosN))
          obtain ⟨v97, e_v97⟩ : ∃ x, x = v87.alloc (objN zerosN) := ⟨_, rfl⟩
          obtain ⟨gBB, e_gBB⟩ : ∃ g, g = v87.heap.size := ⟨_, rfl⟩
          have e2_gBB : v87.heap.size = gBB := e_gBB.symm
          rw [← e_v97]
          try rw [← e_gBB]
          try rw [e2_gBB]
          have n_gBB : NAt v97 gBB zerosN := by rw [e_v97, e_gBB]; exact arr_new _ _ _
          have b_v97 : Below v87.heap.size v87 v97 := by rw [e_v97]; exact below_alloc _ _
          have ge_gBB : wc.heap.size ≤ gBB := by rw [e_gBB]; exact hH.g.size
          have ne_gBB_gAA : gAA ≠ gBB := by have := n_gAA.lt; omega
          have n_gAA := n_gAA.below b_v97
          refine hK.out _ _ (hH.call b_v97) (fun hH => ?_)
          clear hK K e_v97 e_gBB e2_gBB b_v97
          refine wpAnyH_ready (rs := [2]) (by kernel_rfl) (by simp) ?_
          refine AllReadyH.cons rfl (fun K hK => ?_) AllReadyH.nil
          try simp only [List.getElem_toArray, List.getElem_cons_succ, List.getElem_cons_zero]
          go_simp
          go_at_call 28
          refine (specMul_any _ A A hA.out hA.out).mono ?_
          rintro e v98 ⟨rfl, hb_v98⟩
          rw [← HAA.out]
          refine hK.out _ _ (hH.call hb_v98) (fun hH => ?_)
          clear hK K
          try simp only [Act.put, List.getElem_toArray, List.getElem_cons_succ, List.getElem_cons_zero, List.setIfInBounds_toArray, List.set_cons_zero, List.set_cons_succ]
          have n_gAA := n_gAA.below hb_v98
          have n_gBB := n_gBB.below hb_v98
          refine wpAnyH_ready (rs := [5]) (by kernel_rfl) (by simp) ?_
          refine AllReadyH.cons rfl (fun K hK => ?_) AllReadyH.nil
          try simp only [List.getElem_toArray, List.getElem_cons_succ, List.getElem_cons_zero]
          go_simp
          go_at_call 28
          refine (specMul_any _ C C hC.out hC.out).mono ?_
          rintro e v99 ⟨rfl, hb_v99⟩
          rw [← HBB.out]
          refine hK.out _ _ (hH.call hb_v99) (fun hH => ?_)
          clear hK K
          try simp only [Act.put, List.getElem_toArray, List.getElem_cons_succ, List.getElem_cons_zero, List.setIfInBounds_toArray, List.set_cons_zero, List.set_cons_succ]
          have n_gAA := n_gAA.below hb_v99
          have n_gBB := n_gBB.below hb_v99
          refine wpAnyH_ready (rs := [8]) (by kernel_rfl) (by simp) ?_
          refine AllReadyH.cons rfl (fun K hK => ?_) AllReadyH.nil
          try simp only [List.getElem_toArray, List.getElem_cons_succ, List.getElem_cons_zero]
          refine wanted_step (by rfl) ?_
          refine step_storeN (.tmp 7) (.tmp 40) rfl gAA (dig 16 (AA)) zerosN (by simp) rfl rfl rfl n_gAA ?_
          intro v100 m_gAA g_v100
          refine hK.out _ _ (hH.other g_v100 ge_gAA (by omega)) (fun hH => ?_)
          clear hK K n_gAA
          have n_gBB := n_gBB.kept g_v100 (by omega)
          clear g_v100
          refine wpAnyH_ready (rs := [9]) (by kernel_rfl) (by simp) ?_
          refine AllReadyH.cons rfl (fun K hK => ?_) AllReadyH.nil
          try simp only [List.getElem_toArray, List.getElem_cons_succ, List.getElem_cons_zero]
          refine wanted_step (by rfl) ?_
          refine step_storeN (.tmp 8) (.tmp 43) rfl gBB (dig 16 (BB)) zerosN (by simp) rfl rfl rfl n_gBB ?_
          intro v101 m_gBB g_v101
          refine hK.out _ _ (hH.other g_v101 ge_gBB (by omega)) (fun hH => ?_)
          clear hK K n_gBB
          have m_gAA := m_gAA.kept g_v101 (by omega)
          clear g_v101
          refine wpAnyH_done (by kernel_rfl) ?_ _
          go_wp2_with fail
          go_meet
          exact ⟨gAA, gBB, rfl, rfl, m_gAA, m_gBB, m_gA.kept hH.g (by omega), m_gC.kept hH.g (by omega), (by omega), (by omega), hW.kept hH.g (by omega), hH.z, hH.below hb (by omega) hb.size, Nat.le_trans hsz hH.g.size⟩
        exact AllReadyH.nil
      refine AllReadyH.cons rfl (fun K hK => ?_) ?_
      · try simp only [List.getElem_toArray, List.getElem_cons_succ, List.getElem_cons_zero]
        go_simp
        show K _ (wc.drew.alloc (objN zerosN))
        obtain ⟨v102, e_v102⟩ : ∃ x, x = wc.drew.alloc (objN zerosN) := ⟨_, rfl⟩
        obtain ⟨gBB, e_gBB⟩ : ∃ g, g = wc.drew.heap.size := ⟨_, rfl⟩
        have e2_gBB : wc.heap.size = gBB := e_gBB.symm
        rw [← e_v102]
        try rw [← e_gBB]
        try rw [e2_gBB]
        have n_gBB : NAt v102 gBB zerosN := by rw [e_v102, e_gBB]; exact arr_new _ _ _
        have b_v102 : Below wc.drew.heap.size wc.drew v102 := by rw [e_v102]; exact below_alloc _ _
        have ge_gBB : wc.heap.size ≤ gBB := by rw [e_gBB]; exact hH.g.size
        refine hK.out _ _ (hH.call b_v102) (fun hH => ?_)
        clear hK K e_v102 e_gBB e2_gBB b_v102
        refine wpAnyH_ready (rs := [2, 6]) (by kernel_rfl) (by simp) ?_
        refine AllReadyH.cons rfl (fun K hK => ?_) ?_
        · try simp only [List.getElem_toArray, List.getElem_cons_succ, List.getElem_cons_zero]
          go_simp
          go_at_call 28
          refine (specMul_any _ A A hA.out hA.out).mono ?_
          rintro e v103 ⟨rfl, hb_v103⟩
          rw [← HAA.out]
          refine hK.out _ _ (hH.call hb_v103) (fun hH => ?_)
          clear hK K
          try simp only [Act.put, List.getElem_toArray, List.getElem_cons_succ, List.getElem_cons_zero, List.setIfInBounds_toArray, List.set_cons_zero, List.set_cons_succ]
          have n_gBB := n_gBB.below hb_v103
          refine wpAnyH_ready (rs := [5, 6]) (by kernel_rfl) (by simp) ?_
          refine AllReadyH.cons rfl (fun K hK => ?_) ?_
          · try simp only [List.getElem_toArray, List.getElem_cons_succ, List.getElem_cons_zero]
            go_simp
            go_at_call 28
            refine (specMul_any _ C C hC.out hC.out).mono ?_
            rintro e v104 ⟨rfl, hb_v104⟩
            rw [← HBB.out]
            refine hK.out _ _ (hH.call hb_v104) (fun hH => ?_)
            clear hK K
            try simp only [Act.put, List.getElem_toArray, List.getElem_cons_succ, List.getElem_cons_zero, List.setIfInBounds_toArray, List.set_cons_zero, List.set_cons_succ]
            have n_gBB := n_gBB.below hb_v104
            refine wpAnyH_ready (rs := [6]) (by kernel_rfl) (by simp) ?_
            refine AllReadyH.cons rfl (fun K hK => ?_) AllReadyH.nil
            try simp only [List.getElem_toArray, List.getElem_cons_succ, List.getElem_cons_zero]
            go_simp
            show K _ (v104.alloc (objN zerosN))
            obtain ⟨v105, e_v105⟩ : ∃ x, x = v104.alloc (objN zerosN) := ⟨_, rfl⟩
            obtain ⟨gAA, e_gAA⟩ : ∃ g, g = v104.heap.size := ⟨_, rfl⟩
            have e2_gAA : v104.heap.size = gAA := e_gAA.symm
            rw [← e_v105]
            try rw [← e_gAA]
            try rw [e2_gAA]
            have n_gAA : NAt v105 gAA zerosN := by rw [e_v105, e_gAA]; exact arr_new _ _ _
            have b_v105 : Below v104.heap.size v104 v105 := by rw [e_v105]; exact below_alloc _ _
            have ge_gAA : wc.heap.size ≤ gAA := by rw [e_gAA]; exact hH.g.size
            have ne_gAA_gBB : gBB ≠ gAA := by have := n_gBB.lt; omega
            have n_gBB := n_gBB.below b_v105
            refine hK.out _ _ (hH.call b_v105) (fun hH => ?_)
            clear hK K e_v105 e_gAA e2_gAA b_v105
            refine wpAnyH_ready (rs := [8]) (by kernel_rfl) (by simp) ?_
            refine AllReadyH.cons rfl (fun K hK => ?_) AllReadyH.nil
            try simp only [List.getElem_toArray, List.getElem_cons_succ, List.getElem_cons_zero]
            refine wanted_step (by rfl) ?_
            refine step_storeN (.tmp 7) (.tmp 40) rfl gAA (dig 16 (AA)) zerosN (by simp) rfl rfl rfl n_gAA ?_
            intro v106 m_gAA g_v106
            refine hK.out _ _ (hH.other g_v106 ge_gAA (by omega)) (fun hH => ?_)
            clear hK K n_gAA
            have n_gBB := n_gBB.kept g_v106 (by omega)
            clear g_v106
            refine wpAnyH_ready (rs := [9]) (by kernel_rfl) (by simp) ?_
            refine AllReadyH.cons rfl (fun K hK => ?_) AllReadyH.nil
            try simp only [List.getElem_toArray, List.getElem_cons_succ, List.getElem_cons_zero]
            refine wanted_step (by rfl) ?_
            refine step_storeN (.tmp 8) (.tmp 43) rfl gBB (dig 16 (BB)) zerosN (by simp) rfl rfl rfl n_gBB ?_
            intro v107 m_gBB g_v107
            refine hK.out _ _ (hH.other g_v107 ge_gBB (by omega)) (fun hH => ?_)
            clear hK K n_gBB
            have m_gAA := m_gAA.kept g_v107 (by omega)
            clear g_v107
            refine wpAnyH_done (by kernel_rfl) ?_ _
            go_wp2_with fail
            go_meet
            exact ⟨gAA, gBB, rfl, rfl, m_gAA, m_gBB, m_gA.kept hH.g (by omega), m_gC.kept hH.g (by omega), (by omega), (by omega), hW.kept hH.g (by omega), hH.z, hH.below hb (by omega) hb.size, Nat.le_trans hsz hH.g.size⟩
          refine AllReadyH.cons rfl (fun K hK => ?_) ?_
          · try simp only [List.getElem_toArray, List.getElem_cons_succ, List.getElem_cons_zero]
            go_simp
            show K _ (v103.alloc (objN zerosN))
            obtain ⟨v108, e_v108⟩ : ∃ x, x = v103.alloc (objN zerosN) := ⟨_, rfl⟩
            obtain ⟨gAA, e_gAA⟩ : ∃ g, g = v103.heap.size := ⟨_, rfl⟩
            have e2_gAA : v103.heap.size = gAA := e_gAA.symm
            rw [← e_v108]
            try rw [← e_gAA]
            try rw [e2_gAA]
            have n_gAA : NAt v108 gAA zerosN := by rw [e_v108, e_gAA]; exact arr_new _ _ _
            have b_v108 : Below v103.heap.size v103 v108 := by rw [e_v108]; exact below_alloc _ _
            have ge_gAA : wc.heap.size ≤ gAA := by rw [e_gAA]; exact hH.g.size
            have ne_gAA_gBB : gBB ≠ gAA := by have := n_gBB.lt; omega
            have n_gBB := n_gBB.below b_v108
            refine hK.out _ _ (hH.call b_v108) (fun hH => ?_)
            clear hK K e_v108 e_gAA e2_gAA b_v108
            refine wpAnyH_ready (rs := [5]) (by kernel_rfl) (by simp) ?_
            refine AllReadyH.cons rfl (fun K hK => ?_) AllReadyH.nil
            try simp only [List.getElem_toArray, List.getElem_cons_succ, List.getElem_cons_zero]
            go_simp
            go_at_call 28
            refine (specMul_any _ C C hC.out hC.out).mono ?_
            rintro e v109 ⟨rfl, hb_v109⟩
            rw [← HBB.out]
            refine hK.out _ _ (hH.call hb_v109) (fun hH => ?_)
            clear hK K
            try simp only [Act.put, List.getElem_toArray, List.getElem_cons_succ, List.getElem_cons_zero, List.setIfInBounds_toArray, List.set_cons_zero, List.set_cons_succ]
            have n_gBB := n_gBB.below hb_v109
            have n_gAA := n_gAA.below hb_v109
            refine wpAnyH_ready (rs := [8]) (by kernel_rfl) (by simp) ?_
            refine AllReadyH.cons rfl (fun K hK => ?_) AllReadyH.nil
            try simp only [List.getElem_toArray, List.getElem_cons_succ, List.getElem_cons_zero]
            refine wanted_step (by rfl) ?_
            refine step_storeN (.tmp 7) (.tmp 40) rfl gAA (dig 16 (AA)) zerosN (by simp) rfl rfl rfl n_gAA ?_
            intro v110 m_gAA g_v110
            refine hK.out _ _ (hH.other g_v110 ge_gAA (by omega)) (fun hH => ?_)
            clear hK K n_gAA
            have n_gBB := n_gBB.kept g_v110 (by omega)
            clear g_v110
            refine wpAnyH_ready (rs := [9]) (by kernel_rfl) (by simp) ?_
            refine AllReadyH.cons rfl (fun K hK => ?_) AllReadyH.nil
            try simp only [List.getElem_toArray, List.getElem_cons_succ, List.getElem_cons_zero]
            refine wanted_step (by rfl) ?_
            refine step_storeN (.tmp 8) (.tmp 43) rfl gBB (dig 16 (BB)) zerosN (by simp) rfl rfl rfl n_gBB ?_
            intro v111 m_gBB g_v111
            refine hK.out _ _ (hH.other g_v111 ge_gBB (by omega)) (fun hH => ?_)
            clear hK K n_gBB
            have m_gAA := m_gAA.kept g_v111 (by omega)
            clear g_v111
            refine wpAnyH_done (by kernel_rfl) ?_ _
            go_wp2_with fail
            go_meet
            exact ⟨gAA, gBB, rfl, rfl, m_gAA, m_gBB, m_gA.kept hH.g (by omega), m_gC.kept hH.g (by omega), (by omega), (by omega), hW.kept hH.g (by omega), hH.z, hH.below hb (by omega) hb.size, Nat.le_trans hsz hH.g.size⟩
          exact AllReadyH.nil
        refine AllReadyH.cons rfl (fun K hK => ?_) ?_
        · try simp only [List.getElem_toArray, List.getElem_cons_succ, List.getElem_cons_zero]
          go_simp
          show K _ (v102.alloc (objN zerosN))
          obtain ⟨v112, e_v112⟩ : ∃ x, x = v102.alloc (objN zerosN) := ⟨_, rfl⟩
          obtain ⟨gAA, e_gAA⟩ : ∃ g, g = v102.heap.size := ⟨_, rfl⟩
          have e2_gAA : v102.heap.size = gAA := e_gAA.symm
          rw [← e_v112]
          try rw [← e_gAA]
          try rw [e2_gAA]
          have n_gAA : NAt v112 gAA zerosN := by rw [e_v112, e_gAA]; exact arr_new _ _ _
          have b_v112 : Below v102.heap.size v102 v112 := by rw [e_v112]; exact below_alloc _ _
          have ge_gAA : wc.heap.size ≤ gAA := by rw [e_gAA]; exact hH.g.size
          have ne_gAA_gBB : gBB ≠ gAA := by have := n_gBB.lt; omega
          have n_gBB := n_gBB.below b_v112
          refine hK.out _ _ (hH.call b_v112) (fun hH => ?_)
          clear hK K e_v112 e_gAA e2_gAA b_v112
          refine wpAnyH_ready (rs := [2]) (by kernel_rfl) (by simp) ?_
          refine AllReadyH.cons rfl (fun K hK => ?_) AllReadyH.nil
          try simp only [List.getElem_toArray, List.getElem_cons_succ, List.getElem_cons_zero]
          go_simp
          go_at_call 28
          refine (specMul_any _ A A hA.out hA.out).mono ?_
          rintro e v113 ⟨rfl, hb_v113⟩
          rw [← HAA.out]
          refine hK.out _ _ (hH.call hb_v113) (fun hH => ?_)
          clear hK K
          try simp only [Act.put, List.getElem_toArray, List.getElem_cons_succ, List.getElem_cons_zero, List.setIfInBounds_toArray, List.set_cons_zero, List.set_cons_succ]
          have n_gBB := n_gBB.below hb_v113
          have n_gAA := n_gAA.below hb_v113
          refine wpAnyH_ready (rs := [5]) (by kernel_rfl) (by simp) ?_
          refine AllReadyH.cons rfl (fun K hK => ?_) AllReadyH.nil
          try simp only [List.getElem_toArray, List.getElem_cons_succ, List.getElem_cons_zero]
          go_simp
          go_at_call 28
          refine (specMul_any _ C C hC.out hC.out).mono ?_
          rintro e v114 ⟨rfl, hb_v114⟩
          rw [← HBB.out]
          refine hK.out _ _ (hH.call hb_v114) (fun hH => ?_)
          clear hK K
          try simp only [Act.put, List.getElem_toArray, List.getElem_cons_succ, List.getElem_cons_zero, List.setIfInBounds_toArray, List.set_cons_zero, List.set_cons_succ]
          have n_gBB := n_gBB.below hb_v114
          have n_gAA := n_gAA.below hb_v114
          refine wpAnyH_ready (rs := [8]) (by kernel_rfl) (by simp) ?_
          refine AllReadyH.cons rfl (fun K hK => ?_) AllReadyH.nil
          try simp only [List.getElem_toArray, List.getElem_cons_succ, List.getElem_cons_zero]
          refine wanted_step (by rfl) ?_
          refine step_storeN (.tmp 7) (.tmp 40) rfl gAA (dig 16 (AA)) zerosN (by simp) rfl rfl rfl n_gAA ?_
          intro v115 m_gAA g_v115
          refine hK.out _ _ (hH.other g_v115 ge_gAA (by omega)) (fun hH => ?_)
          clear hK K n_gAA
          have n_gBB := n_gBB.kept g_v115 (by omega)
          clear g_v115
          refine wpAnyH_ready (rs := [9]) (by kernel_rfl) (by simp) ?_
          refine AllReadyH.cons rfl (fun K hK => ?_) AllReadyH.nil
          try simp only [List.getElem_toArray, List.getElem_cons_succ, List.getElem_cons_zero]
          refine wanted_step (by rfl) ?_
          refine step_storeN (.tmp 8) (.tmp 43) rfl gBB (dig 16 (BB)) zerosN (by simp) rfl rfl rfl n_gBB ?_
          intro v116 m_gBB g_v116
          refine hK.out _ _ (hH.other g_v116 ge_gBB (by omega)) (fun hH => ?_)
          clear hK K n_gBB
          have m_gAA := m_gAA.kept g_v116 (by omega)
          clear g_v116
          refine wpAnyH_done (by kernel_rfl) ?_ _
          go_wp2_with fail
          go_meet
          exact ⟨gAA, gBB, rfl, rfl, m_gAA, m_gBB, m_gA.kept hH.g (by omega), m_gC.kept hH.g (by omega), (by omega), (by omega), hW.kept hH.g (by omega), hH.z, hH.below hb (by omega) hb.size, Nat.le_trans hsz hH.g.size⟩
        exact AllReadyH.nil
      exact AllReadyH.nil
    clear hW hR hzr hb hsz m_gA m_gC
    obtain ⟨gAA, gBB, rfl, rfl, m_gAA, m_gBB, m_gA, m_gC, q_gAA, q_gBB, hW, ⟨zr, hzr, hR⟩, hb, hsz⟩ := hcut
    go_wp2_with (first | (refine wpList_loadN rfl (.tmp 7) rfl gAA (dig 16 AA) (by simp) rfl m_gAA ?_) | (refine wpList_loadN rfl (.tmp 8) rfl gBB (dig 16 BB) (by simp) rfl m_gBB ?_))
    refine (specSub_any _ AA BB hAA.out hBB.out).mono ?_
    rintro e x1 ⟨rfl, hbx⟩
    rw [← HE.out]
    have hW := hW.below hbx
    have hR := hR.below hbx
    have hb := hb.trans (hbx.mono hb.size)
    have hsz := Nat.le_trans hsz hbx.size
    have hsz1 := hsz
    have m_gAA := m_gAA.below hbx
    have m_gBB := m_gBB.below hbx
    have m_gA := m_gA.below hbx
    have m_gC := m_gC.below hbx
    obtain ⟨gE, e_gE⟩ : ∃ g, g = x1.heap.size := ⟨_, rfl⟩
    have nE : NAt (x1.alloc (objN zerosN)) gE zerosN := by rw [e_gE]; exact arr_new _ _ _
    have hbx2 := below_alloc x1 (objN zerosN)
    have hW := hW.below hbx2
    have hR := hR.below hbx2
    have hb := hb.trans (hbx2.mono hb.size)
    have hsz := Nat.le_trans hsz hbx2.size
    have q_gE : w.heap.size + 2 ≤ gE := by rw [e_gE]; exact hsz1
    have ne_gAA : gAA ≠ gE := by have := m_gAA.lt; omega
    have m_gAA := m_gAA.below hbx2
    have ne_gBB : gBB ≠ gE := by have := m_gBB.lt; omega
    have m_gBB := m_gBB.below hbx2
    have ne_gA : gA ≠ gE := by have := m_gA.lt; omega
    have m_gA := m_gA.below hbx2
    have ne_gC : gC ≠ gE := by have := m_gC.lt; omega
    have m_gC := m_gC.below hbx2
    clear hbx hbx2
    go_wp2_with (refine wpList_storeN rfl (.tmp 9) (.tmp 46) (by rfl) gE (dig 16 E) zerosN (by simp) rfl (by rw [e_gE]; rfl) rfl nE ?_; intro x2 m_gE gx2)
    have gx2 : (x1.alloc (objN zerosN)).grownBy x2 (some gE) := gx2
    have hW := hW.kept gx2 (by omega)
    have hR := hR.kept gx2 (by omega)
    have hb := bkept hb gx2 (by omega) hb.size
    have hsz := Nat.le_trans hsz gx2.size
    have m_gAA := m_gAA.kept gx2 ne_gAA
    have m_gBB := m_gBB.kept gx2 ne_gBB
    have m_gA := m_gA.kept gx2 ne_gA
    have m_gC := m_gC.kept gx2 ne_gC
    try rw [← e_gE]
    clear gx2 e_gE nE
    go_wp2_with fail
    go_frame
    go_cut [10] (fun s10 wx => ∃ gDA : Nat, s10 = .pointer (some ⟨gDA, 0, none⟩) ∧ NAt wx gDA (dig 16 DA) ∧ NAt wx gE (dig 16 E) ∧ NAt wx gAA (dig 16 AA) ∧ NAt wx gBB (dig 16 BB) ∧ NAt wx gA (dig 16 A) ∧ NAt wx gC (dig 16 C) ∧ w.heap.size + 2 ≤ gDA ∧ WAt wx w.heap.size u ⟨p1, p2, p3, p4⟩ ∧ (∃ z, z.length = 80 ∧ Arr wx (w.heap.size + 1) 59 z) ∧ Below w.heap.size w wx ∧ w.heap.size + 2 ≤ wx.heap.size)
    case first =>
      refine wp_region_held_drew (S := fun w' => GH x2 w' (w.heap.size + 1) 80 59) (by kernel_rfl) (GH.start hR hzr) (fun hH => ?_)
      refine wpAnyH_take (i := 0) (v := ?_) rfl (by kernel_rfl) (by kernel_rfl) (by kernel_rfl) (fun _ _ _ h => h) (Or.inl ⟨by rfl, fun w' hSw => by go_simp; with_reducible rfl⟩) hH ?_
      simp only [Act.put, List.getElem_toArray, List.getElem_cons_succ, List.getElem_cons_zero, List.setIfInBounds_toArray, List.set_cons_zero, List.set_cons_succ]
      refine wpAnyH_take (i := 1) (v := _) rfl (by kernel_rfl) (by kernel_rfl) (by kernel_rfl) (fun _ _ _ h => h) (yieldsIf_load_mid (by rfl) _ _ rfl _ _ rfl _ _ (fun w' h => WAt.r3 (Arr.kept hW (GH.g h) (by omega))) n_und rfl (n_len p3)) hH ?_
      simp only [Act.put, List.getElem_toArray, List.getElem_cons_succ, List.getElem_cons_zero, List.setIfInBounds_toArray, List.set_cons_zero, List.set_cons_succ]
      refine wpAnyH_take (i := 2) (v := ?_) rfl (by kernel_rfl) (by kernel_rfl) (by kernel_rfl) (fun _ _ _ h => h) (Or.inl ⟨by rfl, fun w' hSw => by go_simp; with_reducible rfl⟩) hH ?_
      simp only [Act.put, List.getElem_toArray, List.getElem_cons_succ, List.getElem_cons_zero, List.setIfInBounds_toArray, List.set_cons_zero, List.set_cons_succ]
      refine wpAnyH_take (i := 3) (v := _) rfl (by kernel_rfl) (by kernel_rfl) (by kernel_rfl) (fun _ _ _ h => h) (yieldsIf_load_mid (by rfl) _ _ rfl _ _ rfl _ _ (fun w' h => WAt.r4 (Arr.kept hW (GH.g h) (by omega))) n_und rfl (n_len p4)) hH ?_
      simp only [Act.put, List.getElem_toArray, List.getElem_cons_succ, List.getElem_cons_zero, List.setIfInBounds_toArray, List.set_cons_zero, List.set_cons_succ]
      refine wpAnyH_take (i := 5) (v := _) rfl (by kernel_rfl) (by kernel_rfl) (by kernel_rfl) (fun _ _ _ h => h) (yieldsIf_load_mid (by rfl) _ _ rfl _ _ rfl _ _ (fun w' h => Arr.range (Arr.kept m_gA (GH.g h) (by omega))) n_und rfl (n_len A)) hH ?_
      simp only [Act.put, List.getElem_toArray, List.getElem_cons_succ, List.getElem_cons_zero, List.setIfInBounds_toArray, List.set_cons_zero, List.set_cons_succ]
      refine wpAnyH_ready (rs := [4, 7]) (by kernel_rfl) (by simp) ?_
      refine AllReadyH.cons rfl (fun K hK => ?_) ?_
      · try simp only [List.getElem_toArray, List.getElem_cons_succ, List.getElem_cons_zero]
        go_simp
        go_at_call 44
        refine (specSub_any _ p3 p4 hp3.out hp4.out).mono ?_
        rintro e v117 ⟨rfl, hb_v117⟩
        rw [← HD1.out]
        refine hK.out _ _ (hH.call hb_v117) (fun hH => ?_)
        clear hK K
        try simp only [Act.put, List.getElem_toArray, List.getElem_cons_succ, List.getElem_cons_zero, List.setIfInBounds_toArray, List.set_cons_zero, List.set_cons_succ]
        refine wpAnyH_ready (rs := [6, 7]) (by kernel_rfl) (by simp) ?_
        refine AllReadyH.cons rfl (fun K hK => ?_) ?_
        · try simp only [List.getElem_toArray, List.getElem_cons_succ, List.getElem_cons_zero]
          go_simp
          go_at_call 28
          refine (specMul_any _ D1 A hD1.out hA.out).mono ?_
          rintro e v118 ⟨rfl, hb_v118⟩
          rw [← HDA.out]
          refine hK.out _ _ (hH.call hb_v118) (fun hH => ?_)
          clear hK K
          try simp only [Act.put, List.getElem_toArray, List.getElem_cons_succ, List.getElem_cons_zero, List.setIfInBounds_toArray, List.set_cons_zero, List.set_cons_succ]
          refine wpAnyH_ready (rs := [7]) (by kernel_rfl) (by simp) ?_
          refine AllReadyH.cons rfl (fun K hK => ?_) AllReadyH.nil
          try simp only [List.getElem_toArray, List.getElem_cons_succ, List.getElem_cons_zero]
          go_simp
          show K _ (v118.alloc (objN zerosN))
          obtain ⟨v119, e_v119⟩ : ∃ x, x = v118.alloc (objN zerosN) := ⟨_, rfl⟩
          obtain ⟨gDA, e_gDA⟩ : ∃ g, g = v118.heap.size := ⟨_, rfl⟩
          have e2_gDA : v118.heap.size = gDA := e_gDA.symm
          rw [← e_v119]
          try rw [← e_gDA]
          try rw [e2_gDA]
          have n_gDA : NAt v119 gDA zerosN := by rw [e_v119, e_gDA]; exact arr_new _ _ _
          have b_v119 : Below v118.heap.size v118 v119 := by rw [e_v119]; exact below_alloc _ _
          have ge_gDA : x2.heap.size ≤ gDA := by rw [e_gDA]; exact hH.g.size
          refine hK.out _ _ (hH.call b_v119) (fun hH => ?_)
          clear hK K e_v119 e_gDA e2_gDA b_v119
          refine wpAnyH_ready (rs := [8]) (by kernel_rfl) (by simp) ?_
          refine AllReadyH.cons rfl (fun K hK => ?_) AllReadyH.nil
          try simp only [List.getElem_toArray, List.getElem_cons_succ, List.getElem_cons_zero]
          refine wanted_step (by rfl) ?_
          refine step_storeN (.tmp 10) (.tmp 53) rfl gDA (dig 16 (DA)) zerosN (by simp) rfl rfl rfl n_gDA ?_
          intro v120 m_gDA g_v120
          refine hK.out _ _ (hH.other g_v120 ge_gDA (by omega)) (fun hH => ?_)
          clear hK K n_gDA
          clear g_v120
          refine wpAnyH_done (by kernel_rfl) ?_ _
          go_wp2_with fail
          go_meet
          exact ⟨gDA, rfl, m_gDA, m_gE.kept hH.g (by omega), m_gAA.kept hH.g (by omega), m_gBB.kept hH.g (by omega), m_gA.kept hH.g (by omega), m_gC.kept hH.g (by omega), (by omega), hW.kept hH.g (by omega), hH.z, hH.below hb (by omega) hb.size, Nat.le_trans hsz hH.g.size⟩
        refine AllReadyH.cons rfl (fun K hK => ?_) ?_
        · try simp only [List.getElem_toArray, List.getElem_cons_succ, List.getElem_cons_zero]
          go_simp
          show K _ (v117.alloc (objN zerosN))
          obtain ⟨v121, e_v121⟩ : ∃ x, x = v117.alloc (objN zerosN) := ⟨_, rfl⟩
          obtain ⟨gDA, e_gDA⟩ : ∃ g, g = v117.heap.size := ⟨_, rfl⟩
          have e2_gDA : v117.heap.size = gDA := e_gDA.symm
          rw [← e_v121]
          try rw [← e_gDA]
          try rw [e2_gDA]
          have n_gDA : NAt v121 gDA zerosN := by rw [e_v121, e_gDA]; exact arr_new _ _ _
          have b_v121 : Below v117.heap.size v117 v121 := by rw [e_v121]; exact below_alloc _ _
          have ge_gDA : x2.heap.size ≤ gDA := by rw [e_gDA]; exact hH.g.size
          refine hK.out _ _ (hH.call b_v121) (fun hH => ?_)
          clear hK K e_v121 e_gDA e2_gDA b_v121
          refine wpAnyH_ready (rs := [6]) (by kernel_rfl) (by simp) ?_
          refine AllReadyH.cons rfl (fun K hK => ?_) AllReadyH.nil
          try simp only [List.getElem_toArray, List.getElem_cons_succ, List.getElem_cons_zero]
          go_simp
          go_at_call 28
          refine (specMul_any _ D1 A hD1.out hA.out).mono ?_
          rintro e v122 ⟨rfl, hb_v122⟩
          rw [← HDA.out]
          refine hK.out _ _ (hH.call hb_v122) (fun hH => ?_)
          clear hK K
          try simp only [Act.put, List.getElem_toArray, List.getElem_cons_succ, List.getElem_cons_zero, List.setIfInBounds_toArray, List.set_cons_zero, List.set_cons_succ]
          have n_gDA := n_gDA.below hb_v122
          refine wpAnyH_ready (rs := [8]) (by kernel_rfl) (by simp) ?_
          refine AllReadyH.cons rfl (fun K hK => ?_) AllReadyH.nil
          try simp only [List.getElem_toArray, List.getElem_cons_succ, List.getElem_cons_zero]
          refine wanted_step (by rfl) ?_
          refine step_storeN (.tmp 10) (.tmp 53) rfl gDA (dig 16 (DA)) zerosN (by simp) rfl rfl rfl n_gDA ?_
          intro v123 m_gDA g_v123
          refine hK.out _ _ (hH.other g_v123 ge_gDA (by omega)) (fun hH => ?_)
          clear hK K n_gDA
          clear g_v123
          refine wpAnyH_done (by kernel_rfl) ?_ _
          go_wp2_with fail
          go_meet
          exact ⟨gDA, rfl, m_gDA, m_gE.kept hH.g (by omega), m_gAA.kept hH.g (by omega), m_gBB.kept hH.g (by omega), m_gA.kept hH.g (by omega), m_gC.kept hH.g (by omega), (by omega), hW.kept hH.g (by omega), hH.z, hH.below hb (by omega) hb.size, Nat.le_trans hsz hH.g.size⟩
        exact AllReadyH.nil
      refine AllReadyH.cons rfl (fun K hK => ?_) ?_
      · try simp only [List.getElem_toArray, List.getElem_cons_succ, List.getElem_cons_zero]
        go_simp
        show K _ (x2.drew.alloc (objN zerosN))
        obtain ⟨v124, e_v124⟩ : ∃ x, x = x2.drew.alloc (objN zerosN) := ⟨_, rfl⟩
        obtain ⟨gDA, e_gDA⟩ : ∃ g, g = x2.drew.heap.size := ⟨_, rfl⟩
        have e2_gDA : x2.heap.size = gDA := e_gDA.symm
        rw [← e_v124]
        try rw [← e_gDA]
        try rw [e2_gDA]
        have n_gDA : NAt v124 gDA zerosN := by rw [e_v124, e_gDA]; exact arr_new _ _ _
        have b_v124 : Below x2.drew.heap.size x2.drew v124 := by rw [e_v124]; exact below_alloc _ _
        have ge_gDA : x2.heap.size ≤ gDA := by rw [e_gDA]; exact hH.g.size
        refine hK.out _ _ (hH.call b_v124) (fun hH => ?_)
        clear hK K e_v124 e_gDA e2_gDA b_v124
        refine wpAnyH_ready (rs := [4]) (by kernel_rfl) (by simp) ?_
        refine AllReadyH.cons rfl (fun K hK => ?_) AllReadyH.nil
        try simp only [List.getElem_toArray, List.getElem_cons_succ, List.getElem_cons_zero]
        go_simp
        go_at_call 44
        refine (specSub_any _ p3 p4 hp3.out hp4.out).mono ?_
        rintro e v125 ⟨rfl, hb_v125⟩
        rw [← HD1.out]
        refine hK.out _ _ (hH.call hb_v125) (fun hH => ?_)
        clear hK K
        try simp only [Act.put, List.getElem_toArray, List.getElem_cons_succ, List.getElem_cons_zero, List.setIfInBounds_toArray, List.set_cons_zero, List.set_cons_succ]
        have n_gDA := n_gDA.below hb_v125
        refine wpAnyH_ready (rs := [6]) (by kernel_rfl) (by simp) ?_
        refine AllReadyH.cons rfl (fun K hK => ?_) AllReadyH.nil
        try simp only [List.getElem_toArray, List.getElem_cons_succ, List.getElem_cons_zero]
        go_simp
        go_at_call 28
        refine (specMul_any _ D1 A hD1.out hA.out).mono ?_
        rintro e v126 ⟨rfl, hb_v126⟩
        rw [← HDA.out]
        refine hK.out _ _ (hH.call hb_v126) (fun hH => ?_)
        clear hK K
        try simp only [Act.put, List.getElem_toArray, List.getElem_cons_succ, List.getElem_cons_zero, List.setIfInBounds_toArray, List.set_cons_zero, List.set_cons_succ]
        have n_gDA := n_gDA.below hb_v126
        refine wpAnyH_ready (rs := [8]) (by kernel_rfl) (by simp) ?_
        refine AllReadyH.cons rfl (fun K hK => ?_) AllReadyH.nil
        try simp only [List.getElem_toArray, List.getElem_cons_succ, List.getElem_cons_zero]
        refine wanted_step (by rfl) ?_
        refine step_storeN (.tmp 10) (.tmp 53) rfl gDA (dig 16 (DA)) zerosN (by simp) rfl rfl rfl n_gDA ?_
        intro v127 m_gDA g_v127
        refine hK.out _ _ (hH.other g_v127 ge_gDA (by omega)) (fun hH => ?_)
        clear hK K n_gDA
        clear g_v127
        refine wpAnyH_done (by kernel_rfl) ?_ _
        go_wp2_with fail
        go_meet
        exact ⟨gDA, rfl, m_gDA, m_gE.kept hH.g (by omega), m_gAA.kept hH.g (by omega), m_gBB.kept hH.g (by omega), m_gA.kept hH.g (by omega), m_gC.kept hH.g (by omega), (by omega), hW.kept hH.g (by omega), hH.z, hH.below hb (by omega) hb.size, Nat.le_trans hsz hH.g.size⟩
      exact AllReadyH.nil
    clear hW hR hzr hb hsz m_gE m_gAA m_gBB m_gA m_gC
    obtain ⟨gDA, rfl, m_gDA, m_gE, m_gAA, m_gBB, m_gA, m_gC, q_gDA, hW, ⟨zr, hzr, hR⟩, hb, hsz⟩ := hcut
    go_wp2_with fail
    go_cut [11] (fun s11 wx => ∃ gCB : Nat, s11 = .pointer (some ⟨gCB, 0, none⟩) ∧ NAt wx gCB (dig 16 CB) ∧ NAt wx gDA (dig 16 DA) ∧ NAt wx gE (dig 16 E) ∧ NAt wx gAA (dig 16 AA) ∧ NAt wx gBB (dig 16 BB) ∧ NAt wx gA (dig 16 A) ∧ NAt wx gC (dig 16 C) ∧ w.heap.size + 2 ≤ gCB ∧ WAt wx w.heap.size u ⟨p1, p2, p3, p4⟩ ∧ (∃ z, z.length = 80 ∧ Arr wx (w.heap.size + 1) 59 z) ∧ Below w.heap.size w wx ∧ w.heap.size + 2 ≤ wx.heap.size)
    case first =>
      refine wp_region_held_drew (S := fun w' => GH wc w' (w.heap.size + 1) 80 59) (by kernel_rfl) (GH.start hR hzr) (fun hH => ?_)
      refine wpAnyH_take (i := 0) (v := ?_) rfl (by kernel_rfl) (by kernel_rfl) (by kernel_rfl) (fun _ _ _ h => h) (Or.inl ⟨by rfl, fun w' hSw => by go_simp; with_reducible rfl⟩) hH ?_
      simp only [Act.put, List.getElem_toArray, List.getElem_cons_succ, List.getElem_cons_zero, List.setIfInBounds_toArray, List.set_cons_zero, List.set_cons_succ]
      refine wpAnyH_take (i := 1) (v := _) rfl (by kernel_rfl) (by kernel_rfl) (by kernel_rfl) (fun _ _ _ h => h) (yieldsIf_load_mid (by rfl) _ _ rfl _ _ rfl _ _ (fun w' h => WAt.r3 (Arr.kept hW (GH.g h) (by omega))) n_und rfl (n_len p3)) hH ?_
      simp only [Act.put, List.getElem_toArray, List.getElem_cons_succ, List.getElem_cons_zero, List.setIfInBounds_toArray, List.set_cons_zero, List.set_cons_succ]
      refine wpAnyH_take (i := 2) (v := ?_) rfl (by kernel_rfl) (by kernel_rfl) (by kernel_rfl) (fun _ _ _ h => h) (Or.inl ⟨by rfl, fun w' hSw => by go_simp; with_reducible rfl⟩) hH ?_
      simp only [Act.put, List.getElem_toArray, List.getElem_cons_succ, List.getElem_cons_zero, List.setIfInBounds_toArray, List.set_cons_zero, List.set_cons_succ]
      refine wpAnyH_take (i := 3) (v := _) rfl (by kernel_rfl) (by kernel_rfl) (by kernel_rfl) (fun _ _ _ h => h) (yieldsIf_load_mid (by rfl) _ _ rfl _ _ rfl _ _ (fun w' h => WAt.r4 (Arr.kept hW (GH.g h) (by omega))) n_und rfl (n_len p4)) hH ?_
      simp only [Act.put, List.getElem_toArray, List.getElem_cons_succ, List.getElem_cons_zero, List.setIfInBounds_toArray, List.set_cons_zero, List.set_cons_succ]
      refine wpAnyH_take (i := 5) (v := _) rfl (by kernel_rfl) (by kernel_rfl) (by kernel_rfl) (fun _ _ _ h => h) (yieldsIf_load_mid (by rfl) _ _ rfl _ _ rfl _ _ (fun w' h => Arr.range (Arr.kept m_gC (GH.g h) (by omega))) n_und rfl (n_len C)) hH ?_
      simp only [Act.put, List.getElem_toArray, List.getElem_cons_succ, List.getElem_cons_zero, List.setIfInBounds_toArray, List.set_cons_zero, List.set_cons_succ]
      refine wpAnyH_ready (rs := [4, 7]) (by kernel_rfl) (by simp) ?_
      refine AllReadyH.cons rfl (fun K hK => ?_) ?_
      · try simp only [List.getElem_toArray, List.getElem_cons_succ, List.getElem_cons_zero]
        go_simp
        go_at_call 43
        refine (specAdd_any _ p3 p4 hp3.out hp4.out).mono ?_
        rintro e v128 ⟨rfl, hb_v128⟩
        rw [← HD2.out]
        refine hK.out _ _ (hH.call hb_v128) (fun hH => ?_)
        clear hK K
        try simp only [Act.put, List.getElem_toArray, List.getElem_cons_succ, List.getElem_cons_zero, List.setIfInBounds_toArray, List.set_cons_zero, List.set_cons_succ]
        refine wpAnyH_ready (rs := [6, 7]) (by kernel_rfl) (by simp) ?_
        refine AllReadyH.cons rfl (fun K hK => ?_) ?_
        · try simp only [List.getElem_toArray, List.getElem_cons_succ, List.getElem_cons_zero]
          go_simp
          go_at_call 28
          refine (specMul_any _ D2 C hD2.out hC.out).mono ?_
          rintro e v129 ⟨rfl, hb_v129⟩
          rw [← HCB.out]
          refine hK.out _ _ (hH.call hb_v129) (fun hH => ?_)
          clear hK K
          try simp only [Act.put, List.getElem_toArray, List.getElem_cons_succ, List.getElem_cons_zero, List.setIfInBounds_toArray, List.set_cons_zero, List.set_cons_succ]
          refine wpAnyH_ready (rs := [7]) (by kernel_rfl) (by simp) ?_
          refine AllReadyH.cons rfl (fun K hK => ?_) AllReadyH.nil
          try simp only [List.getElem_toArray, List.getElem_cons_succ, List.getElem_cons_zero]
          go_simp
          show K _ (v129.alloc (objN zerosN))
          obtain ⟨v130, e_v130⟩ : ∃ x, x = v129.alloc (objN zerosN) := ⟨_, rfl⟩
          obtain ⟨gCB, e_gCB⟩ : ∃ g, g = v129.heap.size := ⟨_, rfl⟩
          have e2_gCB : v129.heap.size = gCB := e_gCB.symm
          rw [← e_v130]
          try rw [← e_gCB]
          try rw [e2_gCB]
          have n_gCB : NAt v130 gCB zerosN := by rw [e_v130, e_gCB]; exact arr_new _ _ _
          have b_v130 : Below v129.heap.size v129 v130 := by rw [e_v130]; exact below_alloc _ _
          have ge_gCB : wc.heap.size ≤ gCB := by rw [e_gCB]; exact hH.g.size
          refine hK.out _ _ (hH.call b_v130) (fun hH => ?_)
          clear hK K e_v130 e_gCB e2_gCB b_v130
          refine wpAnyH_ready (rs := [8]) (by kernel_rfl) (by simp) ?_
          refine AllReadyH.cons rfl (fun K hK => ?_) AllReadyH.nil
          try simp only [List.getElem_toArray, List.getElem_cons_succ, List.getElem_cons_zero]
          refine wanted_step (by rfl) ?_
          refine step_storeN (.tmp 11) (.tmp 60) rfl gCB (dig 16 (CB)) zerosN (by simp) rfl rfl rfl n_gCB ?_
          intro v131 m_gCB g_v131
          refine hK.out _ _ (hH.other g_v131 ge_gCB (by omega)) (fun hH => ?_)
          clear hK K n_gCB
          clear g_v131
          refine wpAnyH_done (by kernel_rfl) ?_ _
          go_wp2_with fail
          go_meet
          exact ⟨gCB, rfl, m_gCB, m_gDA.kept hH.g (by omega), m_gE.kept hH.g (by omega), m_gAA.kept hH.g (by omega), m_gBB.kept hH.g (by omega), m_gA.kept hH.g (by omega), m_gC.kept hH.g (by omega), (by omega), hW.kept hH.g (by omega), hH.z, hH.below hb (by omega) hb.size, Nat.le_trans hsz hH.g.size⟩
        refine AllReadyH.cons rfl (fun K hK => ?_) ?_
        · try simp only [List.getElem_toArray, List.getElem_cons_succ, List.getElem_cons_zero]
          go_simp
          show K _ (v128.alloc (objN zerosN))
          obtain ⟨v132, e_v132⟩ : ∃ x, x = v128.alloc (objN zerosN) := ⟨_, rfl⟩
          obtain ⟨gCB, e_gCB⟩ : ∃ g, g = v128.heap.size := ⟨_, rfl⟩
          have e2_gCB : v128.heap.size = gCB := e_gCB.symm
          rw [← e_v132]
          try rw [← e_gCB]
          try rw [e2_gCB]
          have n_gCB : NAt v132 gCB zerosN := by rw [e_v132, e_gCB]; exact arr_new _ _ _
          have b_v132 : Below v128.heap.size v128 v132 := by rw [e_v132]; exact below_alloc _ _
          have ge_gCB : wc.heap.size ≤ gCB := by rw [e_gCB]; exact hH.g.size
          refine hK.out _ _ (hH.call b_v132) (fun hH => ?_)
          clear hK K e_v132 e_gCB e2_gCB b_v132
          refine wpAnyH_ready (rs := [6]) (by kernel_rfl) (by simp) ?_
          refine AllReadyH.cons rfl (fun K hK => ?_) AllReadyH.nil
          try simp only [List.getElem_toArray, List.getElem_cons_succ, List.getElem_cons_zero]
          go_simp
          go_at_call 28
          refine (specMul_any _ D2 C hD2.out hC.out).mono ?_
          rintro e v133 ⟨rfl, hb_v133⟩
          rw [← HCB.out]
          refine hK.out _ _ (hH.call hb_v133) (fun hH => ?_)
          clear hK K
          try simp only [Act.put, List.getElem_toArray, List.getElem_cons_succ, List.getElem_cons_zero, List.setIfInBounds_toArray, List.set_cons_zero, List.set_cons_succ]
          have n_gCB := n_gCB.below hb_v133
          refine wpAnyH_ready (rs := [8]) (by kernel_rfl) (by simp) ?_
          refine AllReadyH.cons rfl (fun K hK => ?_) AllReadyH.nil
          try simp only [List.getElem_toArray, List.getElem_cons_succ, List.getElem_cons_zero]
          refine wanted_step (by rfl) ?_
          refine step_storeN (.tmp 11) (.tmp 60) rfl gCB (dig 16 (CB)) zerosN (by simp) rfl rfl rfl n_gCB ?_
          intro v134 m_gCB g_v134
          refine hK.out _ _ (hH.other g_v134 ge_gCB (by omega)) (fun hH => ?_)
          clear hK K n_gCB
          clear g_v134
          refine wpAnyH_done (by kernel_rfl) ?_ _
          go_wp2_with fail
          go_meet
          exact ⟨gCB, rfl, m_gCB, m_gDA.kept hH.g (by omega), m_gE.kept hH.g (by omega), m_gAA.kept hH.g (by omega), m_gBB.kept hH.g (by omega), m_gA.kept hH.g (by omega), m_gC.kept hH.g (by omega), (by omega), hW.kept hH.g (by omega), hH.z, hH.below hb (by omega) hb.size, Nat.le_trans hsz hH.g.size⟩
        exact AllReadyH.nil
      refine AllReadyH.cons rfl (fun K hK => ?_) ?_
      · try simp only [List.getElem_toArray, List.getElem_cons_succ, List.getElem_cons_zero]
        go_simp
        show K _ (wc.drew.alloc (objN zerosN))
        obtain ⟨v135, e_v135⟩ : ∃ x, x = wc.drew.alloc (objN zerosN) := ⟨_, rfl⟩
        obtain ⟨gCB, e_gCB⟩ : ∃ g, g = wc.drew.heap.size := ⟨_, rfl⟩
        have e2_gCB : wc.heap.size = gCB := e_gCB.symm
        rw [← e_v135]
        try rw [← e_gCB]
        try rw [e2_gCB]
        have n_gCB : NAt v135 gCB zerosN := by rw [e_v135, e_gCB]; exact arr_new _ _ _
        have b_v135 : Below wc.drew.heap.size wc.drew v135 := by rw [e_v135]; exact below_alloc _ _
        have ge_gCB : wc.heap.size ≤ gCB := by rw [e_gCB]; exact hH.g.size
        refine hK.out _ _ (hH.call b_v135) (fun hH => ?_)
        clear hK K e_v135 e_gCB e2_gCB b_v135
        refine wpAnyH_ready (rs := [4]) (by kernel_rfl) (by simp) ?_
        refine AllReadyH.cons rfl (fun K hK => ?_) AllReadyH.nil
        try simp only [List.getElem_toArray, List.getElem_cons_succ, List.getElem_cons_zero]
        go_simp
        go_at_call 43
        refine (specAdd_any _ p3 p4 hp3.out hp4.out).mono ?_
        rintro e v136 ⟨rfl, hb_v136⟩
        rw [← HD2.out]
        refine hK.out _ _ (hH.call hb_v136) (fun hH => ?_)
        clear hK K
        try simp only [Act.put, List.getElem_toArray, List.getElem_cons_succ, List.getElem_cons_zero, List.setIfInBounds_toArray, List.set_cons_zero, List.set_cons_succ]
        have n_gCB := n_gCB.below hb_v136
        refine wpAnyH_ready (rs := [6]) (by kernel_rfl) (by simp) ?_
        refine AllReadyH.cons rfl (fun K hK => ?_) AllReadyH.nil
        try simp only [List.getElem_toArray, List.getElem_cons_succ, List.getElem_cons_zero]
        go_simp
        go_at_call 28
        refine (specMul_any _ D2 C hD2.out hC.out).mono ?_
        rintro e v137 ⟨rfl, hb_v137⟩
        rw [← HCB.out]
        refine hK.out _ _ (hH.call hb_v137) (fun hH => ?_)
        clear hK K
        try simp only [Act.put, List.getElem_toArray, List.getElem_cons_succ, List.getElem_cons_zero, List.setIfInBounds_toArray, List.set_cons_zero, List.set_cons_succ]
        have n_gCB := n_gCB.below hb_v137
        refine wpAnyH_ready (rs := [8]) (by kernel_rfl) (by simp) ?_
        refine AllReadyH.cons rfl (fun K hK => ?_) AllReadyH.nil
        try simp only [List.getElem_toArray, List.getElem_cons_succ, List.getElem_cons_zero]
        refine wanted_step (by rfl) ?_
        refine step_storeN (.tmp 11) (.tmp 60) rfl gCB (dig 16 (CB)) zerosN (by simp) rfl rfl rfl n_gCB ?_
        intro v138 m_gCB g_v138
        refine hK.out _ _ (hH.other g_v138 ge_gCB (by omega)) (fun hH => ?_)
        clear hK K n_gCB
        clear g_v138
        refine wpAnyH_done (by kernel_rfl) ?_ _
        go_wp2_with fail
        go_meet
        exact ⟨gCB, rfl, m_gCB, m_gDA.kept hH.g (by omega), m_gE.kept hH.g (by omega), m_gAA.kept hH.g (by omega), m_gBB.kept hH.g (by omega), m_gA.kept hH.g (by omega), m_gC.kept hH.g (by omega), (by omega), hW.kept hH.g (by omega), hH.z, hH.below hb (by omega) hb.size, Nat.le_trans hsz hH.g.size⟩
      exact AllReadyH.nil
    clear hW hR hzr hb hsz m_gDA m_gE m_gAA m_gBB m_gA m_gC
    obtain ⟨gCB, rfl, m_gCB, m_gDA, m_gE, m_gAA, m_gBB, m_gA, m_gC, q_gCB, hW, ⟨zr, hzr, hR⟩, hb, hsz⟩ := hcut
    go_wp2_with fail
    go_cut [12, 13] (fun s12 s13 wx => ∃ gX gY : Nat, s12 = .pointer (some ⟨gX, 0, none⟩) ∧ s13 = .pointer (some ⟨gY, 0, none⟩) ∧ NAt wx gX (dig 16 X) ∧ NAt wx gY (dig 16 Y) ∧ NAt wx gCB (dig 16 CB) ∧ NAt wx gDA (dig 16 DA) ∧ NAt wx gE (dig 16 E) ∧ NAt wx gAA (dig 16 AA) ∧ NAt wx gBB (dig 16 BB) ∧ NAt wx gA (dig 16 A) ∧ NAt wx gC (dig 16 C) ∧ w.heap.size + 2 ≤ gX ∧ w.heap.size + 2 ≤ gY ∧ WAt wx w.heap.size u ⟨p1, p2, p3, p4⟩ ∧ (∃ z, z.length = 80 ∧ Arr wx (w.heap.size + 1) 59 z) ∧ Below w.heap.size w wx ∧ w.heap.size + 2 ≤ wx.heap.size)
    case first =>
      refine wp_region_held_drew (S := fun w' => GH wc w' (w.heap.size + 1) 80 59) (by kernel_rfl) (GH.start hR hzr) (fun hH => ?_)
      refine wpAnyH_take (i := 0) (v := _) rfl (by kernel_rfl) (by kernel_rfl) (by kernel_rfl) (fun _ _ _ h => h) (yieldsIf_load_mid (by rfl) _ _ rfl _ _ rfl _ _ (fun w' h => Arr.range (Arr.kept m_gDA (GH.g h) (by omega))) n_und rfl (n_len DA)) hH ?_
      simp only [Act.put, List.getElem_toArray, List.getElem_cons_succ, List.getElem_cons_zero, List.setIfInBounds_toArray, List.set_cons_zero, List.set_cons_succ]
      refine wpAnyH_take (i := 1) (v := _) rfl (by kernel_rfl) (by kernel_rfl) (by kernel_rfl) (fun _ _ _ h => h) (yieldsIf_load_mid (by rfl) _ _ rfl _ _ rfl _ _ (fun w' h => Arr.range (Arr.kept m_gCB (GH.g h) (by omega))) n_und rfl (n_len CB)) hH ?_
      simp only [Act.put, List.getElem_toArray, List.getElem_cons_succ, List.getElem_cons_zero, List.setIfInBounds_toArray, List.set_cons_zero, List.set_cons_succ]
      refine wpAnyH_take (i := 3) (v := _) rfl (by kernel_rfl) (by kernel_rfl) (by kernel_rfl) (fun _ _ _ h => h) (yieldsIf_load_mid (by rfl) _ _ rfl _ _ rfl _ _ (fun w' h => Arr.range (Arr.kept m_gDA (GH.g h) (by omega))) n_und rfl (n_len DA)) hH ?_
      simp only [Act.put, List.getElem_toArray, List.getElem_cons_succ, List.getElem_cons_zero, List.setIfInBounds_toArray, List.set_cons_zero, List.set_cons_succ]
      refine wpAnyH_take (i := 4) (v := _) rfl (by kernel_rfl) (by kernel_rfl) (by kernel_rfl) (fun _ _ _ h => h) (yieldsIf_load_mid (by rfl) _ _ rfl _ _ rfl _ _ (fun w' h => Arr.range (Arr.kept m_gCB (GH.g h) (by omega))) n_und rfl (n_len CB)) hH ?_
      simp only [Act.put, List.getElem_toArray, List.getElem_cons_succ, List.getElem_cons_zero, List.setIfInBounds_toArray, List.set_cons_zero, List.set_cons_succ]
      refine wpAnyH_ready (rs := [2, 6, 7]) (by kernel_rfl) (by simp) ?_
      refine AllReadyH.cons rfl (fun K hK => ?_) ?_
      · try simp only [List.getElem_toArray, List.getElem_cons_succ, List.getElem_cons_zero]
        go_simp
        go_at_call 43
        refine (specAdd_any _ DA CB hDA.out hCB.out).mono ?_
        rintro e v139 ⟨rfl, hb_v139⟩
        rw [← HX.out]
        refine hK.out _ _ (hH.call hb_v139) (fun hH => ?_)
        clear hK K
        try simp only [Act.put, List.getElem_toArray, List.getElem_cons_succ, List.getElem_cons_zero, List.setIfInBounds_toArray, List.set_cons_zero, List.set_cons_succ]
        refine wpAnyH_ready (rs := [5, 6, 7]) (by kernel_rfl) (by simp) ?_
        refine AllReadyH.cons rfl (fun K hK => ?_) ?_
        · try simp only [List.getElem_toArray, List.getElem_cons_succ, List.getElem_cons_zero]
          go_simp
          go_at_call 44
          refine (specSub_any _ DA CB hDA.out hCB.out).mono ?_
          rintro e v140 ⟨rfl, hb_v140⟩
          rw [← HY.out]
          refine hK.out _ _ (hH.call hb_v140) (fun hH => ?_)
          clear hK K
          try simp only [Act.put, List.getElem_toArray, List.getElem_cons_succ, List.getElem_cons_zero, List.setIfInBounds_toArray, List.set_cons_zero, List.set_cons_succ]
          refine wpAnyH_ready (rs := [6, 7]) (by kernel_rfl) (by simp) ?_
          refine AllReadyH.cons rfl (fun K hK => ?_) ?_
          · try simp only [List.getElem_toArray, List.getElem_cons_succ, List.getElem_cons_zero]
            go_simp
            show K _ (v140.alloc (objN zerosN))
            obtain ⟨v141, e_v141⟩ : ∃ x, x = v140.alloc (objN zerosN) := ⟨_, rfl⟩
            obtain ⟨gX, e_gX⟩ : ∃ g, g = v140.heap.size := ⟨_, rfl⟩
            have e2_gX : v140.heap.size = gX := e_gX.symm
            rw [← e_v141]
            try rw [← e_gX]
            try rw [e2_gX]
            have n_gX : NAt v141 gX zerosN := by rw [e_v141, e_gX]; exact arr_new _ _ _
            have b_v141 : Below v140.heap.size v140 v141 := by rw [e_v141]; exact below_alloc _ _
            have ge_gX : wc.heap.size ≤ gX := by rw [e_gX]; exact hH.g.size
            refine hK.out _ _ (hH.call b_v141) (fun hH => ?_)
            clear hK K e_v141 e_gX e2_gX b_v141
            refine wpAnyH_ready (rs := [7]) (by kernel_rfl) (by simp) ?_
            refine AllReadyH.cons rfl (fun K hK => ?_) AllReadyH.nil
            try simp only [List.getElem_toArray, List.getElem_cons_succ, List.getElem_cons_zero]
            go_simp
            show K _ (v141.alloc (objN zerosN))
            obtain ⟨v142, e_v142⟩ : ∃ x, x = v141.alloc (objN zerosN) := ⟨_, rfl⟩
            obtain ⟨gY, e_gY⟩ : ∃ g, g = v141.heap.size := ⟨_, rfl⟩
            have e2_gY : v141.heap.size = gY := e_gY.symm
            rw [← e_v142]
            try rw [← e_gY]
            try rw [e2_gY]
            have n_gY : NAt v142 gY zerosN := by rw [e_v142, e_gY]; exact arr_new _ _ _
            have b_v142 : Below v141.heap.size v141 v142 := by rw [e_v142]; exact below_alloc _ _
            have ge_gY : wc.heap.size ≤ gY := by rw [e_gY]; exact hH.g.size
            have ne_gY_gX : gX ≠ gY := by have := n_gX.lt; omega
            have n_gX := n_gX.below b_v142
            refine hK.out _ _ (hH.call b_v142) (fun hH => ?_)
            clear hK K e_v142 e_gY e2_gY b_v142
            refine wpAnyH_ready (rs := [8]) (by kernel_rfl) (by simp) ?_
            refine AllReadyH.cons rfl (fun K hK => ?_) AllReadyH.nil
            try simp only [List.getElem_toArray, List.getElem_cons_succ, List.getElem_cons_zero]
            refine wanted_step (by rfl) ?_
            refine step_storeN (.tmp 12) (.tmp 63) rfl gX (dig 16 (X)) zerosN (by simp) rfl rfl rfl n_gX ?_
            intro v143 m_gX g_v143
            refine hK.out _ _ (hH.other g_v143 ge_gX (by omega)) (fun hH => ?_)
            clear hK K n_gX
            have n_gY := n_gY.kept g_v143 (by omega)
            clear g_v143
            refine wpAnyH_ready (rs := [9]) (by kernel_rfl) (by simp) ?_
            refine AllReadyH.cons rfl (fun K hK => ?_) AllReadyH.nil
            try simp only [List.getElem_toArray, List.getElem_cons_succ, List.getElem_cons_zero]
            refine wanted_step (by rfl) ?_
            refine step_storeN (.tmp 13) (.tmp 66) rfl gY (dig 16 (Y)) zerosN (by simp) rfl rfl rfl n_gY ?_
            intro v144 m_gY g_v144
            refine hK.out _ _ (hH.other g_v144 ge_gY (by omega)) (fun hH => ?_)
            clear hK K n_gY
            have m_gX := m_gX.kept g_v144 (by omega)
            clear g_v144
            refine wpAnyH_done (by kernel_rfl) ?_ _
            go_wp2_with fail
            go_meet
            exact ⟨gX, gY, rfl, rfl, m_gX, m_gY, m_gCB.kept hH.g (by omega), m_gDA.kept hH.g (by omega), m_gE.kept hH.g (by omega), m_gAA.kept hH.g (by omega), m_gBB.kept hH.g (by omega), m_gA.kept hH.g (by omega), m_gC.kept hH.g (by omega), (by omega), (by omega), hW.kept hH.g (by omega), hH.z, hH.below hb (by omega) hb.size, Nat.le_trans hsz hH.g.size⟩
          refine AllReadyH.cons rfl (fun K hK => ?_) ?_
          · try simp only [List.getElem_toArray, List.getElem_cons_succ, List.getElem_cons_zero]
            go_simp
            show K _ (v140.alloc (objN zerosN))
            obtain ⟨v145, e_v145⟩ : ∃ x, x = v140.alloc (objN zerosN) := ⟨_, rfl⟩
            obtain ⟨gY, e_gY⟩ : ∃ g, g = v140.heap.size := ⟨_, rfl⟩
            have e2_gY : v140.heap.size = gY := e_gY.symm
            rw [← e_v145]
            try rw [← e_gY]
            try rw [e2_gY]
            have n_gY : NAt v145 gY zerosN := by rw [e_v145, e_gY]; exact arr_new _ _ _
            have b_v145 : Below v140.heap.size v140 v145 := by rw [e_v145]; exact below_alloc _ _
            have ge_gY : wc.heap.size ≤ gY := by rw [e_gY]; exact hH.g.size
            refine hK.out _ _ (hH.call b_v145) (fun hH => ?_)
            clear hK K e_v145 e_gY e2_gY b_v145
            refine wpAnyH_ready (rs := [6]) (by kernel_rfl) (by simp) ?_
            refine AllReadyH.cons rfl (fun K hK => ?_) AllReadyH.nil
            try simp only [List.getElem_toArray, List.getElem_cons_succ, List.getElem_cons_zero]
            go_simp
            show K _ (v145.alloc (objN zerosN))
            obtain ⟨v146, e_v146⟩ : ∃ x, x = v145.alloc (objN zerosN) := ⟨_, rfl⟩
            obtain ⟨gX, e_gX⟩ : ∃ g, g = v145.heap.size := ⟨_, rfl⟩
            have e2_gX : v145.heap.size = gX := e_gX.symm
            rw [← e_v146]
            try rw [← e_gX]
            try rw [e2_gX]
            have n_gX : NAt v146 gX zerosN := by rw [e_v146, e_gX]; exact arr_new _ _ _
            have b_v146 : Below v145.heap.size v145 v146 := by rw [e_v146]; exact below_alloc _ _
            have ge_gX : wc.heap.size ≤ gX := by rw [e_gX]; exact hH.g.size
            have ne_gX_gY : gY ≠ gX := by have := n_gY.lt; omega
            have n_gY := n_gY.below b_v146
            refine hK.out _ _ (hH.call b_v146) (fun hH => ?_)
            clear hK K e_v146 e_gX e2_gX b_v146
            refine wpAnyH_ready (rs := [8]) (by kernel_rfl) (by simp) ?_
            refine AllReadyH.cons rfl (fun K hK => ?_) AllReadyH.nil
            try simp only [List.getElem_toArray, List.getElem_cons_succ, List.getElem_cons_zero]
            refine wanted_step (by rfl) ?_
            refine step_storeN (.tmp 12) (.tmp 63) rfl gX (dig 16 (X)) zerosN (by simp) rfl rfl rfl n_gX ?_
            intro v147 m_gX g_v147
            refine hK.out _ _ (hH.other g_v147 ge_gX (by omega)) (fun hH => ?_)
            clear hK K n_gX
            have n_gY := n_gY.kept g_v147 (by omega)
            clear g_v147
            refine wpAnyH_ready (rs := [9]) (by kernel_rfl) (by simp) ?_
            refine AllReadyH.cons rfl (fun K hK => ?_) AllReadyH.nil
            try simp only [List.getElem_toArray, List.getElem_cons_succ, List.getElem_cons_zero]
            refine wanted_step (by rfl) ?_
            refine step_storeN (.tmp 13) (.tmp 66) rfl gY (dig 16 (Y)) zerosN (by simp) rfl rfl rfl n_gY ?_
            intro v148 m_gY g_v148
            refine hK.out _ _ (hH.other g_v148 ge_gY (by omega)) (fun hH => ?_)
            clear hK K n_gY
            have m_gX := m_gX.kept g_v148 (by omega)
            clear g_v148
            refine wpAnyH_done (by kernel_rfl) ?_ _
            go_wp2_with fail
            go_meet
            exact ⟨gX, gY, rfl, rfl, m_gX, m_gY, m_gCB.kept hH.g (by omega), m_gDA.kept hH.g (by omega), m_gE.kept hH.g (by omega), m_gAA.kept hH.g (by omega), m_gBB.kept hH.g (by omega), m_gA.kept hH.g (by omega), m_gC.kept hH.g (by omega), (by omega), (by omega), hW.kept hH.g (by omega), hH.z, hH.below hb (by omega) hb.size, Nat.le_trans hsz hH.g.size⟩
          exact AllReadyH.nil
        refine AllReadyH.cons rfl (fun K hK => ?_) ?_
        · try simp only [List.getElem_toArray, List.getElem_cons_succ, List.getElem_cons_zero]
          go_simp
          show K _ (v139.alloc (objN zerosN))
          obtain ⟨v149, e_v149⟩ : ∃ x, x = v139.alloc (objN zerosN) := ⟨_, rfl⟩
          obtain ⟨gX, e_gX⟩ : ∃ g, g = v139.heap.size := ⟨_, rfl⟩
          have e2_gX : v139.heap.size = gX := e_gX.symm
          rw [← e_v149]
          try rw [← e_gX]
          try rw [e2_gX]
          have n_gX : NAt v149 gX zerosN := by rw [e_v149, e_gX]; exact arr_new _ _ _
          have b_v149 : Below v139.heap.size v139 v149 := by rw [e_v149]; exact below_alloc _ _
          have ge_gX : wc.heap.size ≤ gX := by rw [e_gX]; exact hH.g.size
          refine hK.out _ _ (hH.call b_v149) (fun hH => ?_)
          clear hK K e_v149 e_gX e2_gX b_v149
          refine wpAnyH_ready (rs := [5, 7]) (by kernel_rfl) (by simp) ?_
          refine AllReadyH.cons rfl (fun K hK => ?_) ?_
          · try simp only [List.getElem_toArray, List.getElem_cons_succ, List.getElem_cons_zero]
            go_simp
            go_at_call 44
            refine (specSub_any _ DA CB hDA.out hCB.out).mono ?_
            rintro e v150 ⟨rfl, hb_v150⟩
            rw [← HY.out]
            refine hK.out _ _ (hH.call hb_v150) (fun hH => ?_)
            clear hK K
            try simp only [Act.put, List.getElem_toArray, List.getElem_cons_succ, List.getElem_cons_zero, List.setIfInBounds_toArray, List.set_cons_zero, List.set_cons_succ]
            have n_gX := n_gX.below hb_v150
            refine wpAnyH_ready (rs := [7]) (by kernel_rfl) (by simp) ?_
            refine AllReadyH.cons rfl (fun K hK => ?_) AllReadyH.nil
            try simp only [List.getElem_toArray, List.getElem_cons_succ, List.getElem_cons_zero]
            go_simp
            show K _ (v150.alloc (objN zerosN))
            obtain ⟨v151, e_v151⟩ : ∃ x, x = v150.alloc (objN zerosN) := ⟨_, rfl⟩
            obtain ⟨gY, e_gY⟩ : ∃ g, g = v150.heap.size := ⟨_, rfl⟩
            have e2_gY : v150.heap.size = gY := e_gY.symm
            rw [← e_v151]
            try rw [← e_gY]
            try rw [e2_gY]
            have n_gY : NAt v151 gY zerosN := by rw [e_v151, e_gY]; exact arr_new _ _ _
            have b_v151 : Below v150.heap.size v150 v151 := by rw [e_v151]; exact below_alloc _ _
            have ge_gY : wc.heap.size ≤ gY := by rw [e_gY]; exact hH.g.size
            have ne_gY_gX : gX ≠ gY := by have := n_gX.lt; omega
            have n_gX := n_gX.below b_v151
            refine hK.out _ _ (hH.call b_v151) (fun hH => ?_)
            clear hK K e_v151 e_gY e2_gY b_v151
            refine wpAnyH_ready (rs := [8]) (by kernel_rfl) (by simp) ?_
            refine AllReadyH.cons rfl (fun K hK => ?_) AllReadyH.nil
            try simp only [List.getElem_toArray, List.getElem_cons_succ, List.getElem_cons_zero]
            refine wanted_step (by rfl) ?_
            refine step_storeN (.tmp 12) (.tmp 63) rfl gX (dig 16 (X)) zerosN (by simp) rfl rfl rfl n_gX ?_
            intro v152 m_gX g_v152
            refine hK.out _ _ (hH.other g_v152 ge_gX (by omega)) (fun hH => ?_)
            clear hK K n_gX
            have n_gY := n_gY.kept g_v152 (by omega)
            clear g_v152
            refine wpAnyH_ready (rs := [9]) (by kernel_rfl) (by simp) ?_
            refine AllReadyH.cons rfl (fun K hK => ?_) AllReadyH.nil
            try simp only [List.getElem_toArray, List.getElem_cons_succ, List.getElem_cons_zero]
            refine wanted_step (by rfl) ?_
            refine step_storeN (.tmp 13) (.tmp 66) rfl gY (dig 16 (Y)) zerosN (by simp) rfl rfl rfl n_gY ?_
            intro v153 m_gY g_v153
            refine hK.out _ _ (hH.other g_v153 ge_gY (by omega)) (fun hH => ?_)
            clear hK K n_gY
            have m_gX := m_gX.kept g_v153 (by omega)
            clear g_v153
            refine wpAnyH_done (by kernel_rfl) ?_ _
            go_wp2_with fail
            go_meet
            exact ⟨gX, gY, rfl, rfl, m_gX, m_gY, m_gCB.kept hH.g (by omega), m_gDA.kept hH.g (by omega), m_gE.kept hH.g (by omega), m_gAA.kept hH.g (by omega), m_gBB.kept hH.g (by omega), m_gA.kept hH.g (by omega), m_gC.kept hH.g (by omega), (by omega), (by omega), hW.kept hH.g (by omega), hH.z, hH.below hb (by omega) hb.size, Nat.le_trans hsz hH.g.size⟩
          refine AllReadyH.cons rfl (fun K hK => ?_) ?_
          · try simp only [List.getElem_toArray, List.getElem_cons_succ, List.getElem_cons_zero]
            go_simp
            show K _ (v149.alloc (objN zerosN))
            obtain ⟨v154, e_v154⟩ : ∃ x, x = v149.alloc (objN zerosN) := ⟨_, rfl⟩
            obtain ⟨gY, e_gY⟩ : ∃ g, g = v149.heap.size := ⟨_, rfl⟩
            have e2_gY : v149.heap.size = gY := e_gY.symm
            rw [← e_v154]
            try rw [← e_gY]
            try rw [e2_gY]
            have n_gY : NAt v154 gY zerosN := by rw [e_v154, e_gY]; exact arr_new _ _ _
            have b_v154 : Below v149.heap.size v149 v154 := by rw [e_v154]; exact below_alloc _ _
            have ge_gY : wc.heap.size ≤ gY := by rw [e_gY]; exact hH.g.size
            have ne_gY_gX : gX ≠ gY := by have := n_gX.lt; omega
            have n_gX := n_gX.below b_v154
            refine hK.out _ _ (hH.call b_v154) (fun hH => ?_)
            clear hK K e_v154 e_gY e2_gY b_v154
            refine wpAnyH_ready (rs := [5]) (by kernel_rfl) (by simp) ?_
            refine AllReadyH.cons rfl (fun K hK => ?_) AllReadyH.nil
            try simp only [List.getElem_toArray, List.getElem_cons_succ, List.getElem_cons_zero]
            go_simp
            go_at_call 44
            refine (specSub_any _ DA CB hDA.out hCB.out).mono ?_
            rintro e v155 ⟨rfl, hb_v155⟩
            rw [← HY.out]
            refine hK.out _ _ (hH.call hb_v155) (fun hH => ?_)
            clear hK K
            try simp only [Act.put, List.getElem_toArray, List.getElem_cons_succ, List.getElem_cons_zero, List.setIfInBounds_toArray, List.set_cons_zero, List.set_cons_succ]
            have n_gX := n_gX.below hb_v155
            have n_gY := n_gY.below hb_v155
            refine wpAnyH_ready (rs := [8]) (by kernel_rfl) (by simp) ?_
            refine AllReadyH.cons rfl (fun K hK => ?_) AllReadyH.nil
            try simp only [List.getElem_toArray, List.getElem_cons_succ, List.getElem_cons_zero]
            refine wanted_step (by rfl) ?_
            refine step_storeN (.tmp 12) (.tmp 63) rfl gX (dig 16 (X)) zerosN (by simp) rfl rfl rfl n_gX ?_
            intro v156 m_gX g_v156
            refine hK.out _ _ (hH.other g_v156 ge_gX (by omega)) (fun hH => ?_)
            clear hK K n_gX
            have n_gY := n_gY.kept g_v156 (by omega)
            clear g_v156
            refine wpAnyH_ready (rs := [9]) (by kernel_rfl) (by simp) ?_
            refine AllReadyH.cons rfl (fun K hK => ?_) AllReadyH.nil
            try simp only [List.getElem_toArray, List.getElem_cons_succ, List.getElem_cons_zero]
            refine wanted_step (by rfl) ?_
            refine step_storeN (.tmp 13) (.tmp 66) rfl gY (dig 16 (Y)) zerosN (by simp) rfl rfl rfl n_gY ?_
            intro v157 m_gY g_v157
            refine hK.out _ _ (hH.other g_v157 ge_gY (by omega)) (fun hH => ?_)
            clear hK K n_gY
            have m_gX := m_gX.kept g_v157 (by omega)
            clear g_v157
            refine wpAnyH_done (by kernel_rfl) ?_ _
            go_wp2_with fail
            go_meet
            exact ⟨gX, gY, rfl, rfl, m_gX, m_gY, m_gCB.kept hH.g (by omega), m_gDA.kept hH.g (by omega), m_gE.kept hH.g (by omega), m_gAA.kept hH.g (by omega), m_gBB.kept hH.g (by omega), m_gA.kept hH.g (by omega), m_gC.kept hH.g (by omega), (by omega), (by omega), hW.kept hH.g (by omega), hH.z, hH.below hb (by omega) hb.size, Nat.le_trans hsz hH.g.size⟩
          exact AllReadyH.nil
        refine AllReadyH.cons rfl (fun K hK => ?_) ?_
        · try simp only [List.getElem_toArray, List.getElem_cons_succ, List.getElem_cons_zero]
          go_simp
          show K _ (v139.alloc (objN zerosN))
          obtain ⟨v158, e_v158⟩ : ∃ x, x = v139.alloc (objN zerosN) := ⟨_, rfl⟩
          obtain ⟨gY, e_gY⟩ : ∃ g, g = v139.heap.size := ⟨_, rfl⟩
          have e2_gY : v139.heap.size = gY := e_gY.symm
          rw [← e_v158]
          try rw [← e_gY]
          try rw [e2_gY]
          have n_gY : NAt v158 gY zerosN := by rw [e_v158, e_gY]; exact arr_new _ _ _
          have b_v158 : Below v139.heap.size v139 v158 := by rw [e_v158]; exact below_alloc _ _
          have ge_gY : wc.heap.size ≤ gY := by rw [e_gY]; exact hH.g.size
          refine hK.out _ _ (hH.call b_v158) (fun hH => ?_)
          clear hK K e_v158 e_gY e2_gY b_v158
          refine wpAnyH_ready (rs := [5, 6]) (by kernel_rfl) (by simp) ?_
          refine AllReadyH.cons rfl (fun K hK => ?_) ?_
          · try simp only [List.getElem_toArray, List.getElem_cons_succ, List.getElem_cons_zero]
            go_simp
            go_at_call 44
            refine (specSub_any _ DA CB hDA.out hCB.out).mono ?_
            rintro e v159 ⟨rfl, hb_v159⟩
            rw [← HY.out]
            refine hK.out _ _ (hH.call hb_v159) (fun hH => ?_)
            clear hK K
            try simp only [Act.put, List.getElem_toArray, List.getElem_cons_succ, List.getElem_cons_zero, List.setIfInBounds_toArray, List.set_cons_zero, List.set_cons_succ]
            have n_gY := n_gY.below hb_v159
            refine wpAnyH_ready (rs := [6]) (by kernel_rfl) (by simp) ?_
            refine AllReadyH.cons rfl (fun K hK => ?_) AllReadyH.nil
            try simp only [List.getElem_toArray, List.getElem_cons_succ, List.getElem_cons_zero]
            go_simp
            show K _ (v159.alloc (objN zerosN))
            obtain ⟨v160, e_v160⟩ : ∃ x, x = v159.alloc (objN zerosN) := ⟨_, rfl⟩
            obtain ⟨gX, e_gX⟩ : ∃ g, g = v159.heap.size := ⟨_, rfl⟩
            have e2_gX : v159.heap.size = gX := e_gX.symm
            rw [← e_v160]
            try rw [← e_gX]
            try rw [e2_gX]
            have n_gX : NAt v160 gX zerosN := by rw [e_v160, e_gX]; exact arr_new _ _ _
            have b_v160 : Below v159.heap.size v159 v160 := by rw [e_v160]; exact below_alloc _ _
            have ge_gX : wc.heap.size ≤ gX := by rw [e_gX]; exact hH.g.size
            have ne_gX_gY : gY ≠ gX := by have := n_gY.lt; omega
            have n_gY := n_gY.below b_v160
            refine hK.out _ _ (hH.call b_v160) (fun hH => ?_)
            clear hK K e_v160 e_gX e2_gX b_v160
            refine wpAnyH_ready (rs := [8]) (by kernel_rfl) (by simp) ?_
            refine AllReadyH.cons rfl (fun K hK => ?_) AllReadyH.nil
            try simp only [List.getElem_toArray, List.getElem_cons_succ, List.getElem_cons_zero]
            refine wanted_step (by rfl) ?_
            refine step_storeN (.tmp 12) (.tmp 63) rfl gX (dig 16 (X)) zerosN (by simp) rfl rfl rfl n_gX ?_
            intro v161 m_gX g_v161
            refine hK.out _ _ (hH.other g_v161 ge_gX (by omega)) (fun hH => ?_)
            clear hK K n_gX
            have n_gY := n_gY.kept g_v161 (by omega)
            clear g_v161
            refine wpAnyH_ready (rs := [9]) (by kernel_rfl) (by simp) ?_
            refine AllReadyH.cons rfl (fun K hK => ?_) AllReadyH.nil
            try simp only [List.getElem_toArray, List.getElem_cons_succ, List.getElem_cons_zero]
            refine wanted_step (by rfl) ?_
            refine step_storeN (.tmp 13) (.tmp 66) rfl gY (dig 16 (Y)) zerosN (by simp) rfl rfl rfl n_gY ?_
            intro v162 m_gY g_v162
            refine hK.out _ _ (hH.other g_v162 ge_gY (by omega)) (fun hH => ?_)
            clear hK K n_gY
            have m_gX := m_gX.kept g_v162 (by omega)
            clear g_v162
            refine wpAnyH_done (by kernel_rfl) ?_ _
            go_wp2_with fail
            go_meet
            exact ⟨gX, gY, rfl, rfl, m_gX, m_gY, m_gCB.kept hH.g (by omega), m_gDA.kept hH.g (by omega), m_gE.kept hH.g (by omega), m_gAA.kept hH.g (by omega), m_gBB.kept hH.g (by omega), m_gA.kept hH.g (by omega), m_gC.kept hH.g (by omega), (by omega), (by omega), hW.kept hH.g (by omega), hH.z, hH.below hb (by omega) hb.size, Nat.le_trans hsz hH.g.size⟩
          refine AllReadyH.cons rfl (fun K hK => ?_) ?_
          · try simp only [List.getElem_toArray, List.getElem_cons_succ, List.getElem_cons_zero]
            go_simp
            show K _ (v158.alloc (objN zerosN))
            obtain ⟨v163, e_v163⟩ : ∃ x, x = v158.alloc (objN zerosN) := ⟨_, rfl⟩
            obtain ⟨gX, e_gX⟩ : ∃ g, g = v158.heap.size := ⟨_, rfl⟩
            have e2_gX : v158.heap.size = gX := e_gX.symm
            rw [← e_v163]
            try rw [← e_gX]
            try rw [e2_gX]
            have n_gX : NAt v163 gX zerosN := by rw [e_v163, e_gX]; exact arr_new _ _ _
            have b_v163 : Below v158.heap.size v158 v163 := by rw [e_v163]; exact below_alloc _ _
            have ge_gX : wc.heap.size ≤ gX := by rw [e_gX]; exact hH.g.size
            have ne_gX_gY : gY ≠ gX := by have := n_gY.lt; omega
            have n_gY := n_gY.below b_v163
            refine hK.out _ _ (hH.call b_v163) (fun hH => ?_)
            clear hK K e_v163 e_gX e2_gX b_v163
            refine wpAnyH_ready (rs := [5]) (by kernel_rfl) (by simp) ?_
            refine AllReadyH.cons rfl (fun K hK => ?_) AllReadyH.nil
            try simp only [List.getElem_toArray, List.getElem_cons_succ, List.getElem_cons_zero]
            go_simp
            go_at_call 44
            refine (specSub_any _ DA CB hDA.out hCB.out).mono ?_
            rintro e v164 ⟨rfl, hb_v164⟩
            rw [← HY.out]
            refine hK.out _ _ (hH.call hb_v164) (fun hH => ?_)
            clear hK K
            try simp only [Act.put, List.getElem_toArray, List.getElem_cons_succ, List.getElem_cons_zero, List.setIfInBounds_toArray, List.set_cons_zero, List.set_cons_succ]
            have n_gY := n_gY.below hb_v164
            have n_gX := n_gX.below hb_v164
            refine wpAnyH_ready (rs := [8]) (by kernel_rfl) (by simp) ?_
            refine AllReadyH.cons rfl (fun K hK => ?_) AllReadyH.nil
            try simp only [List.getElem_toArray, List.getElem_cons_succ, List.getElem_cons_zero]
            refine wanted_step (by rfl) ?_
            refine step_storeN (.tmp 12) (.tmp 63) rfl gX (dig 16 (X)) zerosN (by simp) rfl rfl rfl n_gX ?_
            intro v165 m_gX g_v165
            refine hK.out _ _ (hH.other g_v165 ge_gX (by omega)) (fun hH => ?_)
            clear hK K n_gX
            have n_gY := n_gY.kept g_v165 (by omega)
            clear g_v165
            refine wpAnyH_ready (rs := [9]) (by kernel_rfl) (by simp) ?_
            refine AllReadyH.cons rfl (fun K hK => ?_) AllReadyH.nil
            try simp only [List.getElem_toArray, List.getElem_cons_succ, List.getElem_cons_zero]
            refine wanted_step (by rfl) ?_
            refine step_storeN (.tmp 13) (.tmp 66) rfl gY (dig 16 (Y)) zerosN (by simp) rfl rfl rfl n_gY ?_
            intro v166 m_gY g_v166
            refine hK.out _ _ (hH.other g_v166 ge_gY (by omega)) (fun hH => ?_)
            clear hK K n_gY
            have m_gX := m_gX.kept g_v166 (by omega)
            clear g_v166
            refine wpAnyH_done (by kernel_rfl) ?_ _
            go_wp2_with fail
            go_meet
            exact ⟨gX, gY, rfl, rfl, m_gX, m_gY, m_gCB.kept hH.g (by omega), m_gDA.kept hH.g (by omega), m_gE.kept hH.g (by omega), m_gAA.kept hH.g (by omega), m_gBB.kept hH.g (by omega), m_gA.kept hH.g (by omega), m_gC.kept hH.g (by omega), (by omega), (by omega), hW.kept hH.g (by omega), hH.z, hH.below hb (by omega) hb.size, Nat.le_trans hsz hH.g.size⟩
          exact AllReadyH.nil
        exact AllReadyH.nil
      refine AllReadyH.cons rfl (fun K hK => ?_) ?_
      · try simp only [List.getElem_toArray, List.getElem_cons_succ, List.getElem_cons_zero]
        go_simp
        show K _ (wc.drew.alloc (objN zerosN))
        obtain ⟨v167, e_v167⟩ : ∃ x, x = wc.drew.alloc (objN zerosN) := ⟨_, rfl⟩
        obtain ⟨gX, e_gX⟩ : ∃ g, g = wc.drew.heap.size := ⟨_, rfl⟩
        have e2_gX : wc.heap.size = gX := e_gX.symm
        rw [← e_v167]
        try rw [← e_gX]
        try rw [e2_gX]
        have n_gX : NAt v167 gX zerosN := by rw [e_v167, e_gX]; exact arr_new _ _ _
        have b_v167 : Below wc.drew.heap.size wc.drew v167 := by rw [e_v167]; exact below_alloc _ _
        have ge_gX : wc.heap.size ≤ gX := by rw [e_gX]; exact hH.g.size
        refine hK.out _ _ (hH.call b_v167) (fun hH => ?_)
        clear hK K e_v167 e_gX e2_gX b_v167
        refine wpAnyH_ready (rs := [2, 7]) (by kernel_rfl) (by simp) ?_
        refine AllReadyH.cons rfl (fun K hK => ?_) ?_
        · try simp only [List.getElem_toArray, List.getElem_cons_succ, List.getElem_cons_zero]
          go_simp
          go_at_call 43
          refine (specAdd_any _ DA CB hDA.out hCB.out).mono ?_
          rintro e v168 ⟨rfl, hb_v168⟩
          rw [← HX.out]
          refine hK.out _ _ (hH.call hb_v168) (fun hH => ?_)
          clear hK K
          try simp only [Act.put, List.getElem_toArray, List.getElem_cons_succ, List.getElem_cons_zero, List.setIfInBounds_toArray, List.set_cons_zero, List.set_cons_succ]
          have n_gX := n_gX.below hb_v168
          refine wpAnyH_ready (rs := [5, 7]) (by kernel_rfl) (by simp) ?_
          refine AllReadyH.cons rfl (fun K hK => ?_) ?_
          · try simp only [List.getElem_toArray, List.getElem_cons_succ, List.getElem_cons_zero]
            go_simp
            go_at_call 44
            refine (specSub_any _ DA CB hDA.out hCB.out).mono ?_
            rintro e v169 ⟨rfl, hb_v169⟩
            rw [← HY.out]
            refine hK.out _ _ (hH.call hb_v169) (fun hH => ?_)
            clear hK K
            try simp only [Act.put, List.getElem_toArray, List.getElem_cons_succ, List.getElem_cons_zero, List.setIfInBounds_toArray, List.set_cons_zero, List.set_cons_succ]
            have n_gX := n_gX.below hb_v169
            refine wpAnyH_ready (rs := [7]) (by kernel_rfl) (by simp) ?_
            refine AllReadyH.cons rfl (fun K hK => ?_) AllReadyH.nil
            try simp only [List.getElem_toArray, List.getElem_cons_succ, List.getElem_cons_zero]
            go_simp
            show K _ (v169.alloc (objN zerosN))
            obtain ⟨v170, e_v170⟩ : ∃ x, x = v169.alloc (objN zerosN) := ⟨_, rfl⟩
            obtain ⟨gY, e_gY⟩ : ∃ g, g = v169.heap.size := ⟨_, rfl⟩
            have e2_gY : v169.heap.size = gY := e_gY.symm
            rw [← e_v170]
            try rw [← e_gY]
            try rw [e2_gY]
            have n_gY : NAt v170 gY zerosN := by rw [e_v170, e_gY]; exact arr_new _ _ _
            have b_v170 : Below v169.heap.size v169 v170 := by rw [e_v170]; exact below_alloc _ _
            have ge_gY : wc.heap.size ≤ gY := by rw [e_gY]; exact hH.g.size
            have ne_gY_gX : gX ≠ gY := by have := n_gX.lt; omega
            have n_gX := n_gX.below b_v170
            refine hK.out _ _ (hH.call b_v170) (fun hH => ?_)
            clear hK K e_v170 e_gY e2_gY b_v170
            refine wpAnyH_ready (rs := [8]) (by kernel_rfl) (by simp) ?_
            refine AllReadyH.cons rfl (fun K hK => ?_) AllReadyH.nil
            try simp only [List.getElem_toArray, List.getElem_cons_succ, List.getElem_cons_zero]
            refine wanted_step (by rfl) ?_
            refine step_storeN (.tmp 12) (.tmp 63) rfl gX (dig 16 (X)) zerosN (by simp) rfl rfl rfl n_gX ?_
            intro v171 m_gX g_v171
            refine hK.out _ _ (hH.other g_v171 ge_gX (by omega)) (fun hH => ?_)
            clear hK K n_gX
            have n_gY := n_gY.kept g_v171 (by omega)
            clear g_v171
            refine wpAnyH_ready (rs := [9]) (by kernel_rfl) (by simp) ?_
            refine AllReadyH.cons rfl (fun K hK => ?_) AllReadyH.nil
            try simp only [List.getElem_toArray, List.getElem_cons_succ, List.getElem_cons_zero]
            refine wanted_step (by rfl) ?_
            refine step_storeN (.tmp 13) (.tmp 66) rfl gY (dig 16 (Y)) zerosN (by simp) rfl rfl rfl n_gY ?_
            intro v172 m_gY g_v172
            refine hK.out _ _ (hH.other g_v172 ge_gY (by omega)) (fun hH => ?_)
            clear hK K n_gY
            have m_gX := m_gX.kept g_v172 (by omega)
            clear g_v172
            refine wpAnyH_done (by kernel_rfl) ?_ _
            go_wp2_with fail
            go_meet
            exact ⟨gX, gY, rfl, rfl, m_gX, m_gY, m_gCB.kept hH.g (by omega), m_gDA.kept hH.g (by omega), m_gE.kept hH.g (by omega), m_gAA.kept hH.g (by omega), m_gBB.kept hH.g (by omega), m_gA.kept hH.g (by omega), m_gC.kept hH.g (by omega), (by omega), (by omega), hW.kept hH.g (by omega), hH.z, hH.below hb (by omega) hb.size, Nat.le_trans hsz hH.g.size⟩
          refine AllReadyH.cons rfl (fun K hK => ?_) ?_
          · try simp only [List.getElem_toArray, List.getElem_cons_succ, List.getElem_cons_zero]
            go_simp
            show K _ (v168.alloc (objN zerosN))
            obtain ⟨v173, e_v173⟩ : ∃ x, x = v168.alloc (objN zerosN) := ⟨_, rfl⟩
            obtain ⟨gY, e_gY⟩ : ∃ g, g = v168.heap.size := ⟨_, rfl⟩
            have e2_gY : v168.heap.size = gY := e_gY.symm
            rw [← e_v173]
            try rw [← e_gY]
            try rw [e2_gY]
            have n_gY : NAt v173 gY zerosN := by rw [e_v173, e_gY]; exact arr_new _ _ _
            have b_v173 : Below v168.heap.size v168 v173 := by rw [e_v173]; exact below_alloc _ _
            have ge_gY : wc.heap.size ≤ gY := by rw [e_gY]; exact hH.g.size
            have ne_gY_gX : gX ≠ gY := by have := n_gX.lt; omega
            have n_gX := n_gX.below b_v173
            refine hK.out _ _ (hH.call b_v173) (fun hH => ?_)
            clear hK K e_v173 e_gY e2_gY b_v173
            refine wpAnyH_ready (rs := [5]) (by kernel_rfl) (by simp) ?_
            refine AllReadyH.cons rfl (fun K hK => ?_) AllReadyH.nil
            try simp only [List.getElem_toArray, List.getElem_cons_succ, List.getElem_cons_zero]
            go_simp
            go_at_call 44
            refine (specSub_any _ DA CB hDA.out hCB.out).mono ?_
            rintro e v174 ⟨rfl, hb_v174⟩
            rw [← HY.out]
            refine hK.out _ _ (hH.call hb_v174) (fun hH => ?_)
            clear hK K
            try simp only [Act.put, List.getElem_toArray, List.getElem_cons_succ, List.getElem_cons_zero, List.setIfInBounds_toArray, List.set_cons_zero, List.set_cons_succ]
            have n_gX := n_gX.below hb_v174
            have n_gY := n_gY.below hb_v174
            refine wpAnyH_ready (rs := [8]) (by kernel_rfl) (by simp) ?_
            refine AllReadyH.cons rfl (fun K hK => ?_) AllReadyH.nil
            try simp only [List.getElem_toArray, List.getElem_cons_succ, List.getElem_cons_zero]
            refine wanted_step (by rfl) ?_
            refine step_storeN (.tmp 12) (.tmp 63) rfl gX (dig 16 (X)) zerosN (by simp) rfl rfl rfl n_gX ?_
            intro v175 m_gX g_v175
            refine hK.out _ _ (hH.other g_v175 ge_gX (by omega)) (fun hH => ?_)
            clear hK K n_gX
            have n_gY := n_gY.kept g_v175 (by omega)
            clear g_v175
            refine wpAnyH_ready (rs := [9]) (by kernel_rfl) (by simp) ?_
            refine AllReadyH.cons rfl (fun K hK => ?_) AllReadyH.nil
            try simp only [List.getElem_toArray, List.getElem_cons_succ, List.getElem_cons_zero]
            refine wanted_step (by rfl) ?_
            refine step_storeN (.tmp 13) (.tmp 66) rfl gY (dig 16 (Y)) zerosN (by simp) rfl rfl rfl n_gY ?_
            intro v176 m_gY g_v176
            refine hK.out _ _ (hH.other g_v176 ge_gY (by omega)) (fun hH => ?_)
            clear hK K n_gY
            have m_gX := m_gX.kept g_v176 (by omega)
            clear g_v176
            refine wpAnyH_done (by kernel_rfl) ?_ _
            go_wp2_with fail
            go_meet
            exact ⟨gX, gY, rfl, rfl, m_gX, m_gY, m_gCB.kept hH.g (by omega), m_gDA.kept hH.g (by omega), m_gE.kept hH.g (by omega), m_gAA.kept hH.g (by omega), m_gBB.kept hH.g (by omega), m_gA.kept hH.g (by omega), m_gC.kept hH.g (by omega), (by omega), (by omega), hW.kept hH.g (by omega), hH.z, hH.below hb (by omega) hb.size, Nat.le_trans hsz hH.g.size⟩
          exact AllReadyH.nil
        refine AllReadyH.cons rfl (fun K hK => ?_) ?_
        · try simp only [List.getElem_toArray, List.getElem_cons_succ, List.getElem_cons_zero]
          go_simp
          show K _ (v167.alloc (objN zerosN))
          obtain ⟨v177, e_v177⟩ : ∃ x, x = v167.alloc (objN zerosN) := ⟨_, rfl⟩
          obtain ⟨gY, e_gY⟩ : ∃ g, g = v167.heap.size := ⟨_, rfl⟩
          have e2_gY : v167.heap.size = gY := e_gY.symm
          rw [← e_v177]
          try rw [← e_gY]
          try rw [e2_gY]
          have n_gY : NAt v177 gY zerosN := by rw [e_v177, e_gY]; exact arr_new _ _ _
          have b_v177 : Below v167.heap.size v167 v177 := by rw [e_v177]; exact below_alloc _ _
          have ge_gY : wc.heap.size ≤ gY := by rw [e_gY]; exact hH.g.size
          have ne_gY_gX : gX ≠ gY := by have := n_gX.lt; omega
          have n_gX := n_gX.below b_v177
          refine hK.out _ _ (hH.call b_v177) (fun hH => ?_)
          clear hK K e_v177 e_gY e2_gY b_v177
          refine wpAnyH_ready (rs := [2]) (by kernel_rfl) (by simp) ?_
          refine AllReadyH.cons rfl (fun K hK => ?_) AllReadyH.nil
          try simp only [List.getElem_toArray, List.getElem_cons_succ, List.getElem_cons_zero]
          go_simp
          go_at_call 43
          refine (specAdd_any _ DA CB hDA.out hCB.out).mono ?_
          rintro e v178 ⟨rfl, hb_v178⟩
          rw [← HX.out]
          refine hK.out _ _ (hH.call hb_v178) (fun hH => ?_)
          clear hK K
          try simp only [Act.put, List.getElem_toArray, List.getElem_cons_succ, List.getElem_cons_zero, List.setIfInBounds_toArray, List.set_cons_zero, List.set_cons_succ]
          have n_gX := n_gX.below hb_v178
          have n_gY := n_gY.below hb_v178
          refine wpAnyH_ready (rs := [5]) (by kernel_rfl) (by simp) ?_
          refine AllReadyH.cons rfl (fun K hK => ?_) AllReadyH.nil
          try simp only [List.getElem_toArray, List.getElem_cons_succ, List.getElem_cons_zero]
          go_simp
          go_at_call 44
          refine (specSub_any _ DA CB hDA.out hCB.out).mono ?_
          rintro e v179 ⟨rfl, hb_v179⟩
          rw [← HY.out]
          refine hK.out _ _ (hH.call hb_v179) (fun hH => ?_)
          clear hK K
          try simp only [Act.put, List.getElem_toArray, List.getElem_cons_succ, List.getElem_cons_zero, List.setIfInBounds_toArray, List.set_cons_zero, List.set_cons_succ]
          have n_gX := n_gX.below hb_v179
          have n_gY := n_gY.below hb_v179
          refine wpAnyH_ready (rs := [8]) (by kernel_rfl) (by simp) ?_
          refine AllReadyH.cons rfl (fun K hK => ?_) AllReadyH.nil
          try simp only [List.getElem_toArray, List.getElem_cons_succ, List.getElem_cons_zero]
          refine wanted_step (by rfl) ?_
          refine step_storeN (.tmp 12) (.tmp 63) rfl gX (dig 16 (X)) zerosN (by simp) rfl rfl rfl n_gX ?_
          intro v180 m_gX g_v180
          refine hK.out _ _ (hH.other g_v180 ge_gX (by omega)) (fun hH => ?_)
          clear hK K n_gX
          have n_gY := n_gY.kept g_v180 (by omega)
          clear g_v180
          refine wpAnyH_ready (rs := [9]) (by kernel_rfl) (by simp) ?_
          refine AllReadyH.cons rfl (fun K hK => ?_) AllReadyH.nil
          try simp only [List.getElem_toArray, List.getElem_cons_succ, List.getElem_cons_zero]
          refine wanted_step (by rfl) ?_
          refine step_storeN (.tmp 13) (.tmp 66) rfl gY (dig 16 (Y)) zerosN (by simp) rfl rfl rfl n_gY ?_
          intro v181 m_gY g_v181
          refine hK.out _ _ (hH.other g_v181 ge_gY (by omega)) (fun hH => ?_)
          clear hK K n_gY
          have m_gX := m_gX.kept g_v181 (by omega)
          clear g_v181
          refine wpAnyH_done (by kernel_rfl) ?_ _
          go_wp2_with fail
          go_meet
          exact ⟨gX, gY, rfl, rfl, m_gX, m_gY, m_gCB.kept hH.g (by omega), m_gDA.kept hH.g (by omega), m_gE.kept hH.g (by omega), m_gAA.kept hH.g (by omega), m_gBB.kept hH.g (by omega), m_gA.kept hH.g (by omega), m_gC.kept hH.g (by omega), (by omega), (by omega), hW.kept hH.g (by omega), hH.z, hH.below hb (by omega) hb.size, Nat.le_trans hsz hH.g.size⟩
        exact AllReadyH.nil
      refine AllReadyH.cons rfl (fun K hK => ?_) ?_
      · try simp only [List.getElem_toArray, List.getElem_cons_succ, List.getElem_cons_zero]
        go_simp
        show K _ (wc.drew.alloc (objN zerosN))
        obtain ⟨v182, e_v182⟩ : ∃ x, x = wc.drew.alloc (objN zerosN) := ⟨_, rfl⟩
        obtain ⟨gY, e_gY⟩ : ∃ g, g = wc.drew.heap.size := ⟨_, rfl⟩
        have e2_gY : wc.heap.size = gY := e_gY.symm
        rw [← e_v182]
        try rw [← e_gY]
        try rw [e2_gY]
        have n_gY : NAt v182 gY zerosN := by rw [e_v182, e_gY]; exact arr_new _ _ _
        have b_v182 : Below wc.drew.heap.size wc.drew v182 := by rw [e_v182]; exact below_alloc _ _
        have ge_gY : wc.heap.size ≤ gY := by rw [e_gY]; exact hH.g.size
        refine hK.out _ _ (hH.call b_v182) (fun hH => ?_)
        clear hK K e_v182 e_gY e2_gY b_v182
        refine wpAnyH_ready (rs := [2, 6]) (by kernel_rfl) (by simp) ?_
        refine AllReadyH.cons rfl (fun K hK => ?_) ?_
        · try simp only [List.getElem_toArray, List.getElem_cons_succ, List.getElem_cons_zero]
          go_simp
          go_at_call 43
          refine (specAdd_any _ DA CB hDA.out hCB.out).mono ?_
          rintro e v183 ⟨rfl, hb_v183⟩
          rw [← HX.out]
          refine hK.out _ _ (hH.call hb_v183) (fun hH => ?_)
          clear hK K
          try simp only [Act.put, List.getElem_toArray, List.getElem_cons_succ, List.getElem_cons_zero, List.setIfInBounds_toArray, List.set_cons_zero, List.set_cons_succ]
          have n_gY := n_gY.below hb_v183
          refine wpAnyH_ready (rs := [5, 6]) (by kernel_rfl) (by simp) ?_
          refine AllReadyH.cons rfl (fun K hK => ?_) ?_
          · try simp only [List.getElem_toArray, List.getElem_cons_succ, List.getElem_cons_zero]
            go_simp
            go_at_call 44
            refine (specSub_any _ DA CB hDA.out hCB.out).mono ?_
            rintro e v184 ⟨rfl, hb_v184⟩
            rw [← HY.out]
            refine hK.out _ _ (hH.call hb_v184) (fun hH => ?_)
            clear hK K
            try simp only [Act.put, List.getElem_toArray, List.getElem_cons_succ, List.getElem_cons_zero, List.setIfInBounds_toArray, List.set_cons_zero, List.set_cons_succ]
            have n_gY := n_gY.below hb_v184
            refine wpAnyH_ready (rs := [6]) (by kernel_rfl) (by simp) ?_
            refine AllReadyH.cons rfl (fun K hK => ?_) AllReadyH.nil
            try simp only [List.getElem_toArray, List.getElem_cons_succ, List.getElem_cons_zero]
            go_simp
            show K _ (v184.alloc (objN zerosN))
            obtain ⟨v185, e_v185⟩ : ∃ x, x = v184.alloc (objN zerosN) := ⟨_, rfl⟩
            obtain ⟨gX, e_gX⟩ : ∃ g, g = v184.heap.size := ⟨_, rfl⟩
            have e2_gX : v184.heap.size = gX := e_gX.symm
            rw [← e_v185]
            try rw [← e_gX]
            try rw [e2_gX]
            have n_gX : NAt v185 gX zerosN := by rw [e_v185, e_gX]; exact arr_new _ _ _
            have b_v185 : Below v184.heap.size v184 v185 := by rw [e_v185]; exact below_alloc _ _
            have ge_gX : wc.heap.size ≤ gX := by rw [e_gX]; exact hH.g.size
            have ne_gX_gY : gY ≠ gX := by have := n_gY.lt; omega
            have n_gY := n_gY.below b_v185
            refine hK.out _ _ (hH.call b_v185) (fun hH => ?_)
            clear hK K e_v185 e_gX e2_gX b_v185
            refine wpAnyH_ready (rs := [8]) (by kernel_rfl) (by simp) ?_
            refine AllReadyH.cons rfl (fun K hK => ?_) AllReadyH.nil
            try simp only [List.getElem_toArray, List.getElem_cons_succ, List.getElem_cons_zero]
            refine wanted_step (by rfl) ?_
            refine step_storeN (.tmp 12) (.tmp 63) rfl gX (dig 16 (X)) zerosN (by simp) rfl rfl rfl n_gX ?_
            intro v186 m_gX g_v186
            refine hK.out _ _ (hH.other g_v186 ge_gX (by omega)) (fun hH => ?_)
            clear hK K n_gX
            have n_gY := n_gY.kept g_v186 (by omega)
            clear g_v186
            refine wpAnyH_ready (rs := [9]) (by kernel_rfl) (by simp) ?_
            refine AllReadyH.cons rfl (fun K hK => ?_) AllReadyH.nil
            try simp only [List.getElem_toArray, List.getElem_cons_succ, List.getElem_cons_zero]
            refine wanted_step (by rfl) ?_
            refine step_storeN (.tmp 13) (.tmp 66) rfl gY (dig 16 (Y)) zerosN (by simp) rfl rfl rfl n_gY ?_
            intro v187 m_gY g_v187
            refine hK.out _ _ (hH.other g_v187 ge_gY (by omega)) (fun hH => ?_)
            clear hK K n_gY
            have m_gX := m_gX.kept g_v187 (by omega)
            clear g_v187
            refine wpAnyH_done (by kernel_rfl) ?_ _
            go_wp2_with fail
            go_meet
            exact ⟨gX, gY, rfl, rfl, m_gX, m_gY, m_gCB.kept hH.g (by omega), m_gDA.kept hH.g (by omega), m_gE.kept hH.g (by omega), m_gAA.kept hH.g (by omega), m_gBB.kept hH.g (by omega), m_gA.kept hH.g (by omega), m_gC.kept hH.g (by omega), (by omega), (by omega), hW.kept hH.g (by omega), hH.z, hH.below hb (by omega) hb.size, Nat.le_trans hsz hH.g.size⟩
          refine AllReadyH.cons rfl (fun K hK => ?_) ?_
          · try simp only [List.getElem_toArray, List.getElem_cons_succ, List.getElem_cons_zero]
            go_simp
            show K _ (v183.alloc (objN zerosN))
            obtain ⟨v188, e_v188⟩ : ∃ x, x = v183.alloc (objN zerosN) := ⟨_, rfl⟩
            obtain ⟨gX, e_gX⟩ : ∃ g, g = v183.heap.size := ⟨_, rfl⟩
            have e2_gX : v183.heap.size = gX := e_gX.symm
            rw [← e_v188]
            try rw [← e_gX]
            try rw [e2_gX]
            have n_gX : NAt v188 gX zerosN := by rw [e_v188, e_gX]; exact arr_new _ _ _
            have b_v188 : Below v183.heap.size v183 v188 := by rw [e_v188]; exact below_alloc _ _
            have ge_gX : wc.heap.size ≤ gX := by rw [e_gX]; exact hH.g.size
            have ne_gX_gY : gY ≠ gX := by have := n_gY.lt; omega
            have n_gY := n_gY.below b_v188
            refine hK.out _ _ (hH.call b_v188) (fun hH => ?_)
            clear hK K e_v188 e_gX e2_gX b_v188
            refine wpAnyH_ready (rs := [5]) (by kernel_rfl) (by simp) ?_
            refine AllReadyH.cons rfl (fun K hK => ?_) AllReadyH.nil
            try simp only [List.getElem_toArray, List.getElem_cons_succ, List.getElem_cons_zero]
            go_simp
            go_at_call 44
            refine (specSub_any _ DA CB hDA.out hCB.out).mono ?_
            rintro e v189 ⟨rfl, hb_v189⟩
            rw [← HY.out]
            refine hK.out _ _ (hH.call hb_v189) (fun hH => ?_)
            clear hK K
            try simp only [Act.put, List.getElem_toArray, List.getElem_cons_succ, List.getElem_cons_zero, List.setIfInBounds_toArray, List.set_cons_zero, List.set_cons_succ]
            have n_gY := n_gY.below hb_v189
            have n_gX := n_gX.below hb_v189
            refine wpAnyH_ready (rs := [8]) (by kernel_rfl) (by simp) ?_
            refine AllReadyH.cons rfl (fun K hK => ?_) AllReadyH.nil
            try simp only [List.getElem_toArray, List.getElem_cons_succ, List.getElem_cons_zero]
            refine wanted_step (by rfl) ?_
            refine step_storeN (.tmp 12) (.tmp 63) rfl gX (dig 16 (X)) zerosN (by simp) rfl rfl rfl n_gX ?_
            intro v190 m_gX g_v190
            refine hK.out _ _ (hH.other g_v190 ge_gX (by omega)) (fun hH => ?_)
            clear hK K n_gX
            have n_gY := n_gY.kept g_v190 (by omega)
            clear g_v190
            refine wpAnyH_ready (rs := [9]) (by kernel_rfl) (by simp) ?_
            refine AllReadyH.cons rfl (fun K hK => ?_) AllReadyH.nil
            try simp only [List.getElem_toArray, List.getElem_cons_succ, List.getElem_cons_zero]
            refine wanted_step (by rfl) ?_
            refine step_storeN (.tmp 13) (.tmp 66) rfl gY (dig 16 (Y)) zerosN (by simp) rfl rfl rfl n_gY ?_
            intro v191 m_gY g_v191
            refine hK.out _ _ (hH.other g_v191 ge_gY (by omega)) (fun hH => ?_)
            clear hK K n_gY
            have m_gX := m_gX.kept g_v191 (by omega)
            clear g_v191
            refine wpAnyH_done (by kernel_rfl) ?_ _
            go_wp2_with fail
            go_meet
            exact ⟨gX, gY, rfl, rfl, m_gX, m_gY, m_gCB.kept hH.g (by omega), m_gDA.kept hH.g (by omega), m_gE.kept hH.g (by omega), m_gAA.kept hH.g (by omega), m_gBB.kept hH.g (by omega), m_gA.kept hH.g (by omega), m_gC.kept hH.g (by omega), (by omega), (by omega), hW.kept hH.g (by omega), hH.z, hH.below hb (by omega) hb.size, Nat.le_trans hsz hH.g.size⟩
          exact AllReadyH.nil
        refine AllReadyH.cons rfl (fun K hK => ?_) ?_
        · try simp only [List.getElem_toArray, List.getElem_cons_succ, List.getElem_cons_zero]
          go_simp
          show K _ (v182.alloc (objN zerosN))
          obtain ⟨v192, e_v192⟩ : ∃ x, x = v182.alloc (objN zerosN) := ⟨_, rfl⟩
          obtain ⟨gX, e_gX⟩ : ∃ g, g = v182.heap.size := ⟨_, rfl⟩
          have e2_gX : v182.heap.size = gX := e_gX.symm
          rw [← e_v192]
          try rw [← e_gX]
          try rw [e2_gX]
          have n_gX : NAt v192 gX zerosN := by rw [e_v192, e_gX]; exact arr_new _ _ _
          have b_v192 : Below v182.heap.size v182 v192 := by rw [e_v192]; exact below_alloc _ _
          have ge_gX : wc.heap.size ≤ gX := by rw [e_gX]; exact hH.g.size
          have ne_gX_gY : gY ≠ gX := by have := n_gY.lt; omega
          have n_gY := n_gY.below b_v192
          refine hK.out _ _ (hH.call b_v192) (fun hH => ?_)
          clear hK K e_v192 e_gX e2_gX b_v192
          refine wpAnyH_ready (rs := [2]) (by kernel_rfl) (by simp) ?_
          refine AllReadyH.cons rfl (fun K hK => ?_) AllReadyH.nil
          try simp only [List.getElem_toArray, List.getElem_cons_succ, List.getElem_cons_zero]
          go_simp
          go_at_call 43
          refine (specAdd_any _ DA CB hDA.out hCB.out).mono ?_
          rintro e v193 ⟨rfl, hb_v193⟩
          rw [← HX.out]
          refine hK.out _ _ (hH.call hb_v193) (fun hH => ?_)
          clear hK K
          try simp only [Act.put, List.getElem_toArray, List.getElem_cons_succ, List.getElem_cons_zero, List.setIfInBounds_toArray, List.set_cons_zero, List.set_cons_succ]
          have n_gY := n_gY.below hb_v193
          have n_gX := n_gX.below hb_v193
          refine wpAnyH_ready (rs := [5]) (by kernel_rfl) (by simp) ?_
          refine AllReadyH.cons rfl (fun K hK => ?_) AllReadyH.nil
          try simp only [List.getElem_toArray, List.getElem_cons_succ, List.getElem_cons_zero]
          go_simp
          go_at_call 44
          refine (specSub_any _ DA CB hDA.out hCB.out).mono ?_
          rintro e v194 ⟨rfl, hb_v194⟩
          rw [← HY.out]
          refine hK.out _ _ (hH.call hb_v194) (fun hH => ?_)
          clear hK K
          try simp only [Act.put, List.getElem_toArray, List.getElem_cons_succ, List.getElem_cons_zero, List.setIfInBounds_toArray, List.set_cons_zero, List.set_cons_succ]
          have n_gY := n_gY.below hb_v194
          have n_gX := n_gX.below hb_v194
          refine wpAnyH_ready (rs := [8]) (by kernel_rfl) (by simp) ?_
          refine AllReadyH.cons rfl (fun K hK => ?_) AllReadyH.nil
          try simp only [List.getElem_toArray, List.getElem_cons_succ, List.getElem_cons_zero]
          refine wanted_step (by rfl) ?_
          refine step_storeN (.tmp 12) (.tmp 63) rfl gX (dig 16 (X)) zerosN (by simp) rfl rfl rfl n_gX ?_
          intro v195 m_gX g_v195
          refine hK.out _ _ (hH.other g_v195 ge_gX (by omega)) (fun hH => ?_)
          clear hK K n_gX
          have n_gY := n_gY.kept g_v195 (by omega)
          clear g_v195
          refine wpAnyH_ready (rs := [9]) (by kernel_rfl) (by simp) ?_
          refine AllReadyH.cons rfl (fun K hK => ?_) AllReadyH.nil
          try simp only [List.getElem_toArray, List.getElem_cons_succ, List.getElem_cons_zero]
          refine wanted_step (by rfl) ?_
          refine step_storeN (.tmp 13) (.tmp 66) rfl gY (dig 16 (Y)) zerosN (by simp) rfl rfl rfl n_gY ?_
          intro v196 m_gY g_v196
          refine hK.out _ _ (hH.other g_v196 ge_gY (by omega)) (fun hH => ?_)
          clear hK K n_gY
          have m_gX := m_gX.kept g_v196 (by omega)
          clear g_v196
          refine wpAnyH_done (by kernel_rfl) ?_ _
          go_wp2_with fail
          go_meet
          exact ⟨gX, gY, rfl, rfl, m_gX, m_gY, m_gCB.kept hH.g (by omega), m_gDA.kept hH.g (by omega), m_gE.kept hH.g (by omega), m_gAA.kept hH.g (by omega), m_gBB.kept hH.g (by omega), m_gA.kept hH.g (by omega), m_gC.kept hH.g (by omega), (by omega), (by omega), hW.kept hH.g (by omega), hH.z, hH.below hb (by omega) hb.size, Nat.le_trans hsz hH.g.size⟩
        exact AllReadyH.nil
      exact AllReadyH.nil
    clear hW hR hzr hb hsz m_gCB m_gDA m_gE m_gAA m_gBB m_gA m_gC
    obtain ⟨gX, gY, rfl, rfl, m_gX, m_gY, m_gCB, m_gDA, m_gE, m_gAA, m_gBB, m_gA, m_gC, q_gX, q_gY, hW, ⟨zr, hzr, hR⟩, hb, hsz⟩ := hcut
    go_wp2_with fail
    refine wp_region_held_drew (S := fun w' => GH wc w' (w.heap.size + 1) 80 59) (by kernel_rfl) (GH.start hR hzr) (fun hH => ?_)
    refine wpAnyH_take (i := 0) (v := ?_) rfl (by kernel_rfl) (by kernel_rfl) (by kernel_rfl) (fun _ _ _ h => h) (Or.inl ⟨by rfl, fun w' hSw => by go_simp; with_reducible rfl⟩) hH ?_
    simp only [Act.put, List.getElem_toArray, List.getElem_cons_succ, List.getElem_cons_zero, List.setIfInBounds_toArray, List.set_cons_zero, List.set_cons_succ]
    refine wpAnyH_take (i := 1) (v := _) rfl (by kernel_rfl) (by kernel_rfl) (by kernel_rfl) (fun _ _ _ h => h) (yieldsIf_load_mid (by rfl) _ _ rfl _ _ rfl _ _ (fun w' h => WAt.r0 (Arr.kept hW (GH.g h) (by omega))) n_und rfl (n_len u)) hH ?_
    simp only [Act.put, List.getElem_toArray, List.getElem_cons_succ, List.getElem_cons_zero, List.setIfInBounds_toArray, List.set_cons_zero, List.set_cons_succ]
    refine wpAnyH_take (i := 3) (v := _) rfl (by kernel_rfl) (by kernel_rfl) (by kernel_rfl) (fun _ _ _ h => h) (yieldsIf_load_mid (by rfl) _ _ rfl _ _ rfl _ _ (fun w' h => Arr.range (Arr.kept m_gAA (GH.g h) (by omega))) n_und rfl (n_len AA)) hH ?_
    simp only [Act.put, List.getElem_toArray, List.getElem_cons_succ, List.getElem_cons_zero, List.setIfInBounds_toArray, List.set_cons_zero, List.set_cons_succ]
    refine wpAnyH_take (i := 4) (v := _) rfl (by kernel_rfl) (by kernel_rfl) (by kernel_rfl) (fun _ _ _ h => h) (yieldsIf_load_mid (by rfl) _ _ rfl _ _ rfl _ _ (fun w' h => Arr.range (Arr.kept m_gBB (GH.g h) (by omega))) n_und rfl (n_len BB)) hH ?_
    simp only [Act.put, List.getElem_toArray, List.getElem_cons_succ, List.getElem_cons_zero, List.setIfInBounds_toArray, List.set_cons_zero, List.set_cons_succ]
    refine wpAnyH_take (i := 6) (v := _) rfl (by kernel_rfl) (by kernel_rfl) (by kernel_rfl) (fun _ _ _ h => h) (yieldsIf_load_mid (by rfl) _ _ rfl _ _ rfl _ _ (fun w' h => Arr.range (Arr.kept m_gE (GH.g h) (by omega))) n_und rfl (n_len E)) hH ?_
    simp only [Act.put, List.getElem_toArray, List.getElem_cons_succ, List.getElem_cons_zero, List.setIfInBounds_toArray, List.set_cons_zero, List.set_cons_succ]
    refine wpAnyH_take (i := 7) (v := _) rfl (by kernel_rfl) (by kernel_rfl) (by kernel_rfl) (fun _ _ _ h => h) (yieldsIf_load_mid (by rfl) _ _ rfl _ _ rfl _ _ (fun w' h => Arr.range (Arr.kept m_gAA (GH.g h) (by omega))) n_und rfl (n_len AA)) hH ?_
    simp only [Act.put, List.getElem_toArray, List.getElem_cons_succ, List.getElem_cons_zero, List.setIfInBounds_toArray, List.set_cons_zero, List.set_cons_succ]
    refine wpAnyH_take (i := 9) (v := _) rfl (by kernel_rfl) (by kernel_rfl) (by kernel_rfl) (fun _ _ _ h => h) (yieldsIf_load_mid (by rfl) _ _ rfl _ _ rfl _ _ (fun w' h => Arr.range (Arr.kept m_gE (GH.g h) (by omega))) n_und rfl (n_len E)) hH ?_
    simp only [Act.put, List.getElem_toArray, List.getElem_cons_succ, List.getElem_cons_zero, List.setIfInBounds_toArray, List.set_cons_zero, List.set_cons_succ]
    refine wpAnyH_take (i := 13) (v := _) rfl (by kernel_rfl) (by kernel_rfl) (by kernel_rfl) (fun _ _ _ h => h) (yieldsIf_load_mid (by rfl) _ _ rfl _ _ rfl _ _ (fun w' h => Arr.range (Arr.kept m_gX (GH.g h) (by omega))) n_und rfl (n_len X)) hH ?_
    simp only [Act.put, List.getElem_toArray, List.getElem_cons_succ, List.getElem_cons_zero, List.setIfInBounds_toArray, List.set_cons_zero, List.set_cons_succ]
    refine wpAnyH_take (i := 14) (v := _) rfl (by kernel_rfl) (by kernel_rfl) (by kernel_rfl) (fun _ _ _ h => h) (yieldsIf_load_mid (by rfl) _ _ rfl _ _ rfl _ _ (fun w' h => Arr.range (Arr.kept m_gX (GH.g h) (by omega))) n_und rfl (n_len X)) hH ?_
    simp only [Act.put, List.getElem_toArray, List.getElem_cons_succ, List.getElem_cons_zero, List.setIfInBounds_toArray, List.set_cons_zero, List.set_cons_succ]
    refine wpAnyH_take (i := 16) (v := ?_) rfl (by kernel_rfl) (by kernel_rfl) (by kernel_rfl) (fun _ _ _ h => h) (Or.inl ⟨by rfl, fun w' hSw => by go_simp; with_reducible rfl⟩) hH ?_
    simp only [Act.put, List.getElem_toArray, List.getElem_cons_succ, List.getElem_cons_zero, List.setIfInBounds_toArray, List.set_cons_zero, List.set_cons_succ]
    refine wpAnyH_take (i := 17) (v := _) rfl (by kernel_rfl) (by kernel_rfl) (by kernel_rfl) (fun _ _ _ h => h) (yieldsIf_load_mid (by rfl) _ _ rfl _ _ rfl _ _ (fun w' h => WAt.r0 (Arr.kept hW (GH.g h) (by omega))) n_und rfl (n_len u)) hH ?_
    simp only [Act.put, List.getElem_toArray, List.getElem_cons_succ, List.getElem_cons_zero, List.setIfInBounds_toArray, List.set_cons_zero, List.set_cons_succ]
    refine wpAnyH_take (i := 18) (v := _) rfl (by kernel_rfl) (by kernel_rfl) (by kernel_rfl) (fun _ _ _ h => h) (yieldsIf_load_mid (by rfl) _ _ rfl _ _ rfl _ _ (fun w' h => Arr.range (Arr.kept m_gY (GH.g h) (by omega))) n_und rfl (n_len Y)) hH ?_
    simp only [Act.put, List.getElem_toArray, List.getElem_cons_succ, List.getElem_cons_zero, List.setIfInBounds_toArray, List.set_cons_zero, List.set_cons_succ]
    refine wpAnyH_take (i := 19) (v := _) rfl (by kernel_rfl) (by kernel_rfl) (by kernel_rfl) (fun _ _ _ h => h) (yieldsIf_load_mid (by rfl) _ _ rfl _ _ rfl _ _ (fun w' h => Arr.range (Arr.kept m_gY (GH.g h) (by omega))) n_und rfl (n_len Y)) hH ?_
    simp only [Act.put, List.getElem_toArray, List.getElem_cons_succ, List.getElem_cons_zero, List.setIfInBounds_toArray, List.set_cons_zero, List.set_cons_succ]
    refine wpAnyH_ready (rs := [2]) (by kernel_rfl) (by simp) ?_
    refine AllReadyH.cons rfl (fun K hK => ?_) AllReadyH.nil
    try simp only [List.getElem_toArray, List.getElem_cons_succ, List.getElem_cons_zero]
    go_simp
    go_at_call 45
    refine (specMod_any _ u HU.out).mono ?_
    rintro e z2 ⟨rfl, hb_z2⟩
    refine hK.out _ _ (hH.call hb_z2) (fun hH => ?_)
    clear hK K
    try simp only [Act.put, List.getElem_toArray, List.getElem_cons_succ, List.getElem_cons_zero, List.setIfInBounds_toArray, List.set_cons_zero, List.set_cons_succ]
    refine wpAnyH_ready (rs := [5]) (by kernel_rfl) (by simp) ?_
    refine AllReadyH.cons rfl (fun K hK => ?_) AllReadyH.nil
    try simp only [List.getElem_toArray, List.getElem_cons_succ, List.getElem_cons_zero]
    go_simp
    go_at_call 28
    refine (specMul_any _ AA BB hAA.out hBB.out).mono ?_
    rintro e z5 ⟨rfl, hb_z5⟩
    refine hK.out _ _ (hH.call hb_z5) (fun hH => ?_)
    clear hK K
    try simp only [Act.put, List.getElem_toArray, List.getElem_cons_succ, List.getElem_cons_zero, List.setIfInBounds_toArray, List.set_cons_zero, List.set_cons_succ]
    try rw [← HAB.out]
    refine wpAnyH_ready (rs := [8]) (by kernel_rfl) (by simp) ?_
    refine AllReadyH.cons rfl (fun K hK => ?_) AllReadyH.nil
    try simp only [List.getElem_toArray, List.getElem_cons_succ, List.getElem_cons_zero]
    go_simp
    go_at_call 24
    refine (small_any _ 121665 (by decide)).mono ?_
    rintro e z8 ⟨rfl, hb_z8⟩
    refine hK.out _ _ (hH.call hb_z8) (fun hH => ?_)
    clear hK K
    try simp only [Act.put, List.getElem_toArray, List.getElem_cons_succ, List.getElem_cons_zero, List.setIfInBounds_toArray, List.set_cons_zero, List.set_cons_succ]
    refine wpAnyH_ready (rs := [10]) (by kernel_rfl) (by simp) ?_
    refine AllReadyH.cons rfl (fun K hK => ?_) AllReadyH.nil
    try simp only [List.getElem_toArray, List.getElem_cons_succ, List.getElem_cons_zero]
    go_simp
    go_at_call 28
    refine (specMul_any _ 121665 E (by decide) hE.out).mono ?_
    rintro e z10 ⟨rfl, hb_z10⟩
    refine hK.out _ _ (hH.call hb_z10) (fun hH => ?_)
    clear hK K
    try simp only [Act.put, List.getElem_toArray, List.getElem_cons_succ, List.getElem_cons_zero, List.setIfInBounds_toArray, List.set_cons_zero, List.set_cons_succ]
    try rw [← HSE.out]
    refine wpAnyH_ready (rs := [11]) (by kernel_rfl) (by simp) ?_
    refine AllReadyH.cons rfl (fun K hK => ?_) AllReadyH.nil
    try simp only [List.getElem_toArray, List.getElem_cons_succ, List.getElem_cons_zero]
    go_simp
    go_at_call 43
    refine (specAdd_any _ AA SE hAA.out hSE.out).mono ?_
    rintro e z11 ⟨rfl, hb_z11⟩
    refine hK.out _ _ (hH.call hb_z11) (fun hH => ?_)
    clear hK K
    try simp only [Act.put, List.getElem_toArray, List.getElem_cons_succ, List.getElem_cons_zero, List.setIfInBounds_toArray, List.set_cons_zero, List.set_cons_succ]
    try rw [← HAS.out]
    refine wpAnyH_ready (rs := [12]) (by kernel_rfl) (by simp) ?_
    refine AllReadyH.cons rfl (fun K hK => ?_) AllReadyH.nil
    try simp only [List.getElem_toArray, List.getElem_cons_succ, List.getElem_cons_zero]
    go_simp
    go_at_call 28
    refine (specMul_any _ E AS hE.out hAS.out).mono ?_
    rintro e z12 ⟨rfl, hb_z12⟩
    refine hK.out _ _ (hH.call hb_z12) (fun hH => ?_)
    clear hK K
    try simp only [Act.put, List.getElem_toArray, List.getElem_cons_succ, List.getElem_cons_zero, List.setIfInBounds_toArray, List.set_cons_zero, List.set_cons_succ]
    try rw [← HEA.out]
    refine wpAnyH_ready (rs := [15]) (by kernel_rfl) (by simp) ?_
    refine AllReadyH.cons rfl (fun K hK => ?_) AllReadyH.nil
    try simp only [List.getElem_toArray, List.getElem_cons_succ, List.getElem_cons_zero]
    go_simp
    go_at_call 28
    refine (specMul_any _ X X hX.out hX.out).mono ?_
    rintro e z15 ⟨rfl, hb_z15⟩
    refine hK.out _ _ (hH.call hb_z15) (fun hH => ?_)
    clear hK K
    try simp only [Act.put, List.getElem_toArray, List.getElem_cons_succ, List.getElem_cons_zero, List.setIfInBounds_toArray, List.set_cons_zero, List.set_cons_succ]
    try rw [← HXX.out]
    refine wpAnyH_ready (rs := [20]) (by kernel_rfl) (by simp) ?_
    refine AllReadyH.cons rfl (fun K hK => ?_) AllReadyH.nil
    try simp only [List.getElem_toArray, List.getElem_cons_succ, List.getElem_cons_zero]
    go_simp
    go_at_call 28
    refine (specMul_any _ Y Y hY.out hY.out).mono ?_
    rintro e z20 ⟨rfl, hb_z20⟩
    refine hK.out _ _ (hH.call hb_z20) (fun hH => ?_)
    clear hK K
    try simp only [Act.put, List.getElem_toArray, List.getElem_cons_succ, List.getElem_cons_zero, List.setIfInBounds_toArray, List.set_cons_zero, List.set_cons_succ]
    try rw [← HYY.out]
    refine wpAnyH_ready (rs := [21]) (by kernel_rfl) (by simp) ?_
    refine AllReadyH.cons rfl (fun K hK => ?_) AllReadyH.nil
    try simp only [List.getElem_toArray, List.getElem_cons_succ, List.getElem_cons_zero]
    go_simp
    go_at_call 28
    refine (specMul_any _ u YY HU.out hYY.out).mono ?_
    rintro e z21 ⟨rfl, hb_z21⟩
    refine hK.out _ _ (hH.call hb_z21) (fun hH => ?_)
    clear hK K
    try simp only [Act.put, List.getElem_toArray, List.getElem_cons_succ, List.getElem_cons_zero, List.setIfInBounds_toArray, List.set_cons_zero, List.set_cons_succ]
    try rw [← HUY.out]
    refine wpAnyH_ready (rs := [22]) (by kernel_rfl) (by simp) ?_
    refine AllReadyH.cons rfl (fun K hK => ?_) AllReadyH.nil
    try simp only [List.getElem_toArray, List.getElem_cons_succ, List.getElem_cons_zero]
    refine wanted_step (by rfl) ?_
    refine step_buildW _ rfl (u % pp) AB EA XX UY (by simp [Act.eval]) ?_
    refine hK.out _ _ hH (fun hH => ?_)
    clear hK K
    try simp only [Act.put, List.getElem_toArray, List.getElem_cons_succ, List.getElem_cons_zero, List.setIfInBounds_toArray, List.set_cons_zero, List.set_cons_succ]
    refine wpAnyH_ready (rs := [23]) (by kernel_rfl) (by simp) ?_
    refine AllReadyH.cons rfl (fun K hK => ?_) AllReadyH.nil
    try simp only [List.getElem_toArray, List.getElem_cons_succ, List.getElem_cons_zero]
    refine wanted_step (by rfl) ?_
    refine step_store 59 (.tmp 4) (.tmp 89) rfl hH (u64s (l5 (u % pp) ⟨AB, EA, XX, UY⟩)) rfl rfl (by simp) w_size (u64s_oneCell _) ?_
    intro z23 hH hN_z23
    refine hK.out _ _ hH (fun hH => ?_)
    clear hK K
    refine wpAnyH_done (by kernel_rfl) ?_ _
    go_wp2_with fail
    have hfin : dbl u (swp b s) = ⟨AB, EA, XX, UY⟩ := by
      rw [← HQ.out]
      simp only [dbl, HAB.out, HEA.out, HAS.out, HSE.out, HE.out, HXX.out, HUY.out, HYY.out, HX.out, HY.out, HDA.out, HCB.out, HD1.out, HD2.out, HAA.out, HBB.out, HA.out, HC.out]
    rw [hfin]
    exact ret_w rfl (w.heap.size + 1) _ _ rfl hN_z23 rfl ⟨rfl, hH.below hb (by omega) hb.size⟩
end Go.Proofs.YthjminkkmljjhaaGreatDoor

/- Poly1305's key taken in, in the package. Conditions: 32 bytes. (Printed by wip/genpi.py.) -/
import Derived.Test.YtkocgogpbammaaaDoorPu
set_option linter.unusedVariables false
set_option linter.unusedSimpArgs false
namespace Go.Proofs.YtkocgogpbammaaaDoor
open Go.RowKit

/-- All blocks of W but r are as they were; r holds as many cells as it did. -/
structure GH (W w : World) (r n : Nat) (T : TypeId) : Prop where
  g : W.grownBy w (some r)
  z : ∃ z, z.length = n ∧ Arr w r T z
section
variable {W w w2 : World} {r n : Nat} {T : TypeId}
theorem GH.start {z : List Value} (h : Arr W r T z) (hn : z.length = n) : GH W W.drew r n T := ⟨⟨rfl, rfl, rfl, Nat.le_refl _, fun _ _ _ => rfl⟩, z, hn, h⟩
theorem GH.call (h : GH W w r n T) (hb : Below w.heap.size w w2) : GH W w2 r n T := by
  obtain ⟨hg, z, hn, hz⟩ := h
  exact ⟨grown_below_trans hg hb, z, hn, hz.below hb⟩
theorem GH.cell (h : GH W w r n T) (k : Nat) (v : Value) (hk : k < n) : GH W (w.setCell ⟨r, k, none⟩ v) r n T := by
  obtain ⟨hg, z, hn, hz⟩ := h
  exact ⟨grown_set0 hg k v, _, by rw [List.length_set]; exact hn, hz.set k v (by omega)⟩
theorem GH.range {g o : Nat} {vs : List Value} (h : GH W w r n T) (hr : W.rangeAt g o vs) (hne : g ≠ r) : w.rangeAt g o vs := range_kept hr h.g hne
end
/-- The masks, byte for byte. -/
def mask0 : List UInt8 := [255, 255, 255, 15, 252, 255, 255, 15]
def mask1 : List UInt8 := [252, 255, 255, 15, 252, 255, 255, 15]
theorem leNat_and : ∀ (a b : List UInt8), a.length = b.length → Lib.leNat a &&& Lib.leNat b = Lib.leNat (List.zipWith (· &&& ·) a b)
  | [], [], _ => by simp [Lib.leNat]
  | x :: a, y :: b, h => by
    have ih := leNat_and a b (by simpa using h)
    have h1 := and_pair 8 x.toNat (Lib.leNat a) y.toNat (Lib.leNat b) (UInt8.toNat_lt x) (UInt8.toNat_lt y)
    simp only [Nat.reducePow] at h1
    simp only [Lib.leNat, List.zipWith_cons_cons, UInt8.toNat_and, ← ih]
    exact h1
theorem and255 (x : UInt8) : x &&& 255 = x := by
  apply UInt8.toNat_inj.1
  rw [UInt8.toNat_and, show (255 : UInt8).toNat = 2 ^ 8 - 1 from rfl, Nat.and_two_pow_sub_one_eq_mod, Nat.mod_eq_of_lt (UInt8.toNat_lt x)]
theorem clamped_low (K : List UInt8) (h : K.length = 32) : (clamped K).take 8 = List.zipWith (· &&& ·) ((K.drop 0).take 8) mask0 := by
  apply List.ext_getElem (by simp [h, mask0])
  intro j h1 h2
  have hj : j < 8 := by simp at h1; omega
  rw [List.getElem_take, clamped_get K j (by omega) (by omega), List.getElem_zipWith, List.getElem_take, List.getElem_drop]
  rcases (show j = 0 ∨ j = 1 ∨ j = 2 ∨ j = 3 ∨ j = 4 ∨ j = 5 ∨ j = 6 ∨ j = 7 by omega) with rfl | rfl | rfl | rfl | rfl | rfl | rfl | rfl <;> simp [clampB, mask0, and255]
theorem clamped_high (K : List UInt8) (h : K.length = 32) : (clamped K).drop 8 = List.zipWith (· &&& ·) ((K.drop 8).take 8) mask1 := by
  apply List.ext_getElem (by simp [h, mask1])
  intro j h1 h2
  have hj : j < 8 := by simp at h1; omega
  rw [List.getElem_drop, clamped_get K (8 + j) (by omega) (by omega), List.getElem_zipWith, List.getElem_take, List.getElem_drop]
  rcases (show j = 0 ∨ j = 1 ∨ j = 2 ∨ j = 3 ∨ j = 4 ∨ j = 5 ∨ j = 6 ∨ j = 7 by omega) with rfl | rfl | rfl | rfl | rfl | rfl | rfl | rfl <;> simp [clampB, mask1, and255]
/-- A word of a list. -/
def wd (K : List UInt8) (i : Nat) : Nat := Lib.leNat ((K.drop i).take 8)
theorem wd_lt (K : List UInt8) (i : Nat) : wd K i < 18446744073709551616 := by
  have h := leNat_lt ((K.drop i).take 8)
  have h2 : 256 ^ ((K.drop i).take 8).length ≤ 256 ^ 8 := Nat.pow_le_pow_right (by decide) (by simp; omega)
  have h3 : (256 : Nat) ^ 8 = 18446744073709551616 := by decide
  unfold wd; omega
theorem rN_words (K : List UInt8) (h : K.length = 32) : rN K = (wd K 0 &&& 1152921487695413247) + 18446744073709551616 * (wd K 8 &&& 1152921487695413244) := by
  have e0 : (1152921487695413247 : Nat) = Lib.leNat mask0 := by decide
  have e1 : (1152921487695413244 : Nat) = Lib.leNat mask1 := by decide
  unfold wd
  rw [e0, e1, leNat_and _ _ (by simp [h, mask0]), leNat_and _ _ (by simp [h, mask1]), ← clamped_low K h, ← clamped_high K h]
  have hs : clamped K = (clamped K).take 8 ++ (clamped K).drop 8 := (List.take_append_drop 8 _).symm
  unfold rN
  conv => lhs; rw [hs, Lib.leNat_append]
  rw [List.length_take, clamped_length, show 256 ^ min 8 16 = 18446744073709551616 from by decide]
theorem sN_words (K : List UInt8) (h : K.length = 32) : sN K = wd K 16 + 18446744073709551616 * wd K 24 := by
  have hs : (K.drop 16).take 16 = (K.drop 16).take 8 ++ (K.drop 24).take 8 := by
    rw [show (16 : Nat) = 8 + 8 from rfl, List.take_add, List.drop_drop]
  unfold sN wd
  rw [hs, Lib.leNat_append, List.length_take, List.length_drop, Nat.min_eq_left (by omega), show 256 ^ 8 = 18446744073709551616 from by decide]
theorem and_lt60 (x m : Nat) (hm : m < 1152921504606846976) : x &&& m < 1152921504606846976 := Nat.lt_of_le_of_lt Nat.and_le_right hm
/-- The state's cells, with the key's second half. -/
def stK (hh r0 r1 s0 s1 : Nat) (rest : List Value) : List Value := stC hh r0 r1 (.int .u64 (s0 : Int) :: .int .u64 (s1 : Int) :: rest)

set_option maxRecDepth 100000 in
set_option maxHeartbeats 8000000 in
theorem initialize_any (w : World) (g gk : Nat) (t tk : TypeId) (ky : List UInt8) (hK : ky.length = 32) (rest : List Value) (hS : Arr w g t (stK 0 0 0 0 0 rest)) (hA : Arr w gk tk (u8s ky)) (hne : gk ≠ g) :
    Calls Tryd.prog 71 #[.pointer (some ⟨gk, 0, none⟩), .pointer (some ⟨g, 0, none⟩)] w fun e w' => e = .returned (.tuple #[]) ∧ Arr w' g t (stK 0 (wd ky 0 &&& 1152921487695413247) (wd ky 8 &&& 1152921487695413244) (wd ky 16) (wd ky 24) rest) ∧ w.grownBy w' (some g) := by
  obtain ⟨n, hn⟩ : ∃ n, n = 7 + rest.length := ⟨_, rfl⟩
  have h7 : 7 ≤ n := by omega
  have hk := hA.range
  obtain ⟨x0, h_x0⟩ : ∃ x, x = wd ky 0 := ⟨_, rfl⟩
  have l_x0 : x0 < 18446744073709551616 := by rw [h_x0]; exact wd_lt _ _
  rw [← h_x0]
  have H_x0 := Lib.hid h_x0.symm
  clear h_x0
  obtain ⟨x1, h_x1⟩ : ∃ x, x = wd ky 8 := ⟨_, rfl⟩
  have l_x1 : x1 < 18446744073709551616 := by rw [h_x1]; exact wd_lt _ _
  rw [← h_x1]
  have H_x1 := Lib.hid h_x1.symm
  clear h_x1
  obtain ⟨x2, h_x2⟩ : ∃ x, x = wd ky 16 := ⟨_, rfl⟩
  have l_x2 : x2 < 18446744073709551616 := by rw [h_x2]; exact wd_lt _ _
  rw [← h_x2]
  have H_x2 := Lib.hid h_x2.symm
  clear h_x2
  obtain ⟨x3, h_x3⟩ : ∃ x, x = wd ky 24 := ⟨_, rfl⟩
  have l_x3 : x3 < 18446744073709551616 := by rw [h_x3]; exact wd_lt _ _
  rw [← h_x3]
  have H_x3 := Lib.hid h_x3.symm
  clear h_x3
  obtain ⟨y0, hy0⟩ : ∃ y, y = x0 &&& 1152921487695413247 := ⟨_, rfl⟩
  obtain ⟨y1, hy1⟩ : ∃ y, y = x1 &&& 1152921487695413244 := ⟨_, rfl⟩
  have b0 : bits .and .u64 (x0 : Int) 1152921487695413247 = (y0 : Int) := by rw [hy0]; exact u64_and_nat x0 1152921487695413247 l_x0 (by decide)
  have b1 : bits .and .u64 (x1 : Int) 1152921487695413244 = (y1 : Int) := by rw [hy1]; exact u64_and_nat x1 1152921487695413244 l_x1 (by decide)
  rw [← hy0, ← hy1]
  clear hy0 hy1
  go_enter Tryd.func71, Tryd.ntmps71
  go_wp2_with fail
  have hg := World.grownBy.refl w (some g)
  refine wp_region_held_drew (S := fun w' => GH w w' g n t) (by kernel_rfl) (GH.start hS (by simp [stK, stC]; omega)) (fun hH => ?_)
  refine wpAnyH_take (i := 0) (v := ?_) rfl (by kernel_rfl) (by kernel_rfl) (by kernel_rfl) (fun _ _ _ h => h) (Or.inl ⟨by rfl, fun w' hSw => by go_simp; with_reducible rfl⟩) hH ?_
  simp only [Act.put, List.getElem_toArray, List.getElem_cons_succ, List.getElem_cons_zero, List.setIfInBounds_toArray, List.set_cons_zero, List.set_cons_succ]
  refine wpAnyH_take (i := 1) (v := ?_) rfl (by kernel_rfl) (by kernel_rfl) (by kernel_rfl) (fun _ _ _ h => h) (Or.inl ⟨by rfl, fun w' hSw => by go_simp; with_reducible rfl⟩) hH ?_
  simp only [Act.put, List.getElem_toArray, List.getElem_cons_succ, List.getElem_cons_zero, List.setIfInBounds_toArray, List.set_cons_zero, List.set_cons_succ]
  refine wpAnyH_take (i := 2) (v := ?_) rfl (by kernel_rfl) (by kernel_rfl) (by kernel_rfl) (fun _ _ _ h => h) (Or.inl ⟨by rfl, fun w' hSw => by go_simp; with_reducible rfl⟩) hH ?_
  simp only [Act.put, List.getElem_toArray, List.getElem_cons_succ, List.getElem_cons_zero, List.setIfInBounds_toArray, List.set_cons_zero, List.set_cons_succ]
  refine wpAnyH_take (i := 3) (v := ?_) rfl (by kernel_rfl) (by kernel_rfl) (by kernel_rfl) (fun _ _ _ h => h) (Or.inl ⟨by rfl, fun w' hSw => by go_simp; with_reducible rfl⟩) hH ?_
  simp only [Act.put, List.getElem_toArray, List.getElem_cons_succ, List.getElem_cons_zero, List.setIfInBounds_toArray, List.set_cons_zero, List.set_cons_succ]
  refine wpAnyH_take (i := 4) (v := ?_) rfl (by kernel_rfl) (by kernel_rfl) (by kernel_rfl) (fun _ _ _ h => h) (Or.inl ⟨by rfl, fun w' hSw => by go_simp; with_reducible rfl⟩) hH ?_
  simp only [Act.put, List.getElem_toArray, List.getElem_cons_succ, List.getElem_cons_zero, List.setIfInBounds_toArray, List.set_cons_zero, List.set_cons_succ]
  refine wpAnyH_take (i := 7) (v := ?_) rfl (by kernel_rfl) (by kernel_rfl) (by kernel_rfl) (fun _ _ _ h => h) (Or.inl ⟨by rfl, fun w' hSw => by go_simp; with_reducible rfl⟩) hH ?_
  simp only [Act.put, List.getElem_toArray, List.getElem_cons_succ, List.getElem_cons_zero, List.setIfInBounds_toArray, List.set_cons_zero, List.set_cons_succ]
  refine wpAnyH_take (i := 8) (v := ?_) rfl (by kernel_rfl) (by kernel_rfl) (by kernel_rfl) (fun _ _ _ h => h) (Or.inl ⟨by rfl, fun w' hSw => by go_simp; with_reducible rfl⟩) hH ?_
  simp only [Act.put, List.getElem_toArray, List.getElem_cons_succ, List.getElem_cons_zero, List.setIfInBounds_toArray, List.set_cons_zero, List.set_cons_succ]
  refine wpAnyH_ready (rs := [5]) (by kernel_rfl) (by simp) ?_
  refine AllReadyH.cons rfl (fun K hK => ?_) AllReadyH.nil
  try simp only [List.getElem_toArray, List.getElem_cons_succ, List.getElem_cons_zero]
  go_simp
  go_at_call 78
  refine (leU_at _ gk 0 ky (hH.range hk hne) 0 _ _ (by omega) (by omega)).mono ?_
  rintro e v0 ⟨rfl, hb_v0⟩
  rw [show Lib.leNat ((ky.drop 0).take 8) = x0 from H_x0.out]
  refine hK.out _ _ (hH.call hb_v0) (fun hH => ?_)
  clear hK K
  try simp only [Act.put, List.getElem_toArray, List.getElem_cons_succ, List.getElem_cons_zero, List.setIfInBounds_toArray, List.set_cons_zero, List.set_cons_succ]
  refine wpAnyH_take (i := 6) (v := ?_) rfl (by kernel_rfl) (by kernel_rfl) (by kernel_rfl) (fun _ _ _ h => h) (Or.inl ⟨by rfl, fun w' hSw => by go_simp; with_reducible rfl⟩) hH ?_
  simp only [Act.put, List.getElem_toArray, List.getElem_cons_succ, List.getElem_cons_zero, List.setIfInBounds_toArray, List.set_cons_zero, List.set_cons_succ]
  refine wpAnyH_take (i := 9) (v := ?_) rfl (by kernel_rfl) (by kernel_rfl) (by kernel_rfl) (fun _ _ _ h => h) (Or.inl ⟨by rfl, fun w' hSw => by go_simp; with_reducible rfl⟩) hH ?_
  simp only [Act.put, List.getElem_toArray, List.getElem_cons_succ, List.getElem_cons_zero, List.setIfInBounds_toArray, List.set_cons_zero, List.set_cons_succ]
  refine wpAnyH_ready (rs := [10]) (by kernel_rfl) (by simp) ?_
  refine AllReadyH.cons rfl (fun K hK => ?_) AllReadyH.nil
  try simp only [List.getElem_toArray, List.getElem_cons_succ, List.getElem_cons_zero]
  have hAv := Arr.below (show Arr w.drew g t _ from hS) hb_v0
  have fk := hAv.fr 3
  have ck := hAv.cell 3 (by simp [stK, stC])
  simp only [stK, stC, List.getElem_cons_succ, List.getElem_cons_zero] at ck
  go_simp
  refine hK.out _ _ (hH.cell 3 _ (by omega)) (fun hH => ?_)
  clear hK K
  refine wpAnyH_done (by kernel_rfl) ?_ _
  have hA0 := Arr.set (Arr.below (show Arr w.drew g t _ from hS) hb_v0) 3 (.int .u64 (y0 : Int)) (by simp [stK, stC])
  simp only [stK, stC, List.set_cons_zero, List.set_cons_succ] at hA0
  have hg := grown_set0 (grown_below_trans (grown_drewN hg 1) hb_v0) 3 (.int .u64 (y0 : Int))
  have hk0 := range_kept hk hH.g hne
  obtain ⟨w0, hw0⟩ : ∃ x, x = v0.setCell ⟨g, 3, none⟩ (.int .u64 (y0 : Int)) := ⟨_, rfl⟩
  rw [← hw0] at hA0 hg hk0 hH ⊢
  have hA0 : Arr w0 g t (stK 0 y0 0 0 0 rest) := hA0
  clear hw0 hb_v0 hH
  go_wp2_with fail
  refine wp_region_held_drew (S := fun w' => GH w0 w' g n t) (by kernel_rfl) (GH.start hA0 (by simp [stK, stC]; omega)) (fun hH => ?_)
  refine wpAnyH_take (i := 0) (v := ?_) rfl (by kernel_rfl) (by kernel_rfl) (by kernel_rfl) (fun _ _ _ h => h) (Or.inl ⟨by rfl, fun w' hSw => by go_simp; with_reducible rfl⟩) hH ?_
  simp only [Act.put, List.getElem_toArray, List.getElem_cons_succ, List.getElem_cons_zero, List.setIfInBounds_toArray, List.set_cons_zero, List.set_cons_succ]
  refine wpAnyH_take (i := 1) (v := ?_) rfl (by kernel_rfl) (by kernel_rfl) (by kernel_rfl) (fun _ _ _ h => h) (Or.inl ⟨by rfl, fun w' hSw => by go_simp; with_reducible rfl⟩) hH ?_
  simp only [Act.put, List.getElem_toArray, List.getElem_cons_succ, List.getElem_cons_zero, List.setIfInBounds_toArray, List.set_cons_zero, List.set_cons_succ]
  refine wpAnyH_take (i := 2) (v := ?_) rfl (by kernel_rfl) (by kernel_rfl) (by kernel_rfl) (fun _ _ _ h => h) (Or.inl ⟨by rfl, fun w' hSw => by go_simp; with_reducible rfl⟩) hH ?_
  simp only [Act.put, List.getElem_toArray, List.getElem_cons_succ, List.getElem_cons_zero, List.setIfInBounds_toArray, List.set_cons_zero, List.set_cons_succ]
  refine wpAnyH_take (i := 3) (v := ?_) rfl (by kernel_rfl) (by kernel_rfl) (by kernel_rfl) (fun _ _ _ h => h) (Or.inl ⟨by rfl, fun w' hSw => by go_simp; with_reducible rfl⟩) hH ?_
  simp only [Act.put, List.getElem_toArray, List.getElem_cons_succ, List.getElem_cons_zero, List.setIfInBounds_toArray, List.set_cons_zero, List.set_cons_succ]
  refine wpAnyH_take (i := 4) (v := ?_) rfl (by kernel_rfl) (by kernel_rfl) (by kernel_rfl) (fun _ _ _ h => h) (Or.inl ⟨by rfl, fun w' hSw => by go_simp; with_reducible rfl⟩) hH ?_
  simp only [Act.put, List.getElem_toArray, List.getElem_cons_succ, List.getElem_cons_zero, List.setIfInBounds_toArray, List.set_cons_zero, List.set_cons_succ]
  refine wpAnyH_take (i := 7) (v := ?_) rfl (by kernel_rfl) (by kernel_rfl) (by kernel_rfl) (fun _ _ _ h => h) (Or.inl ⟨by rfl, fun w' hSw => by go_simp; with_reducible rfl⟩) hH ?_
  simp only [Act.put, List.getElem_toArray, List.getElem_cons_succ, List.getElem_cons_zero, List.setIfInBounds_toArray, List.set_cons_zero, List.set_cons_succ]
  refine wpAnyH_take (i := 8) (v := ?_) rfl (by kernel_rfl) (by kernel_rfl) (by kernel_rfl) (fun _ _ _ h => h) (Or.inl ⟨by rfl, fun w' hSw => by go_simp; with_reducible rfl⟩) hH ?_
  simp only [Act.put, List.getElem_toArray, List.getElem_cons_succ, List.getElem_cons_zero, List.setIfInBounds_toArray, List.set_cons_zero, List.set_cons_succ]
  refine wpAnyH_ready (rs := [5]) (by kernel_rfl) (by simp) ?_
  refine AllReadyH.cons rfl (fun K hK => ?_) AllReadyH.nil
  try simp only [List.getElem_toArray, List.getElem_cons_succ, List.getElem_cons_zero]
  go_simp
  go_at_call 78
  refine (leU_at _ gk 0 ky (hH.range hk0 hne) 8 _ _ (by omega) (by omega)).mono ?_
  rintro e v1 ⟨rfl, hb_v1⟩
  rw [show Lib.leNat ((ky.drop 8).take 8) = x1 from H_x1.out]
  refine hK.out _ _ (hH.call hb_v1) (fun hH => ?_)
  clear hK K
  try simp only [Act.put, List.getElem_toArray, List.getElem_cons_succ, List.getElem_cons_zero, List.setIfInBounds_toArray, List.set_cons_zero, List.set_cons_succ]
  refine wpAnyH_take (i := 6) (v := ?_) rfl (by kernel_rfl) (by kernel_rfl) (by kernel_rfl) (fun _ _ _ h => h) (Or.inl ⟨by rfl, fun w' hSw => by go_simp; with_reducible rfl⟩) hH ?_
  simp only [Act.put, List.getElem_toArray, List.getElem_cons_succ, List.getElem_cons_zero, List.setIfInBounds_toArray, List.set_cons_zero, List.set_cons_succ]
  refine wpAnyH_take (i := 9) (v := ?_) rfl (by kernel_rfl) (by kernel_rfl) (by kernel_rfl) (fun _ _ _ h => h) (Or.inl ⟨by rfl, fun w' hSw => by go_simp; with_reducible rfl⟩) hH ?_
  simp only [Act.put, List.getElem_toArray, List.getElem_cons_succ, List.getElem_cons_zero, List.setIfInBounds_toArray, List.set_cons_zero, List.set_cons_succ]
  refine wpAnyH_ready (rs := [10]) (by kernel_rfl) (by simp) ?_
  refine AllReadyH.cons rfl (fun K hK => ?_) AllReadyH.nil
  try simp only [List.getElem_toArray, List.getElem_cons_succ, List.getElem_cons_zero]
  have hAv := Arr.below (show Arr w0.drew g t _ from hA0) hb_v1
  have fk := hAv.fr 4
  have ck := hAv.cell 4 (by simp [stK, stC])
  simp only [stK, stC, List.getElem_cons_succ, List.getElem_cons_zero] at ck
  go_simp
  refine hK.out _ _ (hH.cell 4 _ (by omega)) (fun hH => ?_)
  clear hK K
  refine wpAnyH_done (by kernel_rfl) ?_ _
  have hA1 := Arr.set (Arr.below (show Arr w0.drew g t _ from hA0) hb_v1) 4 (.int .u64 (y1 : Int)) (by simp [stK, stC])
  simp only [stK, stC, List.set_cons_zero, List.set_cons_succ] at hA1
  have hg := grown_set0 (grown_below_trans (grown_drewN hg 1) hb_v1) 4 (.int .u64 (y1 : Int))
  have hk1 := range_kept hk0 hH.g hne
  obtain ⟨w1, hw1⟩ : ∃ x, x = v1.setCell ⟨g, 4, none⟩ (.int .u64 (y1 : Int)) := ⟨_, rfl⟩
  rw [← hw1] at hA1 hg hk1 hH ⊢
  have hA1 : Arr w1 g t (stK 0 y0 y1 0 0 rest) := hA1
  clear hw1 hb_v1 hH
  go_wp2_with fail
  refine wp_region_held_drew (S := fun w' => GH w1 w' g n t) (by kernel_rfl) (GH.start hA1 (by simp [stK, stC]; omega)) (fun hH => ?_)
  refine wpAnyH_take (i := 0) (v := ?_) rfl (by kernel_rfl) (by kernel_rfl) (by kernel_rfl) (fun _ _ _ h => h) (Or.inl ⟨by rfl, fun w' hSw => by go_simp; with_reducible rfl⟩) hH ?_
  simp only [Act.put, List.getElem_toArray, List.getElem_cons_succ, List.getElem_cons_zero, List.setIfInBounds_toArray, List.set_cons_zero, List.set_cons_succ]
  refine wpAnyH_take (i := 1) (v := ?_) rfl (by kernel_rfl) (by kernel_rfl) (by kernel_rfl) (fun _ _ _ h => h) (Or.inl ⟨by rfl, fun w' hSw => by go_simp; with_reducible rfl⟩) hH ?_
  simp only [Act.put, List.getElem_toArray, List.getElem_cons_succ, List.getElem_cons_zero, List.setIfInBounds_toArray, List.set_cons_zero, List.set_cons_succ]
  refine wpAnyH_take (i := 2) (v := ?_) rfl (by kernel_rfl) (by kernel_rfl) (by kernel_rfl) (fun _ _ _ h => h) (Or.inl ⟨by rfl, fun w' hSw => by go_simp; with_reducible rfl⟩) hH ?_
  simp only [Act.put, List.getElem_toArray, List.getElem_cons_succ, List.getElem_cons_zero, List.setIfInBounds_toArray, List.set_cons_zero, List.set_cons_succ]
  refine wpAnyH_take (i := 3) (v := ?_) rfl (by kernel_rfl) (by kernel_rfl) (by kernel_rfl) (fun _ _ _ h => h) (Or.inl ⟨by rfl, fun w' hSw => by go_simp; with_reducible rfl⟩) hH ?_
  simp only [Act.put, List.getElem_toArray, List.getElem_cons_succ, List.getElem_cons_zero, List.setIfInBounds_toArray, List.set_cons_zero, List.set_cons_succ]
  refine wpAnyH_take (i := 4) (v := ?_) rfl (by kernel_rfl) (by kernel_rfl) (by kernel_rfl) (fun _ _ _ h => h) (Or.inl ⟨by rfl, fun w' hSw => by go_simp; with_reducible rfl⟩) hH ?_
  simp only [Act.put, List.getElem_toArray, List.getElem_cons_succ, List.getElem_cons_zero, List.setIfInBounds_toArray, List.set_cons_zero, List.set_cons_succ]
  refine wpAnyH_take (i := 6) (v := ?_) rfl (by kernel_rfl) (by kernel_rfl) (by kernel_rfl) (fun _ _ _ h => h) (Or.inl ⟨by rfl, fun w' hSw => by go_simp; with_reducible rfl⟩) hH ?_
  simp only [Act.put, List.getElem_toArray, List.getElem_cons_succ, List.getElem_cons_zero, List.setIfInBounds_toArray, List.set_cons_zero, List.set_cons_succ]
  refine wpAnyH_take (i := 7) (v := ?_) rfl (by kernel_rfl) (by kernel_rfl) (by kernel_rfl) (fun _ _ _ h => h) (Or.inl ⟨by rfl, fun w' hSw => by go_simp; with_reducible rfl⟩) hH ?_
  simp only [Act.put, List.getElem_toArray, List.getElem_cons_succ, List.getElem_cons_zero, List.setIfInBounds_toArray, List.set_cons_zero, List.set_cons_succ]
  refine wpAnyH_ready (rs := [5]) (by kernel_rfl) (by simp) ?_
  refine AllReadyH.cons rfl (fun K hK => ?_) AllReadyH.nil
  try simp only [List.getElem_toArray, List.getElem_cons_succ, List.getElem_cons_zero]
  go_simp
  go_at_call 78
  refine (leU_at _ gk 0 ky (hH.range hk1 hne) 16 _ _ (by omega) (by omega)).mono ?_
  rintro e v2 ⟨rfl, hb_v2⟩
  rw [show Lib.leNat ((ky.drop 16).take 8) = x2 from H_x2.out]
  refine hK.out _ _ (hH.call hb_v2) (fun hH => ?_)
  clear hK K
  try simp only [Act.put, List.getElem_toArray, List.getElem_cons_succ, List.getElem_cons_zero, List.setIfInBounds_toArray, List.set_cons_zero, List.set_cons_succ]
  refine wpAnyH_take (i := 8) (v := ?_) rfl (by kernel_rfl) (by kernel_rfl) (by kernel_rfl) (fun _ _ _ h => h) (Or.inl ⟨by rfl, fun w' hSw => by go_simp; with_reducible rfl⟩) hH ?_
  simp only [Act.put, List.getElem_toArray, List.getElem_cons_succ, List.getElem_cons_zero, List.setIfInBounds_toArray, List.set_cons_zero, List.set_cons_succ]
  refine wpAnyH_ready (rs := [9]) (by kernel_rfl) (by simp) ?_
  refine AllReadyH.cons rfl (fun K hK => ?_) AllReadyH.nil
  try simp only [List.getElem_toArray, List.getElem_cons_succ, List.getElem_cons_zero]
  have hAv := Arr.below (show Arr w1.drew g t _ from hA1) hb_v2
  have fk := hAv.fr 5
  have ck := hAv.cell 5 (by simp [stK, stC])
  simp only [stK, stC, List.getElem_cons_succ, List.getElem_cons_zero] at ck
  go_simp
  refine hK.out _ _ (hH.cell 5 _ (by omega)) (fun hH => ?_)
  clear hK K
  refine wpAnyH_done (by kernel_rfl) ?_ _
  have hA2 := Arr.set (Arr.below (show Arr w1.drew g t _ from hA1) hb_v2) 5 (.int .u64 (x2 : Int)) (by simp [stK, stC])
  simp only [stK, stC, List.set_cons_zero, List.set_cons_succ] at hA2
  have hg := grown_set0 (grown_below_trans (grown_drewN hg 1) hb_v2) 5 (.int .u64 (x2 : Int))
  have hk2 := range_kept hk1 hH.g hne
  obtain ⟨w2, hw2⟩ : ∃ x, x = v2.setCell ⟨g, 5, none⟩ (.int .u64 (x2 : Int)) := ⟨_, rfl⟩
  rw [← hw2] at hA2 hg hk2 hH ⊢
  have hA2 : Arr w2 g t (stK 0 y0 y1 x2 0 rest) := hA2
  clear hw2 hb_v2 hH
  go_wp2_with fail
  refine wp_region_held_drew (S := fun w' => GH w2 w' g n t) (by kernel_rfl) (GH.start hA2 (by simp [stK, stC]; omega)) (fun hH => ?_)
  refine wpAnyH_take (i := 0) (v := ?_) rfl (by kernel_rfl) (by kernel_rfl) (by kernel_rfl) (fun _ _ _ h => h) (Or.inl ⟨by rfl, fun w' hSw => by go_simp; with_reducible rfl⟩) hH ?_
  simp only [Act.put, List.getElem_toArray, List.getElem_cons_succ, List.getElem_cons_zero, List.setIfInBounds_toArray, List.set_cons_zero, List.set_cons_succ]
  refine wpAnyH_take (i := 1) (v := ?_) rfl (by kernel_rfl) (by kernel_rfl) (by kernel_rfl) (fun _ _ _ h => h) (Or.inl ⟨by rfl, fun w' hSw => by go_simp; with_reducible rfl⟩) hH ?_
  simp only [Act.put, List.getElem_toArray, List.getElem_cons_succ, List.getElem_cons_zero, List.setIfInBounds_toArray, List.set_cons_zero, List.set_cons_succ]
  refine wpAnyH_take (i := 2) (v := ?_) rfl (by kernel_rfl) (by kernel_rfl) (by kernel_rfl) (fun _ _ _ h => h) (Or.inl ⟨by rfl, fun w' hSw => by go_simp; with_reducible rfl⟩) hH ?_
  simp only [Act.put, List.getElem_toArray, List.getElem_cons_succ, List.getElem_cons_zero, List.setIfInBounds_toArray, List.set_cons_zero, List.set_cons_succ]
  refine wpAnyH_take (i := 3) (v := ?_) rfl (by kernel_rfl) (by kernel_rfl) (by kernel_rfl) (fun _ _ _ h => h) (Or.inl ⟨by rfl, fun w' hSw => by go_simp; with_reducible rfl⟩) hH ?_
  simp only [Act.put, List.getElem_toArray, List.getElem_cons_succ, List.getElem_cons_zero, List.setIfInBounds_toArray, List.set_cons_zero, List.set_cons_succ]
  refine wpAnyH_take (i := 4) (v := ?_) rfl (by kernel_rfl) (by kernel_rfl) (by kernel_rfl) (fun _ _ _ h => h) (Or.inl ⟨by rfl, fun w' hSw => by go_simp; with_reducible rfl⟩) hH ?_
  simp only [Act.put, List.getElem_toArray, List.getElem_cons_succ, List.getElem_cons_zero, List.setIfInBounds_toArray, List.set_cons_zero, List.set_cons_succ]
  refine wpAnyH_take (i := 6) (v := ?_) rfl (by kernel_rfl) (by kernel_rfl) (by kernel_rfl) (fun _ _ _ h => h) (Or.inl ⟨by rfl, fun w' hSw => by go_simp; with_reducible rfl⟩) hH ?_
  simp only [Act.put, List.getElem_toArray, List.getElem_cons_succ, List.getElem_cons_zero, List.setIfInBounds_toArray, List.set_cons_zero, List.set_cons_succ]
  refine wpAnyH_take (i := 7) (v := ?_) rfl (by kernel_rfl) (by kernel_rfl) (by kernel_rfl) (fun _ _ _ h => h) (Or.inl ⟨by rfl, fun w' hSw => by go_simp; with_reducible rfl⟩) hH ?_
  simp only [Act.put, List.getElem_toArray, List.getElem_cons_succ, List.getElem_cons_zero, List.setIfInBounds_toArray, List.set_cons_zero, List.set_cons_succ]
  refine wpAnyH_ready (rs := [5]) (by kernel_rfl) (by simp) ?_
  refine AllReadyH.cons rfl (fun K hK => ?_) AllReadyH.nil
  try simp only [List.getElem_toArray, List.getElem_cons_succ, List.getElem_cons_zero]
  go_simp
  go_at_call 78
  refine (leU_at _ gk 0 ky (hH.range hk2 hne) 24 _ _ (by omega) (by omega)).mono ?_
  rintro e v3 ⟨rfl, hb_v3⟩
  rw [show Lib.leNat ((ky.drop 24).take 8) = x3 from H_x3.out]
  refine hK.out _ _ (hH.call hb_v3) (fun hH => ?_)
  clear hK K
  try simp only [Act.put, List.getElem_toArray, List.getElem_cons_succ, List.getElem_cons_zero, List.setIfInBounds_toArray, List.set_cons_zero, List.set_cons_succ]
  refine wpAnyH_take (i := 8) (v := ?_) rfl (by kernel_rfl) (by kernel_rfl) (by kernel_rfl) (fun _ _ _ h => h) (Or.inl ⟨by rfl, fun w' hSw => by go_simp; with_reducible rfl⟩) hH ?_
  simp only [Act.put, List.getElem_toArray, List.getElem_cons_succ, List.getElem_cons_zero, List.setIfInBounds_toArray, List.set_cons_zero, List.set_cons_succ]
  refine wpAnyH_ready (rs := [9]) (by kernel_rfl) (by simp) ?_
  refine AllReadyH.cons rfl (fun K hK => ?_) AllReadyH.nil
  try simp only [List.getElem_toArray, List.getElem_cons_succ, List.getElem_cons_zero]
  have hAv := Arr.below (show Arr w2.drew g t _ from hA2) hb_v3
  have fk := hAv.fr 6
  have ck := hAv.cell 6 (by simp [stK, stC])
  simp only [stK, stC, List.getElem_cons_succ, List.getElem_cons_zero] at ck
  go_simp
  refine hK.out _ _ (hH.cell 6 _ (by omega)) (fun hH => ?_)
  clear hK K
  refine wpAnyH_done (by kernel_rfl) ?_ _
  have hA3 := Arr.set (Arr.below (show Arr w2.drew g t _ from hA2) hb_v3) 6 (.int .u64 (x3 : Int)) (by simp [stK, stC])
  simp only [stK, stC, List.set_cons_zero, List.set_cons_succ] at hA3
  have hg := grown_set0 (grown_below_trans (grown_drewN hg 1) hb_v3) 6 (.int .u64 (x3 : Int))
  have hk3 := range_kept hk2 hH.g hne
  obtain ⟨w3, hw3⟩ : ∃ x, x = v3.setCell ⟨g, 6, none⟩ (.int .u64 (x3 : Int)) := ⟨_, rfl⟩
  rw [← hw3] at hA3 hg hk3 hH ⊢
  have hA3 : Arr w3 g t (stK 0 y0 y1 x2 x3 rest) := hA3
  clear hw3 hb_v3 hH
  go_wp2_with fail
  go_end0
  exact ⟨rfl, hA3, hg⟩
end Go.Proofs.YtkocgogpbammaaaDoor

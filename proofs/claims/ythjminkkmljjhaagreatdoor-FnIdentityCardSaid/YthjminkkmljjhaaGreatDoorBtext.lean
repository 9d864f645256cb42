/- What spec.Bech32 writes, as lists: the digits of the data part and the text. Plain; no conditions. -/
import Derived.Test.YthjminkkmljjhaaGreatDoorBdec
namespace Go.Proofs.YthjminkkmljjhaaGreatDoor
open Go.RowKit

def ltr (d : UInt8) : UInt8 := letters.getD d.toNat 0
def sum6 (n b : List UInt8) : List UInt8 := six8 (Bp.pm 1 (sumOver n (fives8 b) ++ [0, 0, 0, 0, 0, 0]) ^^^ 1)
def digits (n b : List UInt8) : List UInt8 := fives8 b ++ sum6 n b
def text (n b : List UInt8) : List UInt8 := n ++ 49 :: (digits n b).map ltr

theorem fives8_nat (l : List UInt8) : (fives8 l).map UInt8.toNat = Bp.fives (l.map UInt8.toNat) := by
  unfold fives8 Bp.fives
  rw [List.map_map, List.length_map]
  apply List.map_congr_left
  intro j _
  have := Bp.five_lt (l.map UInt8.toNat) j
  simp only [Function.comp, five8, UInt8.toNat_ofNat']
  omega

theorem six8_nat (m : Nat) : (six8 m).map UInt8.toNat = Bp.sixOf m := by
  unfold six8
  rw [List.map_map]
  conv => rhs; rw [← List.map_id (Bp.sixOf m)]
  apply List.map_congr_left
  intro x hx
  have := Bp.sixOf_lt m x hx
  simp only [Function.comp, UInt8.toNat_ofNat', id]
  omega

theorem sum6_length (n b : List UInt8) : (sum6 n b).length = 6 := rfl
theorem digits_length (n b : List UInt8) : (digits n b).length = Bp.fiveCount b.length + 6 := by
  unfold digits; rw [List.length_append, fives8_length]; rfl
theorem text_length (n b : List UInt8) : (text n b).length = n.length + Bp.fiveCount b.length + 7 := by
  unfold text; rw [List.length_append, List.length_cons, List.length_map, digits_length]; omega

theorem digits_lt (n b : List UInt8) : ∀ d ∈ digits n b, d.toNat < 32 := by
  intro d hd
  have : d.toNat ∈ (digits n b).map UInt8.toNat := List.mem_map_of_mem hd
  unfold digits sum6 at this
  rw [List.map_append, fives8_nat, six8_nat, List.mem_append] at this
  rcases this with h | h
  · exact Bp.fives_lt _ _ h
  · exact Bp.sixOf_lt _ _ h

/-- The whole sum over what is written is one. -/
theorem pm_digits (n b : List UInt8) : Bp.pm 1 (sumOver n (digits n b)) = 1 := by
  have h := Bp.pm_check 1 (sumOver n (fives8 b)) (by decide) (sumOver_lt _ _)
  have e : sumOver n (digits n b) = sumOver n (fives8 b) ++ Bp.sixOf (Bp.pm 1 (sumOver n (fives8 b) ++ [0, 0, 0, 0, 0, 0]) ^^^ 1) := by
    unfold sumOver digits sum6
    rw [List.map_append, six8_nat, ← List.append_assoc]
    rfl
  rw [e, h]

theorem ltr_tab : ∀ d : Fin 32, ixOf letters (low (ltr (UInt8.ofNat d.1))) = (d.1 : Int) ∧ ltr (UInt8.ofNat d.1) ≠ 49 ∧ (ltr (UInt8.ofNat d.1)).toNat < 128 ∧ ¬ (65 ≤ (ltr (UInt8.ofNat d.1)).toNat ∧ (ltr (UInt8.ofNat d.1)).toNat ≤ 90) := by decide
theorem ltr_at (d : UInt8) (h : d.toNat < 32) : ixOf letters (low (ltr d)) = (d.toNat : Int) ∧ ltr d ≠ 49 ∧ (ltr d).toNat < 128 ∧ ¬ (65 ≤ (ltr d).toNat ∧ (ltr d).toNat ≤ 90) := by
  have := ltr_tab ⟨d.toNat, h⟩
  simpa using this
theorem letter_at (d : UInt8) (h : d.toNat < letters.length) : letters[d.toNat] = ltr d := by
  unfold ltr
  rw [List.getD_eq_getElem?_getD, List.getElem?_eq_getElem h]; rfl
theorem six_at (M k : Nat) (hk : k < 6) (hM : M < 1073741824) : ∃ (x : Nat) (d : UInt8), x < 32 ∧ bits BinOp.and IntKind.i64 ((M : Int) / (2 : Int) ^ (5 * (5 - k))) 31 = (x : Int) ∧ (six8 M)[k]? = some d ∧ d.toNat = x := by
  have h1 : k < ((six8 M).map UInt8.toNat).length := by rw [six8_nat]; exact hk
  have h1' : k < (six8 M).length := by simpa using h1
  refine ⟨(six8 M)[k].toNat, (six8 M)[k], ?_, ?_, List.getElem?_eq_getElem h1', rfl⟩
  · have h2 : (six8 M)[k].toNat ∈ (six8 M).map UInt8.toNat := List.mem_map_of_mem (List.getElem_mem h1')
    rw [six8_nat] at h2
    exact Bp.sixOf_lt _ _ h2
  · have h2 : (six8 M)[k].toNat = M / 2 ^ (5 * (5 - k)) % 32 := by
      have h3 : ((six8 M).map UInt8.toNat)[k]? = some (six8 M)[k].toNat := by rw [List.getElem?_map, List.getElem?_eq_getElem h1']; rfl
      rw [six8_nat] at h3
      rcases (show k = 0 ∨ k = 1 ∨ k = 2 ∨ k = 3 ∨ k = 4 ∨ k = 5 by omega) with rfl | rfl | rfl | rfl | rfl | rfl <;> simp [Bp.sixOf] at h3 ⊢ <;> omega
    rw [h2, show (M : Int) / (2 : Int) ^ (5 * (5 - k)) = ((M / 2 ^ (5 * (5 - k)) : Nat) : Int) from by simp]
    have h4 : M / 2 ^ (5 * (5 - k)) ≤ M := Nat.div_le_self _ _
    rw [show (31 : Int) = ((31 : Nat) : Int) from rfl, i64_and_nat _ 31 (by omega) (by omega), Nat.and_two_pow_sub_one_eq_mod _ 5]
end Go.Proofs.YthjminkkmljjhaaGreatDoor

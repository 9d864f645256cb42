/- Numbers as digits of 16 bits, the lowest first. No program in sight. -/
import Derived.Test.YtkocgogpbammaaaDoorArr
set_option linter.unusedVariables false
set_option linter.unusedSimpArgs false
namespace Go.Proofs.YtkocgogpbammaaaDoor
open Go.RowKit

/-- The prime 2^255 - 19. -/
def pp : Nat := 57896044618658097711785492504343953926634992332820282019728792003956564819949
def addm (m n : Nat) : Nat := (m + n) % pp
def subm (m n : Nat) : Nat := (m + (pp - n % pp)) % pp
def mulm (m n : Nat) : Nat := m * n % pp
def valN : List Nat → Nat
  | [] => 0
  | d :: l => d + 65536 * valN l
def dig : Nat → Nat → List Nat
  | 0, _ => []
  | k + 1, n => n % 65536 :: dig k (n / 65536)
@[simp] theorem dig_length (k n : Nat) : (dig k n).length = k := by
  induction k generalizing n with
  | zero => rfl
  | succ k ih => simp [dig, ih]
theorem valN_append (a b : List Nat) : valN (a ++ b) = valN a + 65536 ^ a.length * valN b := by
  induction a with
  | nil => simp [valN]
  | cons d a ih => simp only [List.cons_append, valN, ih, List.length_cons, Nat.pow_succ]; grind
theorem valN_dig (k n : Nat) : valN (dig k n) = n % 65536 ^ k := by
  induction k generalizing n with
  | zero => simp [dig, valN, Nat.mod_one]
  | succ k ih =>
    simp only [dig, valN, ih, Nat.pow_succ]
    rw [Nat.mul_comm (65536 ^ k) 65536, Nat.mod_mul]
theorem dig_get (k n j : Nat) (h : j < (dig k n).length) : (dig k n)[j] = n / 65536 ^ j % 65536 := by
  induction k generalizing n j with
  | zero => simp [dig] at h
  | succ k ih =>
    cases j with
    | zero => simp [dig]
    | succ j =>
      simp only [dig, List.getElem_cons_succ]
      rw [ih (n / 65536) j (by simp [dig] at h ⊢; omega), Nat.div_div_eq_div_mul, Nat.pow_succ, Nat.mul_comm 65536]
theorem dig_snoc (k n : Nat) : dig (k + 1) n = dig k n ++ [n / 65536 ^ k % 65536] := by
  induction k generalizing n with
  | zero => simp [dig]
  | succ k ih =>
    rw [dig, ih (n / 65536)]
    simp only [dig, List.cons_append, Nat.div_div_eq_div_mul, Nat.pow_succ]
    rw [Nat.mul_comm 65536]
theorem dig_mod (k n m : Nat) : dig k (n + 65536 ^ k * m) = dig k n := by
  apply List.ext_getElem (by simp)
  intro j h1 h2
  have hj : j < k := by simpa using h1
  rw [dig_get, dig_get]
  obtain ⟨e, rfl⟩ : ∃ e, k = j + 1 + e := ⟨k - (j + 1), by omega⟩
  rw [show n + 65536 ^ (j + 1 + e) * m = n + 65536 ^ j * (65536 * (65536 ^ e * m)) from by rw [Nat.pow_add, Nat.pow_succ]; grind]
  rw [Nat.add_mul_div_left _ _ (Nat.pos_of_ne_zero (by simp)), Nat.add_mul_mod_self_left]
theorem dig_lt (k n : Nat) : ∀ d ∈ dig k n, d < 65536 := by
  induction k generalizing n with
  | zero => simp [dig]
  | succ k ih =>
    intro d hd
    simp only [dig, List.mem_cons] at hd
    rcases hd with rfl | hd
    · omega
    · exact ih _ _ hd
theorem dig_valN (l : List Nat) (h : ∀ d ∈ l, d < 65536) : dig l.length (valN l) = l := by
  induction l with
  | nil => rfl
  | cons d l ih =>
    have hd := h d (by simp)
    simp only [List.length_cons, dig, valN]
    rw [Nat.add_mul_mod_self_left, Nat.mod_eq_of_lt hd, Nat.add_mul_div_left _ _ (by decide), Nat.div_eq_of_lt hd, Nat.zero_add, ih (fun x hx => h x (by simp [hx]))]
theorem valN_lt (l : List Nat) (h : ∀ d ∈ l, d < 65536) : valN l < 65536 ^ l.length := by
  rw [← dig_valN l h, valN_dig, dig_length]; exact Nat.mod_lt _ (Nat.pos_of_ne_zero (by simp))
theorem valN_set (l : List Nat) (j v : Nat) (h : j < l.length) : valN (l.set j (l[j] + v)) = valN l + v * 65536 ^ j := by
  induction l generalizing j with
  | nil => simp at h
  | cons d l ih =>
    cases j with
    | zero => simp [valN]; omega
    | succ j =>
      simp only [List.set_cons_succ, List.getElem_cons_succ, valN]
      rw [ih j (by simpa using h), Nat.pow_succ]; grind
theorem valN_le (l : List Nat) (D : Nat) (h : ∀ d ∈ l, d ≤ D) : valN l * 65535 ≤ D * (65536 ^ l.length - 1) := by
  induction l with
  | nil => simp [valN]
  | cons d l ih =>
    have hd := h d (by simp)
    have ih := ih (fun x hx => h x (by simp [hx]))
    simp only [valN, List.length_cons, Nat.pow_succ]
    have hp : 0 < 65536 ^ l.length := Nat.pos_of_ne_zero (by simp)
    generalize 65536 ^ l.length = P at *
    obtain ⟨Q, rfl⟩ : ∃ Q, P = Q + 1 := ⟨P - 1, by omega⟩
    have e : (Q + 1) * 65536 - 1 = 65536 * Q + 65535 := by omega
    rw [e]
    simp only [Nat.add_sub_cancel] at ih
    have : d * 65535 ≤ D * 65535 := Nat.mul_le_mul_right _ hd
    calc (d + 65536 * valN l) * 65535 = d * 65535 + 65536 * (valN l * 65535) := by grind
      _ ≤ D * 65535 + 65536 * (D * Q) := Nat.add_le_add this (Nat.mul_le_mul_left _ ih)
      _ = D * (65536 * Q + 65535) := by grind
theorem valN_take_succ (l : List Nat) (k : Nat) (h : k < l.length) : valN (l.take (k + 1)) = valN (l.take k) + 65536 ^ k * l[k] := by
  rw [List.take_succ_eq_append_getElem h, valN_append]
  simp [valN, Nat.min_eq_left (Nat.le_of_lt h)]
theorem valN_split (l : List Nat) (k : Nat) (h : k ≤ l.length) : valN l = valN (l.take k) + 65536 ^ k * valN (l.drop k) := by
  conv => lhs; rw [← List.take_append_drop k l]
  rw [valN_append, List.length_take, Nat.min_eq_left h]
theorem dig_val_eq (l : List Nat) (n : Nat) (hl : l.length = 16) (h : ∀ d ∈ l, d < 65536) (hv : valN l = n) : l = dig 16 n := by
  rw [← hv, ← hl, dig_valN l h]

theorem valN_at (l : List Nat) (j : Nat) (h : j < l.length) : valN l = valN (l.take j) + 65536 ^ j * (l[j] + 65536 * valN (l.drop (j + 1))) := by
  rw [valN_split l j (by omega), List.drop_eq_getElem_cons h, valN]
theorem valN_take_lt (l : List Nat) (j : Nat) (hl : j ≤ l.length) (h : ∀ d ∈ l, d < 65536) : valN (l.take j) < 65536 ^ j := by
  have := valN_lt (l.take j) (fun d hd => h d (List.mem_of_mem_take hd))
  rwa [List.length_take, Nat.min_eq_left hl] at this
theorem valN_less (a b : List Nat) (hab : a.length = b.length) (ha : ∀ d ∈ a, d < 65536) (j : Nat) (hj : j < a.length) (he : a.drop (j + 1) = b.drop (j + 1)) (hlt : a[j] < b[j]'(by omega)) : valN a < valN b := by
  rw [valN_at a j hj, valN_at b j (by omega), he]
  have h1 := valN_take_lt a j (by omega) ha
  generalize valN (b.drop (j + 1)) = R
  generalize valN (a.take j) = X at *
  generalize valN (b.take j) = Y at *
  generalize 65536 ^ j = P at *
  have h2 : P * (a[j] + 65536 * R + 1) ≤ P * (b[j]'(by omega) + 65536 * R) := Nat.mul_le_mul_left _ (by omega)
  rw [Nat.mul_add P (a[j] + 65536 * R) 1] at h2
  omega
theorem valN_less_iff (a b : List Nat) (hab : a.length = b.length) (ha : ∀ d ∈ a, d < 65536) (hb : ∀ d ∈ b, d < 65536) (j : Nat) (hj : j < a.length) (he : a.drop (j + 1) = b.drop (j + 1)) (hne : a[j] ≠ b[j]'(by omega)) : a[j] < b[j]'(by omega) ↔ valN a < valN b := by
  constructor
  · exact valN_less a b hab ha j hj he
  · intro h
    apply Classical.byContradiction
    intro hn
    have := valN_less b a hab.symm hb j (by omega) he.symm (by omega)
    omega
theorem valN_take_set (l : List Nat) (k e : Nat) (h : k < l.length) : valN ((l.set k e).take (k + 1)) = valN (l.take k) + 65536 ^ k * e := by
  rw [valN_take_succ _ k (by simpa using h), List.getElem_set_self, List.take_set_of_le (Nat.le_refl k)]
theorem borrow_step (A B c e c' ta tb tl P : Nat) (h : ta + P * c = tl + tb) (he : A + 65536 * c' = e + B + c) : (ta + P * A) + P * 65536 * c' = (tl + P * e) + (tb + P * B) := by
  have h3 : P * A + P * 65536 * c' = P * e + P * B + P * c := by
    rw [Nat.mul_assoc, ← Nat.mul_add, ← Nat.mul_add, ← Nat.mul_add, he]
  omega

/-- A carry goes through k digits. -/
def passed (l : List Nat) (k : Nat) : List Nat := dig k (valN (l.take k)) ++ l.drop k
def carryN (l : List Nat) (k : Nat) : Nat := valN (l.take k) / 65536 ^ k
theorem passed_length (l : List Nat) (k : Nat) (h : k ≤ l.length) : (passed l k).length = l.length := by simp [passed]; omega
theorem carryN_zero (l : List Nat) : carryN l 0 = 0 := by simp [carryN, valN]
theorem passed_zero (l : List Nat) : passed l 0 = l := by simp [passed, dig]
theorem carryN_succ (l : List Nat) (k : Nat) (h : k < l.length) : carryN l (k + 1) = (carryN l k + l[k]) / 65536 := by
  unfold carryN
  rw [valN_take_succ l k h, Nat.pow_succ, ← Nat.div_div_eq_div_mul, Nat.add_mul_div_left _ _ (Nat.pos_of_ne_zero (by simp))]
theorem passed_succ (l : List Nat) (k : Nat) (h : k < l.length) : passed l (k + 1) = (passed l k).set k ((carryN l k + l[k]) % 65536) := by
  unfold passed
  rw [dig_snoc, valN_take_succ l k h, dig_mod, Nat.add_mul_div_left _ _ (Nat.pos_of_ne_zero (by simp))]
  rw [List.set_append_right _ _ (by simp), dig_length, Nat.sub_self, List.drop_eq_getElem_cons h, List.set_cons_zero]
  simp [carryN]
theorem passed_all (l : List Nat) (h : l.length = 16) : passed l 16 = dig 16 (valN l) := by
  unfold passed; rw [List.take_of_length_le (by omega), List.drop_of_length_le (by omega), List.append_nil]
theorem carryN_all (l : List Nat) (h : l.length = 16) : carryN l 16 = valN l / 115792089237316195423570985008687907853269984665640564039457584007913129639936 := by
  unfold carryN; rw [List.take_of_length_le (by omega)]
theorem pow2_256 : 65536 ^ 16 = 115792089237316195423570985008687907853269984665640564039457584007913129639936 := by decide
theorem carryN_le (l : List Nat) (k D : Nat) (hk : k ≤ l.length) (h : ∀ d ∈ l, d ≤ D) : carryN l k ≤ D := by
  have h1 := valN_le (l.take k) D (fun d hd => h d (List.mem_of_mem_take hd))
  rw [List.length_take, Nat.min_eq_left hk] at h1
  unfold carryN
  refine Nat.div_le_of_le_mul ?_
  have h2 : D * (65536 ^ k - 1) ≤ D * 65536 ^ k := Nat.mul_le_mul_left _ (Nat.sub_le _ _)
  rw [Nat.mul_comm (65536 ^ k) D]
  exact Nat.le_trans (Nat.le_mul_of_pos_right _ (by decide)) (Nat.le_trans h1 h2)
def measN (l : List Nat) (c : Nat) : Nat := 2 * valN l + (if c = 0 then 0 else 1)
/-- The digits behind a round of settle. -/
def roundN (l : List Nat) : List Nat := (dig 16 (valN l)).set 0 (valN l % 65536 + 38 * carryN l 16)
theorem roundN_val (l : List Nat) (hl : l.length = 16) : valN (roundN l) = valN l % 115792089237316195423570985008687907853269984665640564039457584007913129639936 + 38 * (valN l / 115792089237316195423570985008687907853269984665640564039457584007913129639936) := by
  have h := valN_set (dig 16 (valN l)) 0 (38 * carryN l 16) (by simp)
  rw [dig_get] at h
  simp only [Nat.pow_zero, Nat.div_one, Nat.mul_one] at h
  unfold roundN
  rw [h, valN_dig, carryN_all l hl, pow2_256]
theorem roundN_mod (l : List Nat) (hl : l.length = 16) : valN (roundN l) % pp = valN l % pp := by
  rw [roundN_val l hl]; unfold pp; omega
theorem carryN_small (l : List Nat) (hl : l.length = 16) (h : ∀ d ∈ l, d ≤ 1125899906842623) : carryN l 16 ≤ 17180131333 := by
  have h1 := valN_le l 1125899906842623 h
  rw [hl, pow2_256] at h1
  rw [carryN_all l hl]
  omega
theorem roundN_lt (l : List Nat) (hl : l.length = 16) (h : ∀ d ∈ l, d ≤ 1125899906842623) : ∀ d ∈ roundN l, d ≤ 1125899906842623 := by
  have h1 := carryN_small l hl h
  intro d hd
  rcases List.mem_or_eq_of_mem_set hd with h2 | h2
  · have := dig_lt _ _ d h2; omega
  · omega
theorem roundN_end (l : List Nat) (hl : l.length = 16) (hc : carryN l 16 = 0) : roundN l = dig 16 (valN l) ∧ valN l < 115792089237316195423570985008687907853269984665640564039457584007913129639936 := by
  constructor
  · unfold roundN
    rw [hc, Nat.mul_zero, Nat.add_zero]
    show (dig 16 (valN l)).set 0 (valN l % 65536) = dig 16 (valN l)
    rw [show valN l % 65536 = (dig 16 (valN l))[0]'(by simp) from by rw [dig_get]; simp]
    exact List.set_getElem_self _
  · rw [carryN_all l hl] at hc; omega
theorem roundN_meas (l : List Nat) (hl : l.length = 16) (c : Nat) (hc : c ≠ 0) : measN (roundN l) (carryN l 16) < measN l c := by
  unfold measN
  rw [if_neg hc, roundN_val l hl, carryN_all l hl]
  split <;> omega
end Go.Proofs.YtkocgogpbammaaaDoor

/- Poly1305's numbers: nine digits of 16 bits modulo 2^130 - 5. No program in sight. -/
import Derived.Test.YtkocgogpbammaaaDoorN
set_option linter.unusedVariables false
set_option linter.unusedSimpArgs false
namespace Go.Proofs.YtkocgogpbammaaaDoor
open Go.RowKit

/-- The prime 2^130 - 5. -/
def p5 : Nat := 1361129467683753853853498429727072845819
def q130 : Nat := 1361129467683753853853498429727072845824
theorem pow2_128 : 65536 ^ 8 = 340282366920938463463374607431768211456 := by decide
theorem pow2_144 : 65536 ^ 9 = 22300745198530623141535718272648361505980416 := by decide
theorem dig_eq (k : Nat) (l : List Nat) (n : Nat) (hl : l.length = k) (h : ∀ d ∈ l, d < 65536) (hv : valN l = n) : l = dig k n := by
  rw [← hv, ← hl, dig_valN l h]
/-- What the ninth digit is with its carry. -/
def top9 (l : List Nat) : Nat := carryN l 8 + l.getD 8 0
theorem val9 (l : List Nat) (hl : l.length = 9) : valN l = valN (l.take 8) + 340282366920938463463374607431768211456 * l.getD 8 0 := by
  have h := valN_take_succ l 8 (by omega)
  rw [List.take_of_length_le (by omega), pow2_128] at h
  rw [h]; simp [List.getD_eq_getElem?_getD, hl]
theorem top9_div (l : List Nat) (hl : l.length = 9) : top9 l / 4 = valN l / q130 := by
  unfold top9 carryN q130; rw [val9 l hl, pow2_128]; omega
theorem pass9 (l : List Nat) (hl : l.length = 9) : (passed l 8).set 8 (top9 l % 4) = dig 9 (valN l % q130) := by
  unfold passed
  rw [List.set_append_right _ _ (by simp), dig_length, Nat.sub_self, List.drop_eq_getElem_cons (show 8 < l.length by omega), List.set_cons_zero, List.drop_of_length_le (by omega), dig_snoc 8 (valN l % q130)]
  have hT := val9 l hl
  generalize hTT : valN (l.take 8) = T at *
  have h1 : valN l % q130 = T % 340282366920938463463374607431768211456 + 340282366920938463463374607431768211456 * (top9 l % 4) := by
    unfold top9 carryN q130; rw [hT, hTT, pow2_128]; omega
  have h2 : dig 8 (valN l % q130) = dig 8 T := by
    rw [h1, ← pow2_128, dig_mod]
    have h3 := dig_mod 8 (T % 65536 ^ 8) (T / 65536 ^ 8)
    rw [Nat.mod_add_div] at h3
    exact h3.symm
  rw [h2]
  congr 2
  rw [h1, pow2_128]
  have : top9 l % 4 < 4 := Nat.mod_lt _ (by decide)
  omega
/-- The digits behind a round of settled. -/
def roundP (l : List Nat) : List Nat := (dig 9 (valN l % q130)).set 0 (valN l % q130 % 65536 + 5 * (top9 l / 4))
theorem roundP_val (l : List Nat) (hl : l.length = 9) : valN (roundP l) = valN l % q130 + 5 * (valN l / q130) := by
  have h := valN_set (dig 9 (valN l % q130)) 0 (5 * (top9 l / 4)) (by simp)
  rw [dig_get] at h
  simp only [Nat.pow_zero, Nat.div_one, Nat.mul_one] at h
  unfold roundP
  rw [h, valN_dig, pow2_144, top9_div l hl, Nat.mod_eq_of_lt (Nat.lt_trans (Nat.mod_lt _ (by decide)) (by decide))]
theorem roundP_mod (l : List Nat) (hl : l.length = 9) : valN (roundP l) % p5 = valN l % p5 := by
  rw [roundP_val l hl]; unfold p5 q130; omega
@[simp] theorem roundP_length (l : List Nat) : (roundP l).length = 9 := by simp [roundP]
/-- How large the digits are that settled is given, and keeps. -/
def okP (l : List Nat) : Prop := (∀ d ∈ l, d ≤ 1125899906842623) ∧ valN l < 1496577676626844588240573268701473812127674924007424
theorem okP_top (l : List Nat) (hl : l.length = 9) (h : okP l) : top9 l / 4 < 1099511627776 := by
  rw [top9_div l hl]; have := h.2; unfold q130; omega
theorem roundP_ok (l : List Nat) (hl : l.length = 9) (h : okP l) : okP (roundP l) := by
  have h1 := okP_top l hl h
  constructor
  · intro d hd
    rcases List.mem_or_eq_of_mem_set hd with h2 | h2
    · have := dig_lt _ _ d h2; omega
    · have : valN l % q130 % 65536 < 65536 := Nat.mod_lt _ (by decide)
      omega
  · rw [roundP_val l hl]
    have := h.2
    unfold q130; omega
theorem roundP_end (l : List Nat) (hl : l.length = 9) (hc : top9 l / 4 = 0) : roundP l = dig 9 (valN l) ∧ valN l < q130 := by
  have hlt : valN l < q130 := by
    rw [top9_div l hl] at hc
    have h := Nat.div_add_mod (valN l) q130
    rw [hc] at h
    have : valN l % q130 < q130 := Nat.mod_lt _ (by decide)
    omega
  refine ⟨?_, hlt⟩
  unfold roundP
  rw [hc, Nat.mul_zero, Nat.add_zero, Nat.mod_eq_of_lt hlt]
  rw [show valN l % 65536 = (dig 9 (valN l))[0]'(by simp) from by rw [dig_get]; simp]
  exact List.set_getElem_self _
theorem roundP_meas (l : List Nat) (hl : l.length = 9) (c : Nat) (hc : c ≠ 0) : measN (roundP l) (top9 l / 4) < measN l c := by
  unfold measN
  rw [if_neg hc, roundP_val l hl, top9_div l hl]
  unfold q130
  split <;> omega
theorem okP_small (l : List Nat) (hl : l.length = 9) (h : ∀ d ∈ l, d ≤ 1048575) : okP l := by
  refine ⟨fun d hd => Nat.le_trans (h d hd) (by decide), ?_⟩
  have h1 := valN_le l 1048575 h
  rw [hl, pow2_144] at h1
  omega
theorem carry9_le (l : List Nat) (k : Nat) (hk : k ≤ l.length) (h : okP l) : carryN l k ≤ 1125899906842623 := carryN_le l k _ hk h.1
theorem less_p5 (n : Nat) (h : n < q130) : n % p5 = if n < p5 then n else n - p5 := by
  unfold p5 q130 at *
  split <;> omega
/-- The product's digits made lower. -/
theorem low_high (P : Nat) : P % q130 + 5 * (P / q130) < P + 1 ∧ (P % q130 + 5 * (P / q130)) % p5 = P % p5 := by
  unfold p5 q130; omega
/-- The columns of a product. -/
def mulCol (a b : List Nat) (n : Nat) : Nat := ((List.range (n + 1)).map fun i => a.getD i 0 * b.getD (n - i) 0).sum
end Go.Proofs.YtkocgogpbammaaaDoor

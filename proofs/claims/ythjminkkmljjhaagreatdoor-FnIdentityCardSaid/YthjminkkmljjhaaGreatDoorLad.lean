/- The ladder of X25519 in plain numbers modulo the prime, and powers. No program in sight. -/
import Derived.Test.YthjminkkmljjhaaGreatDoorN
namespace Go.Proofs.YthjminkkmljjhaaGreatDoor
open Go.RowKit

/-- A power modulo the prime. -/
def pw (a k : Nat) : Nat := a ^ k % pp
theorem pp_pos : 0 < pp := by decide
theorem pw_zero (a : Nat) : pw a 0 = 1 := by unfold pw; rw [Nat.pow_zero]; decide
theorem pw_one {a : Nat} (h : a < pp) : pw a 1 = a := by unfold pw; rw [Nat.pow_one, Nat.mod_eq_of_lt h]
theorem mulm_pw (a i j : Nat) : mulm (pw a i) (pw a j) = pw a (i + j) := by unfold mulm pw; rw [← Nat.mul_mod, Nat.pow_add]
theorem mulm_pw_one (a i : Nat) : mulm (pw a i) a = pw a (i + 1) := by unfold mulm pw; rw [Nat.mod_mul_mod, Nat.pow_succ]
theorem pw_lt (a k : Nat) : pw a k < pp := Nat.mod_lt _ pp_pos
theorem mulm_lt (a k : Nat) : mulm a k < pp := Nat.mod_lt _ pp_pos
theorem addm_lt (a k : Nat) : addm a k < pp := Nat.mod_lt _ pp_pos
theorem subm_lt (a k : Nat) : subm a k < pp := Nat.mod_lt _ pp_pos
/-- Squared n times. -/
def sqm : Nat → Nat → Nat
  | 0, m => m
  | n + 1, m => mulm (sqm n m) (sqm n m)
theorem sqm_pw (n a k : Nat) : sqm n (pw a k) = pw a (k * 2 ^ n) := by
  induction n with
  | zero => simp [sqm]
  | succ n ih => rw [sqm, ih, mulm_pw, Nat.pow_succ, ← Nat.mul_assoc]; congr 1; omega

def bitN (K i : Nat) : Nat := K / 2 ^ i % 2
theorem pw_bit_on (a E i : Nat) (h : bitN E i = 1) : pw a (E / 2 ^ i) = mulm (mulm (pw a (E / 2 ^ (i + 1))) (pw a (E / 2 ^ (i + 1)))) a := by
  rw [mulm_pw, mulm_pw_one]; congr 1
  unfold bitN at h
  rw [Nat.pow_succ, ← Nat.div_div_eq_div_mul]; omega
theorem pw_bit_off (a E i : Nat) (h : bitN E i ≠ 1) : pw a (E / 2 ^ i) = mulm (pw a (E / 2 ^ (i + 1))) (pw a (E / 2 ^ (i + 1))) := by
  rw [mulm_pw]; congr 1
  unfold bitN at h
  rw [Nat.pow_succ, ← Nat.div_div_eq_div_mul]; omega
/-- The exponent of the inverse. -/
def em2 : Nat := 57896044618658097711785492504343953926634992332820282019728792003956564819947
def invm (a : Nat) : Nat := pw a em2

structure LS where
  x2 : Nat
  z2 : Nat
  x3 : Nat
  z3 : Nat
def swp (b : Nat) (s : LS) : LS := if b = 1 then ⟨s.x3, s.z3, s.x2, s.z2⟩ else s
def dbl (u : Nat) (s : LS) : LS :=
  ⟨mulm (mulm (addm s.x2 s.z2) (addm s.x2 s.z2)) (mulm (subm s.x2 s.z2) (subm s.x2 s.z2)),
   mulm (subm (mulm (addm s.x2 s.z2) (addm s.x2 s.z2)) (mulm (subm s.x2 s.z2) (subm s.x2 s.z2)))
     (addm (mulm (addm s.x2 s.z2) (addm s.x2 s.z2)) (mulm 121665 (subm (mulm (addm s.x2 s.z2) (addm s.x2 s.z2)) (mulm (subm s.x2 s.z2) (subm s.x2 s.z2))))),
   mulm (addm (mulm (subm s.x3 s.z3) (addm s.x2 s.z2)) (mulm (addm s.x3 s.z3) (subm s.x2 s.z2))) (addm (mulm (subm s.x3 s.z3) (addm s.x2 s.z2)) (mulm (addm s.x3 s.z3) (subm s.x2 s.z2))),
   mulm u (mulm (subm (mulm (subm s.x3 s.z3) (addm s.x2 s.z2)) (mulm (addm s.x3 s.z3) (subm s.x2 s.z2))) (subm (mulm (subm s.x3 s.z3) (addm s.x2 s.z2)) (mulm (addm s.x3 s.z3) (subm s.x2 s.z2))))⟩
theorem add_two_ways (aa bb : Nat) : addm bb (mulm 121666 (subm aa bb)) = addm aa (mulm 121665 (subm aa bb)) := by
  unfold addm mulm subm pp; omega
/-- The bit ahead of the n-th round. -/
def lastB (K n : Nat) : Nat := if n = 0 then 0 else bitN K (255 - n)
def ladS (u K : Nat) : Nat → LS
  | 0 => ⟨1, 0, u, 1⟩
  | n + 1 => dbl u (swp (bitN K (254 - n) ^^^ lastB K n) (ladS u K n))
def ladR (u K : Nat) : Nat := mulm (swp (lastB K 255) (ladS u K 255)).x2 (invm (swp (lastB K 255) (ladS u K 255)).z2)
theorem bitN_lt (K i : Nat) : bitN K i < 2 := Nat.mod_lt _ (by decide)
theorem lastB_lt (K n : Nat) : lastB K n < 2 := by unfold lastB; split; decide; exact bitN_lt _ _
theorem lastB_succ (K n : Nat) : lastB K (n + 1) = bitN K (254 - n) := by unfold lastB; rw [if_neg (by omega)]; congr 1; omega

/-- What 32 bytes stand for, the lowest first. -/
def numB : List UInt8 → Nat
  | [] => 0
  | b :: l => b.toNat + 256 * numB l
def leB (n : Nat) : List UInt8 := (List.range 32).map fun i => UInt8.ofNat (n / 256 ^ i % 256)
@[simp] theorem leB_length (n : Nat) : (leB n).length = 32 := by simp [leB]
/-- The bytes of a secret key as the ladder takes them. -/
def clampL (l : List UInt8) : List UInt8 := (l.set 0 (UInt8.ofNat ((l.getD 0 0).toNat / 8 * 8))).set 31 (UInt8.ofNat ((l.getD 31 0).toNat % 64 + 64))
@[simp] theorem clampL_length (l : List UInt8) : (clampL l).length = l.length := by simp [clampL]
/-- The public key of a secret one. -/
def pubL (l : List UInt8) : List UInt8 := leB (ladR 9 (numB (clampL l)))
theorem pubL_length (l : List UInt8) : (pubL l).length = 32 := by simp [pubL]

theorem numB_append (a b : List UInt8) : numB (a ++ b) = numB a + 256 ^ a.length * numB b := by
  induction a with
  | nil => simp [numB]
  | cons d a ih => simp only [List.cons_append, numB, ih, List.length_cons, Nat.pow_succ]; grind
theorem numB_lt (l : List UInt8) : numB l < 256 ^ l.length := by
  induction l with
  | nil => simp [numB]
  | cons b l ih =>
    have := UInt8.toNat_lt b
    simp only [numB, List.length_cons, Nat.pow_succ]; omega
theorem numB_byte (l : List UInt8) (i : Nat) (h : i < l.length) : numB l / 256 ^ i % 256 = l[i].toNat := by
  have e : l = l.take i ++ l[i] :: l.drop (i + 1) := by rw [List.getElem_cons_drop, List.take_append_drop]
  have h1 : (l.take i).length = i := by simp; omega
  have h2 := numB_lt (l.take i)
  rw [h1] at h2
  have h3 := UInt8.toNat_lt l[i]
  conv => lhs; rw [e, numB_append, h1, numB]
  rw [Nat.add_mul_div_left _ _ (Nat.pos_of_ne_zero (by simp)), Nat.div_eq_of_lt h2, Nat.zero_add, Nat.add_mul_mod_self_left, Nat.mod_eq_of_lt h3]
theorem bitN_byte (l : List UInt8) (i : Nat) (h : i / 8 < l.length) : bitN (numB l) i = l[i / 8].toNat / 2 ^ (i % 8) % 2 := by
  have hb := numB_byte l (i / 8) h
  unfold bitN
  rw [← hb]
  have e : 2 ^ i = 256 ^ (i / 8) * 2 ^ (i % 8) := by
    rw [show (256 : Nat) = 2 ^ 8 from rfl, ← Nat.pow_mul, ← Nat.pow_add]; congr 1; omega
  rw [e, ← Nat.div_div_eq_div_mul]
  generalize numB l / 256 ^ (i / 8) = n
  have hr : i % 8 < 8 := Nat.mod_lt _ (by decide)
  generalize i % 8 = r at hr
  match r, hr with
  | 0, _ | 1, _ | 2, _ | 3, _ | 4, _ | 5, _ | 6, _ | 7, _ => simp only [Nat.reducePow]; omega
theorem bitN_digit (n i : Nat) : bitN n i = n / 65536 ^ (i / 16) % 65536 / 2 ^ (i % 16) % 2 := by
  unfold bitN
  have e : 2 ^ i = 65536 ^ (i / 16) * 2 ^ (i % 16) := by
    rw [show (65536 : Nat) = 2 ^ 16 from rfl, ← Nat.pow_mul, ← Nat.pow_add]; congr 1; omega
  rw [e, ← Nat.div_div_eq_div_mul]
  generalize n / 65536 ^ (i / 16) = n
  have hr : i % 16 < 16 := Nat.mod_lt _ (by decide)
  generalize i % 16 = r at hr
  have hc : r = 0 ∨ r = 1 ∨ r = 2 ∨ r = 3 ∨ r = 4 ∨ r = 5 ∨ r = 6 ∨ r = 7 ∨ r = 8 ∨ r = 9 ∨ r = 10 ∨ r = 11 ∨ r = 12 ∨ r = 13 ∨ r = 14 ∨ r = 15 := by omega
  rcases hc with rfl | rfl | rfl | rfl | rfl | rfl | rfl | rfl | rfl | rfl | rfl | rfl | rfl | rfl | rfl | rfl <;> simp only [Nat.reducePow] <;> omega
end Go.Proofs.YthjminkkmljjhaaGreatDoor

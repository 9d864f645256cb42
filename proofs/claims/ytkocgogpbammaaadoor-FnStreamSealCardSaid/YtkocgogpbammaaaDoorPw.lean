/- Poly1305 of bytes, in plain numbers. No program in sight. -/
import Derived.Test.YtkocgogpbammaaaDoorPn
import Derived.Lib.EndianMore
set_option linter.unusedVariables false
set_option linter.unusedSimpArgs false
namespace Go.Proofs.YtkocgogpbammaaaDoor
open Go.RowKit

theorem leNat_lt : ∀ l : List UInt8, Lib.leNat l < 256 ^ l.length
  | [] => by simp [Lib.leNat]
  | b :: l => by
    have h := leNat_lt l
    have hb := UInt8.toNat_lt b
    simp only [Lib.leNat, List.length_cons, Nat.pow_succ]; omega
theorem leNat_snoc (l : List UInt8) (b : UInt8) : Lib.leNat (l ++ [b]) = Lib.leNat l + 256 ^ l.length * b.toNat := by
  rw [Lib.leNat_append]; simp [Lib.leNat]
theorem leNat_take (l : List UInt8) (i : Nat) (h : i < l.length) : Lib.leNat (l.take (i + 1)) = Lib.leNat (l.take i) + 256 ^ i * (l[i]).toNat := by
  rw [List.take_succ_eq_append_getElem h, leNat_snoc, List.length_take, Nat.min_eq_left (by omega)]
/-- What a piece of at most 16 bytes counts: its number, with a one behind it. -/
def blkN (l : List UInt8) : Nat := Lib.leNat l + 256 ^ l.length
theorem blkN_eq (l : List UInt8) : blkN l = Lib.leNat (l ++ [1]) := by rw [leNat_snoc]; simp [blkN]
theorem blkN_lt (l : List UInt8) (h : l.length ≤ 16) : blkN l < 680564733841876926926749214863536422912 := by
  have h1 := leNat_lt l
  have h2 : 256 ^ l.length ≤ 256 ^ 16 := Nat.pow_le_pow_right (by decide) h
  have h3 : (256 : Nat) ^ 16 = 340282366920938463463374607431768211456 := by decide
  unfold blkN; omega
/-- What is gathered over a message, from a on. -/
def polyA (r : Nat) (a : Nat) (m : List UInt8) : Nat :=
  if h : m = [] then a else polyA r ((a + blkN (m.take 16)) * r % p5) (m.drop 16)
termination_by m.length
decreasing_by
  have : 0 < m.length := List.length_pos_iff.2 h
  simp; omega
theorem polyA_nil (r a : Nat) : polyA r a [] = a := by rw [polyA]; simp
theorem polyA_step (r a : Nat) (m : List UInt8) (h : m ≠ []) : polyA r a m = polyA r ((a + blkN (m.take 16)) * r % p5) (m.drop 16) := by
  conv => lhs; rw [polyA]
  rw [dif_neg h]
theorem polyA_append (r : Nat) : ∀ (k a : Nat) (x y : List UInt8), x.length = 16 * k → polyA r a (x ++ y) = polyA r (polyA r a x) y
  | 0, a, x, y, h => by
    have : x = [] := List.eq_nil_of_length_eq_zero (by omega)
    subst this; rw [polyA_nil]; rfl
  | k + 1, a, x, y, h => by
    have hx : x ≠ [] := by intro e; subst e; simp at h
    have hxy : x ++ y ≠ [] := by simp [hx]
    rw [polyA_step r a (x ++ y) hxy, polyA_step r a x hx, List.take_append_of_le_length (by omega), List.drop_append_of_le_length (by omega)]
    exact polyA_append r k _ _ _ (by simp; omega)
theorem p5_pos : 0 < p5 := by decide
theorem polyA_lt (r : Nat) (a : Nat) (m : List UInt8) (ha : a < p5) : polyA r a m < p5 := by
  induction hn : m.length using Nat.strongRecOn generalizing a m with
  | ind n ih =>
    by_cases h : m = []
    · subst h; rw [polyA_nil]; exact ha
    · rw [polyA_step r a m h]
      have h0 : 0 < m.length := List.length_pos_iff.2 h
      exact ih (m.drop 16).length (by simp; omega) _ _ (Nat.mod_lt _ p5_pos) rfl
/-- A key's first half with the bits struck that Poly1305 strikes. -/
def clampB (i : Nat) (x : UInt8) : UInt8 := if i % 4 = 3 then x &&& 15 else if 0 < i ∧ i % 4 = 0 then x &&& 252 else x
def clamped (key : List UInt8) : List UInt8 := (List.range 16).map fun i => clampB i (key.getD i 0)
@[simp] theorem clamped_length (key : List UInt8) : (clamped key).length = 16 := by simp [clamped]
def rN (key : List UInt8) : Nat := Lib.leNat (clamped key)
def sN (key : List UInt8) : Nat := Lib.leNat ((key.drop 16).take 16)
/-- The tag. -/
def polyT (key m : List UInt8) : List UInt8 := Lib.leBytes 16 (polyA (rN key) 0 m + sN key)
@[simp] theorem polyT_length (key m : List UInt8) : (polyT key m).length = 16 := by simp [polyT, Lib.leBytes_length]
theorem and15_lt (x : UInt8) : (x &&& 15).toNat < 16 := by
  rw [UInt8.toNat_and]; exact Nat.lt_of_le_of_lt Nat.and_le_right (by decide)
theorem rN_lt (key : List UInt8) : rN key < 21267647932558653966460912964485513216 := by
  have h := leNat_take (clamped key) 15 (by simp)
  rw [List.take_of_length_le (by simp)] at h
  have h1 := leNat_lt ((clamped key).take 15)
  have h2 : ((clamped key)[15]'(by simp)).toNat < 16 := by
    simp only [clamped, List.getElem_map, List.getElem_range, clampB]
    exact and15_lt _
  rw [List.length_take, clamped_length] at h1
  have h3 : (256 : Nat) ^ 15 = 1329227995784915872903807060280344576 := by decide
  rw [show min 15 16 = 15 from rfl, h3] at h1
  rw [h3] at h
  unfold rN; omega
theorem clamped_get (key : List UInt8) (i : Nat) (h : i < 16) (hk : i < key.length) : (clamped key)[i]'(by simpa using h) = clampB i (key[i]) := by
  simp [clamped, List.getD_eq_getElem?_getD, List.getElem?_eq_getElem hk]

/-- A byte put among the digits. -/
theorem dig_put (N x i : Nat) (hN : N < 256 ^ i) (hx : x < 256) (hi : i < 18) :
    N / 65536 ^ (i / 2) % 65536 < 256 ∧ (dig 9 N).set (i / 2) (N / 65536 ^ (i / 2) % 65536 + x * 256 ^ (i % 2)) = dig 9 (N + 256 ^ i * x) := by
  have hq : i / 2 < 9 := by omega
  have hd : (dig 9 N)[i / 2]'(by simpa using hq) = N / 65536 ^ (i / 2) % 65536 := by rw [dig_get]
  have hp : (256 : Nat) ^ i = 256 ^ (i % 2) * 65536 ^ (i / 2) := by
    rw [show (65536 : Nat) = 256 ^ 2 from rfl, ← Nat.pow_mul, ← Nat.pow_add]; congr 1; omega
  have hsm : N / 65536 ^ (i / 2) < 256 ^ (i % 2) := by
    rw [hp] at hN
    exact Nat.div_lt_of_lt_mul (by rw [Nat.mul_comm]; exact hN)
  have h9 : N < 65536 ^ 9 := Nat.lt_of_lt_of_le hN (by rw [show (65536 : Nat) ^ 9 = 256 ^ 18 from by decide]; exact Nat.pow_le_pow_right (by decide) (by omega))
  have hv := valN_set (dig 9 N) (i / 2) (x * 256 ^ (i % 2)) (by simpa using hq)
  rw [hd, valN_dig, Nat.mod_eq_of_lt h9] at hv
  have hlt : ∀ d ∈ (dig 9 N).set (i / 2) (N / 65536 ^ (i / 2) % 65536 + x * 256 ^ (i % 2)), d < 65536 := by
    intro d hd2
    rcases List.mem_or_eq_of_mem_set hd2 with h | h
    · exact dig_lt _ _ d h
    · rw [h]
      have hm := Nat.mod_le (N / 65536 ^ (i / 2)) 65536
      generalize N / 65536 ^ (i / 2) = u at *
      rcases (show i % 2 = 0 ∨ i % 2 = 1 by omega) with e | e <;> rw [e] at hsm ⊢ <;> simp only [Nat.pow_zero, Nat.pow_one] at hsm ⊢ <;> omega
  refine ⟨?_, ?_⟩
  · have hm := Nat.mod_le (N / 65536 ^ (i / 2)) 65536
    have h2 : (256 : Nat) ^ (i % 2) ≤ 256 := by
      rcases (show i % 2 = 0 ∨ i % 2 = 1 by omega) with e | e <;> rw [e] <;> decide
    omega
  · refine dig_eq 9 _ _ (by simp) hlt ?_
    rw [hv, hp]
    congr 1
    rw [Nat.mul_comm x, Nat.mul_right_comm]
/-- Two bytes of a number's. -/
theorem leBytes_snoc2 : ∀ (k v : Nat), Lib.leBytes (k + 2) v = Lib.leBytes k v ++ [(v / 256 ^ k % 256).toUInt8, (v / 256 ^ (k + 1) % 256).toUInt8]
  | 0, v => by simp [Lib.leBytes]
  | k + 1, v => by
    have h := leBytes_snoc2 k (v / 256)
    rw [show k + 1 + 2 = (k + 2) + 1 from rfl, Lib.leBytes, h, Lib.leBytes]
    simp only [List.cons_append, Nat.div_div_eq_div_mul, Nat.pow_succ, Nat.mul_comm, Nat.mul_left_comm, Nat.mul_assoc]
theorem leBytes_mod : ∀ (k v m : Nat), Lib.leBytes k (v + 256 ^ k * m) = Lib.leBytes k v
  | 0, v, m => rfl
  | k + 1, v, m => by
    have e1 : (v + 256 ^ (k + 1) * m) / 256 = v / 256 + 256 ^ k * m := by
      rw [Nat.pow_succ, Nat.mul_right_comm, Nat.mul_comm _ 256, Nat.add_mul_div_left _ _ (by decide)]
    have e2 : (v + 256 ^ (k + 1) * m) % 256 = v % 256 := by
      rw [Nat.pow_succ, Nat.mul_right_comm, Nat.mul_comm _ 256, Nat.add_mul_mod_self_left]
    simp only [Lib.leBytes, e1, e2, leBytes_mod k]
theorem leBytes_mod' (k v : Nat) : Lib.leBytes k (v % 256 ^ k) = Lib.leBytes k v := by
  have h := leBytes_mod k (v % 256 ^ k) (v / 256 ^ k)
  rw [Nat.mod_add_div] at h; exact h.symm
end Go.Proofs.YtkocgogpbammaaaDoor

/- A round of Poly1305's sum in limbs of 64 bits, in plain numbers. No program in sight. -/

namespace Go.Proofs.YtkocgogpbammaaaDoor
open Go.RowKit

/-- The sum behind a piece that counts b. -/
def updN (hh b r : Nat) : Nat := (hh + b) * r % q130 + 5 * ((hh + b) * r / q130)
theorem updN_mod (hh b r : Nat) : updN hh b r % p5 = (hh % p5 + b) * r % p5 := by
  have h1 : updN hh b r % p5 = (hh + b) * r % p5 := by
    unfold updN; generalize (hh + b) * r = P; unfold p5 q130; omega
  rw [h1, Nat.mul_mod, ← Nat.mod_add_mod, ← Nat.mul_mod]
/-- How large the sum may grow. -/
def okH (hh : Nat) : Prop := hh < 2041694201525630780780247644590609268736
theorem updN_ok (hh b r : Nat) (h : okH hh) (hb : b < 680564733841876926926749214863536422912) (hr : r < 21267647932558653966460912964485513216) : okH (updN hh b r) := by
  unfold okH at *
  unfold updN
  have h1 : (hh + b) * r ≤ 2722258935367507707706996859454145691648 * 21267647932558653966460912964485513216 := Nat.mul_le_mul (by omega) (by omega)
  generalize (hh + b) * r = P at *
  unfold q130; omega
/-- The limbs. -/
def lim0 (h : Nat) : Nat := h % 18446744073709551616
def lim1 (h : Nat) : Nat := h / 18446744073709551616 % 18446744073709551616
def lim2 (h : Nat) : Nat := h / 340282366920938463463374607431768211456
theorem lim_eq (h : Nat) : h = lim0 h + 18446744073709551616 * lim1 h + 340282366920938463463374607431768211456 * lim2 h := by
  unfold lim0 lim1 lim2; omega
theorem lim0_lt (h : Nat) : lim0 h < 18446744073709551616 := Nat.mod_lt _ (by decide)
theorem lim1_lt (h : Nat) : lim1 h < 18446744073709551616 := Nat.mod_lt _ (by decide)
theorem lim2_le (h : Nat) (hh : okH h) : lim2 h ≤ 5 := by unfold okH at hh; unfold lim2; omega
theorem lim_of (h a b c : Nat) (ha : a < 18446744073709551616) (hb : b < 18446744073709551616) (e : h = a + 18446744073709551616 * b + 340282366920938463463374607431768211456 * c) : a = lim0 h ∧ b = lim1 h ∧ c = lim2 h := by
  unfold lim0 lim1 lim2; omega
theorem mul_limbs (a0 a1 a2 r0 r1 : Nat) : (a0 + 18446744073709551616 * a1 + 340282366920938463463374607431768211456 * a2) * (r0 + 18446744073709551616 * r1) =
    a0 * r0 + 18446744073709551616 * (a1 * r0 + a0 * r1) + 340282366920938463463374607431768211456 * (a2 * r0 + a1 * r1) + 6277101735386680763835789423207666416102355444464034512896 * (a2 * r1) := by grind
/-- The product in limbs, out of the six products. -/
theorem carry_limbs (p00 m1 m2 m3 pl ph ml mh nl nh t1 t2 t3 k1 k2 : Nat) (h0 : p00 = pl + 18446744073709551616 * ph) (h1 : m1 = ml + 18446744073709551616 * mh) (h2 : m2 = nl + 18446744073709551616 * nh)
    (e1 : ml + ph = t1 + 18446744073709551616 * k1) (e2 : nl + mh + k1 = t2 + 18446744073709551616 * k2) (e3 : t3 = m3 + nh + k2) :
    p00 + 18446744073709551616 * m1 + 340282366920938463463374607431768211456 * m2 + 6277101735386680763835789423207666416102355444464034512896 * m3 =
      pl + 18446744073709551616 * t1 + 340282366920938463463374607431768211456 * t2 + 6277101735386680763835789423207666416102355444464034512896 * t3 := by omega
/-- The folding of what stands beyond 2^130. -/
theorem fold_limbs (T t0 t1 t2 t3 u v cl ch dl dh D e0 e1 e2 k1 k2 k3 k4 f0 f1 f2 : Nat) (hT : T = t0 + 18446744073709551616 * t1 + 340282366920938463463374607431768211456 * t2 + 6277101735386680763835789423207666416102355444464034512896 * t3)
    (l0 : t0 < 18446744073709551616) (l1 : t1 < 18446744073709551616) (hu : t2 = 4 * u + v) (hv : v < 4)
    (hC : 4 * u + 18446744073709551616 * t3 = cl + 18446744073709551616 * ch) (hD : 4 * u + 18446744073709551616 * t3 = 4 * D) (hd : D = dl + 18446744073709551616 * dh)
    (q1 : t0 + cl = e0 + 18446744073709551616 * k1) (q2 : t1 + ch + k1 = e1 + 18446744073709551616 * k2) (q3 : e2 = v + k2)
    (q4 : e0 + dl = f0 + 18446744073709551616 * k3) (q5 : e1 + dh + k3 = f1 + 18446744073709551616 * k4) (q6 : f2 = e2 + k4) :
    f0 + 18446744073709551616 * f1 + 340282366920938463463374607431768211456 * f2 = T % q130 + 5 * (T / q130) := by
  have h1 : T = (t0 + 18446744073709551616 * t1 + 340282366920938463463374607431768211456 * v) + q130 * D := by unfold q130; omega
  have h2 : t0 + 18446744073709551616 * t1 + 340282366920938463463374607431768211456 * v < q130 := by unfold q130; omega
  have hp : 0 < q130 := by decide
  have h3 : T / q130 = D := by rw [h1, Nat.add_mul_div_left _ _ hp, Nat.div_eq_of_lt h2, Nat.zero_add]
  have h4 : T % q130 = t0 + 18446744073709551616 * t1 + 340282366920938463463374607431768211456 * v := by rw [h1, Nat.add_mul_mod_self_left, Nat.mod_eq_of_lt h2]
  rw [h3, h4]
  omega
/-- The bits that are struck off a key of Poly1305, four bytes at a time. -/
theorem and_pair (k a b x y : Nat) (ha : a < 2 ^ k) (hx : x < 2 ^ k) : (a + 2 ^ k * b) &&& (x + 2 ^ k * y) = (a &&& x) + 2 ^ k * (b &&& y) := by
  have hax : a &&& x < 2 ^ k := Nat.lt_of_le_of_lt Nat.and_le_left ha
  apply Nat.eq_of_testBit_eq
  intro i
  rw [Nat.testBit_and, Nat.add_comm a, Nat.add_comm x, Nat.add_comm (a &&& x), Nat.testBit_two_pow_mul_add _ ha, Nat.testBit_two_pow_mul_add _ hx, Nat.testBit_two_pow_mul_add _ hax]
  by_cases h : i < k
  · simp [h, Nat.testBit_and]
  · simp [h, Nat.testBit_and]
theorem and_high (x : Nat) (h : x < 18446744073709551616) : x &&& 18446744073709551612 = 4 * (x / 4) := by
  have e : (18446744073709551612 : Nat) = 0 + 2 ^ 2 * (2 ^ 62 - 1) := by decide
  have hx : x = x % 4 + 2 ^ 2 * (x / 4) := by omega
  conv => lhs; rw [hx, e]
  rw [and_pair 2 _ _ _ _ (by omega) (by decide), Nat.and_zero, Nat.zero_add, Nat.and_two_pow_sub_one_eq_mod, Nat.mod_eq_of_lt (by omega)]
end Go.Proofs.YtkocgogpbammaaaDoor

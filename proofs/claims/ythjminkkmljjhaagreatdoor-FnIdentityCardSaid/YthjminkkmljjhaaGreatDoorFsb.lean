/- leUint64 and Element.SetBytes. Conditions: bytes as many as each states, in a block of their own. (Printed by wip/gensb.py.) -/
import Derived.Test.YthjminkkmljjhaaGreatDoorFsw
import Derived.Test.YthjminkkmljjhaaGreatDoorSx
namespace Go.Proofs.YthjminkkmljjhaaGreatDoor
open Go.RowKit

theorem numB_cons_drop (l : List UInt8) (j : Nat) (h : j < l.length) : numB (l.drop j) = l[j].toNat + 256 * numB (l.drop (j + 1)) := by
  rw [List.drop_eq_getElem_cons h, numB]
theorem numB_mid (l : List UInt8) (i k : Nat) (h : i + k ≤ l.length) : numB ((l.drop i).take k) = numB l / 256 ^ i % 256 ^ k := by
  have h1 : numB l = numB (l.take i) + 256 ^ i * numB (l.drop i) := by
    conv => lhs; rw [← List.take_append_drop i l]
    rw [numB_append, List.length_take, Nat.min_eq_left (by omega)]
  have h2 := numB_take_lt l i (by omega)
  have h3 : numB (l.drop i) = numB ((l.drop i).take k) + 256 ^ k * numB ((l.drop i).drop k) := by
    conv => lhs; rw [← List.take_append_drop k (l.drop i)]
    rw [numB_append, List.length_take, Nat.min_eq_left (by simp; omega)]
  have h4 := numB_take_lt (l.drop i) k (by simp; omega)
  rw [h1, Nat.add_mul_div_left _ _ (Nat.pos_of_ne_zero (by simp)), Nat.div_eq_of_lt h2, Nat.zero_add, h3, Nat.add_mul_mod_self_left, Nat.mod_eq_of_lt h4]
theorem shl8_or (x b : Nat) (hb : b < 256) : (x * 256) ||| b = x * 256 + b := by
  have h := Nat.two_pow_add_eq_or_of_lt (i := 8) hb x
  rw [Nat.mul_comm x 256]; exact h.symm

set_option maxRecDepth 100000 in
set_option maxHeartbeats 2000000 in
theorem leU_any (w : World) (a : Option Addr) (c : Nat) (l : List UInt8) (hl : l.length = 8) (ha : At w a (u8s l)) :
    Calls Tryz.prog 84 #[.slice a 8 c] w fun e w' => e = .returned (.int .u64 (numB l : Int)) ∧ w' = w := by
  go_enter Tryz.func84, Tryz.ntmps84
  go_wp2
  go_loop [3, 4] (fun xv iv => ∃ (k : Nat) (z : Int), k ≤ 8 ∧ z = (k : Int) - 1 ∧ iv = .int .i64 z ∧ xv = .int .u64 (numB (l.drop k) : Int)) (fun _ iv => (intOf iv + 1).toNat)
  case atStart => exact ⟨8, 7, Nat.le_refl _, rfl, rfl, by rw [List.drop_of_length_le (by omega)]; rfl⟩
  case round =>
    obtain ⟨k, z, hk, hz, rfl, rfl⟩ := hrel
    rcases k with _ | j
    · obtain rfl : z = -1 := by omega
      clear hz
      have d0 : decide ((-1 : Int) ≥ 0) = false := by decide
      go_wp2
      go_ret
      exact ⟨rfl, rfl⟩
    · obtain rfl : z = (j : Int) := by omega
      clear hz
      have hj : j < 8 := by omega
      obtain ⟨b, off, rfl, hck⟩ := ha.u8 j (by omega)
      have hcons := numB_cons_drop l j (by omega)
      have hx : numB (l.drop (j + 1)) < 72057594037927936 := by
        have h := numB_lt (l.drop (j + 1))
        have h2 : (l.drop (j + 1)).length ≤ 7 := by simp; omega
        exact Nat.lt_of_lt_of_le h (Nat.le_trans (Nat.pow_le_pow_right (by decide) h2) (by decide))
      have hb : (l[j]'(by omega)).toNat < 256 := UInt8.toNat_lt _
      generalize (l[j]'(by omega)).toNat = y at *
      generalize numB (l.drop (j + 1)) = x at *
      have HC := Lib.hid hcons
      clear hcons
      have e1 : IntKind.u64.wrap ((x : Int) * 256) = ((x * 256 : Nat) : Int) := (IntWalk.u64_in _ (by omega)).trans (by omega)
      have e2 : IntKind.u64.wrap (y : Int) = (y : Int) := IntWalk.u64_in _ (by omega)
      have e3 : bits .or .u64 ((x * 256 : Nat) : Int) (y : Int) = ((y + 256 * x : Nat) : Int) := by
        rw [u64_or_nat _ _ (by omega) (by omega), shl8_or x y hb]; congr 1; omega
      have e4 : bits .or .u64 ((x : Int) * 256) (y : Int) = ((y + 256 * x : Nat) : Int) := by
        rw [show (x : Int) * 256 = ((x * 256 : Nat) : Int) from by omega]; exact e3
      have j0 : (0 : Int) ≤ (j : Int) := by omega
      have j1 : (j : Int) < 8 := by omega
      go_wp2
      go_round
      case rel => exact ⟨j, (j : Int) - 1, by omega, rfl, by go_num, by rw [HC.out]; simp⟩
      case measure => simp [intOf]

theorem At.sub {w : World} {b : Nat} {l : List UInt8} (h : BAt w b l) (i k : Nat) : At w (some ⟨b, i, none⟩) (u8s ((l.drop i).take k)) := by
  intro _
  refine ⟨b, i, rfl, fun j hj => ?_⟩
  simp only [u8s_length, List.length_take, List.length_drop] at hj
  have h2 := Arr.cell h (i + j) (by simp; omega)
  rw [h2, u8s_get, u8s_get]; simp
theorem val_limbs (n : Nat) : val ⟨n % 2251799813685248, n / 2251799813685248 % 2251799813685248, n / 5070602400912917605986812821504 % 2251799813685248, n / 11417981541647679048466287755595961091061972992 % 2251799813685248, n / 25711008708143844408671393477458601640355247900524685364822016 % 2251799813685248⟩ = n % 57896044618658097711785492504343953926634992332820282019728792003956564819968 := by
  unfold val; simp only
  have h1 : n / 5070602400912917605986812821504 = n / 2251799813685248 / 2251799813685248 := by rw [Nat.div_div_eq_div_mul]
  have h2 : n / 11417981541647679048466287755595961091061972992 = n / 2251799813685248 / 2251799813685248 / 2251799813685248 := by rw [Nat.div_div_eq_div_mul, Nat.div_div_eq_div_mul]
  have h3 : n / 25711008708143844408671393477458601640355247900524685364822016 = n / 2251799813685248 / 2251799813685248 / 2251799813685248 / 2251799813685248 := by rw [Nat.div_div_eq_div_mul, Nat.div_div_eq_div_mul, Nat.div_div_eq_div_mul]
  rw [h1, h2, h3]
  omega

set_option maxRecDepth 100000 in
set_option maxHeartbeats 2000000 in
theorem setBytes_M (w : World) (v b : Nat) (l : List UInt8) (hl : l.length = 32) (hv : FeB w v) (hB : BAt w b l) (hne : b ≠ v) :
    Calls Tryz.prog 70 #[.pointer (some ⟨v, 0, none⟩), .slice (some ⟨b, 0, none⟩) 32 32] w fun e w' => e = .returned (.tuple #[.pointer (some ⟨v, 0, none⟩), .nilIface]) ∧ FeM w' v (numB l % 57896044618658097711785492504343953926634992332820282019728792003956564819968 % pp) ∧ w.grownBy w' (some v) := by
  obtain ⟨z, hz⟩ := hv
  have hgg : w.grownBy w (some v) := World.grownBy.refl _ _
  obtain ⟨z0, z1, z2, z3, z4⟩ := z
  have hm0 := numB_mid l 0 8 (by omega)
  obtain ⟨U0, hU0⟩ : ∃ U, U = numB ((l.drop 0).take 8) := ⟨_, rfl⟩
  rw [← hU0] at hm0
  have bU0 : U0 < 18446744073709551616 := by rw [hm0]; exact Nat.mod_lt _ (by decide)
  obtain ⟨L0, hL0⟩ : ∃ L, L = U0 / 1 % 2251799813685248 := ⟨_, rfl⟩
  have hLn0 : L0 = numB l % 2251799813685248 := by
    rw [hL0, hm0]
    rw [Nat.pow_zero, Nat.div_one, Nat.div_one]; omega
  have bL0 : L0 < 2251799813685248 := by omega
  have em0 : bits .and .u64 ((U0 : Int) / 1) 2251799813685247 = (L0 : Int) := by
    rw [show (U0 : Int) / 1 = ((U0 / 1 : Nat) : Int) from by omega, show (2251799813685247 : Int) = ((2251799813685247 : Nat) : Int) from rfl, u64_and_nat _ _ (by omega) (by omega), Nat.and_two_pow_sub_one_eq_mod _ 51, hL0]
  have HU0 := Lib.hid hU0
  have HLN0 := Lib.hid hLn0
  clear hm0 hU0 hL0 hLn0
  have em0' : bits .and .u64 (U0 : Int) 2251799813685247 = (L0 : Int) := by rw [← em0, Int.ediv_one]
  have hm1 := numB_mid l 6 8 (by omega)
  obtain ⟨U1, hU1⟩ : ∃ U, U = numB ((l.drop 6).take 8) := ⟨_, rfl⟩
  rw [← hU1] at hm1
  have bU1 : U1 < 18446744073709551616 := by rw [hm1]; exact Nat.mod_lt _ (by decide)
  obtain ⟨L1, hL1⟩ : ∃ L, L = U1 / 8 % 2251799813685248 := ⟨_, rfl⟩
  have hLn1 : L1 = numB l / 2251799813685248 % 2251799813685248 := by
    rw [hL1, hm1]
    rw [show (256 : Nat) ^ 6 = 281474976710656 from by decide, show (256 : Nat) ^ 8 = 18446744073709551616 from by decide, show (2251799813685248 : Nat) = 281474976710656 * 8 from by decide, ← Nat.div_div_eq_div_mul]; omega
  have bL1 : L1 < 2251799813685248 := by omega
  have em1 : bits .and .u64 ((U1 : Int) / 8) 2251799813685247 = (L1 : Int) := by
    rw [show (U1 : Int) / 8 = ((U1 / 8 : Nat) : Int) from by omega, show (2251799813685247 : Int) = ((2251799813685247 : Nat) : Int) from rfl, u64_and_nat _ _ (by omega) (by omega), Nat.and_two_pow_sub_one_eq_mod _ 51, hL1]
  have HU1 := Lib.hid hU1
  have HLN1 := Lib.hid hLn1
  clear hm1 hU1 hL1 hLn1
  have hm2 := numB_mid l 12 8 (by omega)
  obtain ⟨U2, hU2⟩ : ∃ U, U = numB ((l.drop 12).take 8) := ⟨_, rfl⟩
  rw [← hU2] at hm2
  have bU2 : U2 < 18446744073709551616 := by rw [hm2]; exact Nat.mod_lt _ (by decide)
  obtain ⟨L2, hL2⟩ : ∃ L, L = U2 / 64 % 2251799813685248 := ⟨_, rfl⟩
  have hLn2 : L2 = numB l / 5070602400912917605986812821504 % 2251799813685248 := by
    rw [hL2, hm2]
    rw [show (256 : Nat) ^ 12 = 79228162514264337593543950336 from by decide, show (256 : Nat) ^ 8 = 18446744073709551616 from by decide, show (5070602400912917605986812821504 : Nat) = 79228162514264337593543950336 * 64 from by decide, ← Nat.div_div_eq_div_mul]; omega
  have bL2 : L2 < 2251799813685248 := by omega
  have em2 : bits .and .u64 ((U2 : Int) / 64) 2251799813685247 = (L2 : Int) := by
    rw [show (U2 : Int) / 64 = ((U2 / 64 : Nat) : Int) from by omega, show (2251799813685247 : Int) = ((2251799813685247 : Nat) : Int) from rfl, u64_and_nat _ _ (by omega) (by omega), Nat.and_two_pow_sub_one_eq_mod _ 51, hL2]
  have HU2 := Lib.hid hU2
  have HLN2 := Lib.hid hLn2
  clear hm2 hU2 hL2 hLn2
  have hm3 := numB_mid l 19 8 (by omega)
  obtain ⟨U3, hU3⟩ : ∃ U, U = numB ((l.drop 19).take 8) := ⟨_, rfl⟩
  rw [← hU3] at hm3
  have bU3 : U3 < 18446744073709551616 := by rw [hm3]; exact Nat.mod_lt _ (by decide)
  obtain ⟨L3, hL3⟩ : ∃ L, L = U3 / 2 % 2251799813685248 := ⟨_, rfl⟩
  have hLn3 : L3 = numB l / 11417981541647679048466287755595961091061972992 % 2251799813685248 := by
    rw [hL3, hm3]
    rw [show (256 : Nat) ^ 19 = 5708990770823839524233143877797980545530986496 from by decide, show (256 : Nat) ^ 8 = 18446744073709551616 from by decide, show (11417981541647679048466287755595961091061972992 : Nat) = 5708990770823839524233143877797980545530986496 * 2 from by decide, ← Nat.div_div_eq_div_mul]; omega
  have bL3 : L3 < 2251799813685248 := by omega
  have em3 : bits .and .u64 ((U3 : Int) / 2) 2251799813685247 = (L3 : Int) := by
    rw [show (U3 : Int) / 2 = ((U3 / 2 : Nat) : Int) from by omega, show (2251799813685247 : Int) = ((2251799813685247 : Nat) : Int) from rfl, u64_and_nat _ _ (by omega) (by omega), Nat.and_two_pow_sub_one_eq_mod _ 51, hL3]
  have HU3 := Lib.hid hU3
  have HLN3 := Lib.hid hLn3
  clear hm3 hU3 hL3 hLn3
  have hm4 := numB_mid l 24 8 (by omega)
  obtain ⟨U4, hU4⟩ : ∃ U, U = numB ((l.drop 24).take 8) := ⟨_, rfl⟩
  rw [← hU4] at hm4
  have bU4 : U4 < 18446744073709551616 := by rw [hm4]; exact Nat.mod_lt _ (by decide)
  obtain ⟨L4, hL4⟩ : ∃ L, L = U4 / 4096 % 2251799813685248 := ⟨_, rfl⟩
  have hLn4 : L4 = numB l / 25711008708143844408671393477458601640355247900524685364822016 % 2251799813685248 := by
    rw [hL4, hm4]
    rw [show (256 : Nat) ^ 24 = 6277101735386680763835789423207666416102355444464034512896 from by decide, show (256 : Nat) ^ 8 = 18446744073709551616 from by decide, show (25711008708143844408671393477458601640355247900524685364822016 : Nat) = 6277101735386680763835789423207666416102355444464034512896 * 4096 from by decide, ← Nat.div_div_eq_div_mul]; omega
  have bL4 : L4 < 2251799813685248 := by omega
  have em4 : bits .and .u64 ((U4 : Int) / 4096) 2251799813685247 = (L4 : Int) := by
    rw [show (U4 : Int) / 4096 = ((U4 / 4096 : Nat) : Int) from by omega, show (2251799813685247 : Int) = ((2251799813685247 : Nat) : Int) from rfl, u64_and_nat _ _ (by omega) (by omega), Nat.and_two_pow_sub_one_eq_mod _ 51, hL4]
  have HU4 := Lib.hid hU4
  have HLN4 := Lib.hid hLn4
  clear hm4 hU4 hL4 hLn4
  go_enter Tryz.func70, Tryz.ntmps70
  have c0 : w.cell? ⟨v, 0, none⟩ = some (.int .u64 (z0 : Int)) := hz.c0
  have f0 : w.frozen? ⟨v, 0, none⟩ = false := hz.fr 0
  have hat0 := At.sub hB 0 8
  go_wp2_with fail
  refine (leU_any _ _ _ ((l.drop 0).take 8) (by simp; omega) hat0).mono ?_
  rintro e wq ⟨rfl, hwq⟩
  rw [hwq, ← HU0.out]
  clear hwq
  have hz1 := hz.s0 U0
  have hz2 := hz1.s0 L0
  have hB2 : BAt ((w.setCell ⟨v, 0, none⟩ (.int .u64 ((U0 : Nat) : Int))).setCell ⟨v, 0, none⟩ (.int .u64 (L0 : Int))) b l := (hB.other hne).other hne
  have hg2 : w.grownBy ((w.setCell ⟨v, 0, none⟩ (.int .u64 ((U0 : Nat) : Int))).setCell ⟨v, 0, none⟩ (.int .u64 (L0 : Int))) (some v) := grown_set (grown_set hgg 0 _) 0 _
  have HZ := Lib.hid hz2
  have HB := Lib.hid hB2
  have HG := Lib.hid hg2
  clear hz1 hz2 hB2 hg2
  go_upto_region 5 with fail
  clear c0 f0 hat0 hz hB hgg
  show Code.wp _ _ _ _ ((w.setCell ⟨v, 0, none⟩ (.int .u64 ((U0 : Nat) : Int))).setCell ⟨v, 0, none⟩ (.int .u64 (L0 : Int)))
  generalize (w.setCell ⟨v, 0, none⟩ (.int .u64 ((U0 : Nat) : Int))).setCell ⟨v, 0, none⟩ (.int .u64 (L0 : Int)) = w1 at *
  have hz := HZ.out
  have hB := HB.out
  have hgg := HG.out
  clear HZ HB HG
  have c1 : w1.cell? ⟨v, 1, none⟩ = some (.int .u64 (z1 : Int)) := hz.c1
  have f1 : w1.frozen? ⟨v, 1, none⟩ = false := hz.fr 1
  have hat1 := At.sub hB 6 8
  go_wp2_with fail
  refine (leU_any _ _ _ ((l.drop 6).take 8) (by simp; omega) hat1).mono ?_
  rintro e wq ⟨rfl, hwq⟩
  rw [hwq, ← HU1.out]
  clear hwq
  have hz1 := hz.s1 (U1 / 8)
  have hz2 := hz1.s1 L1
  have hB2 : BAt ((w1.setCell ⟨v, 1, none⟩ (.int .u64 (((U1 / 8) : Nat) : Int))).setCell ⟨v, 1, none⟩ (.int .u64 (L1 : Int))) b l := (hB.other hne).other hne
  have hg2 : w.grownBy ((w1.setCell ⟨v, 1, none⟩ (.int .u64 (((U1 / 8) : Nat) : Int))).setCell ⟨v, 1, none⟩ (.int .u64 (L1 : Int))) (some v) := grown_set (grown_set hgg 1 _) 1 _
  have HZ := Lib.hid hz2
  have HB := Lib.hid hB2
  have HG := Lib.hid hg2
  clear hz1 hz2 hB2 hg2
  go_upto_region 7 with fail
  clear c1 f1 hat1 hz hB hgg
  show Code.wp _ _ _ _ ((w1.setCell ⟨v, 1, none⟩ (.int .u64 (((U1 / 8) : Nat) : Int))).setCell ⟨v, 1, none⟩ (.int .u64 (L1 : Int)))
  generalize (w1.setCell ⟨v, 1, none⟩ (.int .u64 (((U1 / 8) : Nat) : Int))).setCell ⟨v, 1, none⟩ (.int .u64 (L1 : Int)) = w2 at *
  have hz := HZ.out
  have hB := HB.out
  have hgg := HG.out
  clear HZ HB HG
  have c2 : w2.cell? ⟨v, 2, none⟩ = some (.int .u64 (z2 : Int)) := hz.c2
  have f2 : w2.frozen? ⟨v, 2, none⟩ = false := hz.fr 2
  have hat2 := At.sub hB 12 8
  go_wp2_with fail
  refine (leU_any _ _ _ ((l.drop 12).take 8) (by simp; omega) hat2).mono ?_
  rintro e wq ⟨rfl, hwq⟩
  rw [hwq, ← HU2.out]
  clear hwq
  have hz1 := hz.s2 (U2 / 64)
  have hz2 := hz1.s2 L2
  have hB2 : BAt ((w2.setCell ⟨v, 2, none⟩ (.int .u64 (((U2 / 64) : Nat) : Int))).setCell ⟨v, 2, none⟩ (.int .u64 (L2 : Int))) b l := (hB.other hne).other hne
  have hg2 : w.grownBy ((w2.setCell ⟨v, 2, none⟩ (.int .u64 (((U2 / 64) : Nat) : Int))).setCell ⟨v, 2, none⟩ (.int .u64 (L2 : Int))) (some v) := grown_set (grown_set hgg 2 _) 2 _
  have HZ := Lib.hid hz2
  have HB := Lib.hid hB2
  have HG := Lib.hid hg2
  clear hz1 hz2 hB2 hg2
  go_upto_region 9 with fail
  clear c2 f2 hat2 hz hB hgg
  show Code.wp _ _ _ _ ((w2.setCell ⟨v, 2, none⟩ (.int .u64 (((U2 / 64) : Nat) : Int))).setCell ⟨v, 2, none⟩ (.int .u64 (L2 : Int)))
  generalize (w2.setCell ⟨v, 2, none⟩ (.int .u64 (((U2 / 64) : Nat) : Int))).setCell ⟨v, 2, none⟩ (.int .u64 (L2 : Int)) = w3 at *
  have hz := HZ.out
  have hB := HB.out
  have hgg := HG.out
  clear HZ HB HG
  have c3 : w3.cell? ⟨v, 3, none⟩ = some (.int .u64 (z3 : Int)) := hz.c3
  have f3 : w3.frozen? ⟨v, 3, none⟩ = false := hz.fr 3
  have hat3 := At.sub hB 19 8
  go_wp2_with fail
  refine (leU_any _ _ _ ((l.drop 19).take 8) (by simp; omega) hat3).mono ?_
  rintro e wq ⟨rfl, hwq⟩
  rw [hwq, ← HU3.out]
  clear hwq
  have hz1 := hz.s3 (U3 / 2)
  have hz2 := hz1.s3 L3
  have hB2 : BAt ((w3.setCell ⟨v, 3, none⟩ (.int .u64 (((U3 / 2) : Nat) : Int))).setCell ⟨v, 3, none⟩ (.int .u64 (L3 : Int))) b l := (hB.other hne).other hne
  have hg2 : w.grownBy ((w3.setCell ⟨v, 3, none⟩ (.int .u64 (((U3 / 2) : Nat) : Int))).setCell ⟨v, 3, none⟩ (.int .u64 (L3 : Int))) (some v) := grown_set (grown_set hgg 3 _) 3 _
  have HZ := Lib.hid hz2
  have HB := Lib.hid hB2
  have HG := Lib.hid hg2
  clear hz1 hz2 hB2 hg2
  go_upto_region 11 with fail
  clear c3 f3 hat3 hz hB hgg
  show Code.wp _ _ _ _ ((w3.setCell ⟨v, 3, none⟩ (.int .u64 (((U3 / 2) : Nat) : Int))).setCell ⟨v, 3, none⟩ (.int .u64 (L3 : Int)))
  generalize (w3.setCell ⟨v, 3, none⟩ (.int .u64 (((U3 / 2) : Nat) : Int))).setCell ⟨v, 3, none⟩ (.int .u64 (L3 : Int)) = w4 at *
  have hz := HZ.out
  have hB := HB.out
  have hgg := HG.out
  clear HZ HB HG
  have c4 : w4.cell? ⟨v, 4, none⟩ = some (.int .u64 (z4 : Int)) := hz.c4
  have f4 : w4.frozen? ⟨v, 4, none⟩ = false := hz.fr 4
  have hat4 := At.sub hB 24 8
  go_wp2_with fail
  refine (leU_any _ _ _ ((l.drop 24).take 8) (by simp; omega) hat4).mono ?_
  rintro e wq ⟨rfl, hwq⟩
  rw [hwq, ← HU4.out]
  clear hwq
  have hz1 := hz.s4 (U4 / 4096)
  have hz2 := hz1.s4 L4
  have hB2 : BAt ((w4.setCell ⟨v, 4, none⟩ (.int .u64 (((U4 / 4096) : Nat) : Int))).setCell ⟨v, 4, none⟩ (.int .u64 (L4 : Int))) b l := (hB.other hne).other hne
  have hg2 : w.grownBy ((w4.setCell ⟨v, 4, none⟩ (.int .u64 (((U4 / 4096) : Nat) : Int))).setCell ⟨v, 4, none⟩ (.int .u64 (L4 : Int))) (some v) := grown_set (grown_set hgg 4 _) 4 _
  have HZ := Lib.hid hz2
  have HB := Lib.hid hB2
  have HG := Lib.hid hg2
  clear hz1 hz2 hB2 hg2
  go_wp2_with fail
  go_ret2
  refine ⟨rfl, ⟨_, HZ.out, ⟨by simp only; omega, by simp only; omega, by simp only; omega, by simp only; omega, by simp only; omega⟩, ?_⟩, HG.out⟩
  rw [HLN0.out, HLN1.out, HLN2.out, HLN3.out, HLN4.out, val_limbs]
end Go.Proofs.YthjminkkmljjhaaGreatDoor

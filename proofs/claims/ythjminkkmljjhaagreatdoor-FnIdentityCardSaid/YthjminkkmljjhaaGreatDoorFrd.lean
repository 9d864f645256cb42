/- Element.reduce: the one number below the prime. (Printed by wip/genby.py.) -/
import Derived.Test.YthjminkkmljjhaaGreatDoorFsb
namespace Go.Proofs.YthjminkkmljjhaaGreatDoor
open Go.RowKit

theorem reduce_end (Y c : Nat) (h1 : Y < 115792089237316195423570985008687907853269984665640564039457584007913129639898) (h2 : c = (Y + 19) / 57896044618658097711785492504343953926634992332820282019728792003956564819968) : c < 2 ∧ (Y + 19 * c) % 57896044618658097711785492504343953926634992332820282019728792003956564819968 = Y % pp := by
  unfold pp
  have hc : c = 0 ∨ c = 1 := by omega
  rcases hc with rfl | rfl <;> omega
theorem reduce_plain (y0 y1 y2 y3 y4 : Nat) (hy0 : y0 < 2251799880794112) (hy1 : y1 < 2251799880794112) (hy2 : y2 < 2251799880794112) (hy3 : y3 < 2251799880794112) (hy4 : y4 < 2251799880794112) (c0 : Nat) (ec0 : c0 = (y0 + 19) / 2251799813685248) (c1 : Nat) (ec1 : c1 = (y1 + c0) / 2251799813685248) (c2 : Nat) (ec2 : c2 = (y2 + c1) / 2251799813685248) (c3 : Nat) (ec3 : c3 = (y3 + c2) / 2251799813685248) (c4 : Nat) (ec4 : c4 = (y4 + c3) / 2251799813685248) (a0 : Nat) (ea0 : a0 = y0 + 19 * c4) (a1 : Nat) (ea1 : a1 = y1 + a0 / 2251799813685248) (a2 : Nat) (ea2 : a2 = y2 + a1 / 2251799813685248) (a3 : Nat) (ea3 : a3 = y3 + a2 / 2251799813685248) (a4 : Nat) (ea4 : a4 = y4 + a3 / 2251799813685248) (b0 : Nat) (eb0 : b0 = a0 % 2251799813685248) (b1 : Nat) (eb1 : b1 = a1 % 2251799813685248) (b2 : Nat) (eb2 : b2 = a2 % 2251799813685248) (b3 : Nat) (eb3 : b3 = a3 % 2251799813685248) (b4 : Nat) (eb4 : b4 = a4 % 2251799813685248) :
    c4 < 2 ∧ val ⟨b0, b1, b2, b3, b4⟩ = val ⟨y0, y1, y2, y3, y4⟩ % pp := by
  have h1 : val ⟨y0, y1, y2, y3, y4⟩ < 115792089237316195423570985008687907853269984665640564039457584007913129639898 := by unfold val; simp only; omega
  have h2 : c4 = (val ⟨y0, y1, y2, y3, y4⟩ + 19) / 57896044618658097711785492504343953926634992332820282019728792003956564819968 := by unfold val; simp only; omega
  obtain ⟨hc, he⟩ := reduce_end _ c4 h1 h2
  have h3 : val ⟨b0, b1, b2, b3, b4⟩ = (val ⟨y0, y1, y2, y3, y4⟩ + 19 * c4) % 57896044618658097711785492504343953926634992332820282019728792003956564819968 := by
    clear h1 h2 ec0 ec1 ec2 ec3 ec4 he
    unfold val; simp only; omega
  exact ⟨hc, h3.trans he⟩
theorem val_lt51 (b0 b1 b2 b3 b4 N : Nat) (h : val ⟨b0, b1, b2, b3, b4⟩ = N) (h0 : b0 < 2251799813685248) (h1 : b1 < 2251799813685248) (h2 : b2 < 2251799813685248) (h3 : b3 < 2251799813685248) (h4 : b4 < 2251799813685248) :
    (b0 + b1 * 2251799813685248) % 18446744073709551616 = N % 18446744073709551616 ∧ (b2 * 274877906944 + b1 / 8192) % 18446744073709551616 = N / 18446744073709551616 % 18446744073709551616 ∧ (b3 * 33554432 + b2 / 67108864) % 18446744073709551616 = N / 340282366920938463463374607431768211456 % 18446744073709551616 ∧ (b4 * 4096 + b3 / 549755813888) % 18446744073709551616 = N / 6277101735386680763835789423207666416102355444464034512896 % 18446744073709551616 := by
  subst h
  unfold val; simp only
  refine ⟨?_, ?_, ?_, ?_⟩ <;> omega

set_option maxRecDepth 100000 in
set_option maxHeartbeats 2000000 in
theorem reduce_M (w : World) (v m : Nat) (hv : FeM w v m) :
    Calls Tryz.prog 101 #[.pointer (some ⟨v, 0, none⟩)] w fun e w' => e = .returned (.pointer (some ⟨v, 0, none⟩)) ∧ (∃ b0 b1 b2 b3 b4, FeAt w' v ⟨b0, b1, b2, b3, b4⟩ ∧ b0 < 2251799813685248 ∧ b1 < 2251799813685248 ∧ b2 < 2251799813685248 ∧ b3 < 2251799813685248 ∧ b4 < 2251799813685248 ∧ val ⟨b0, b1, b2, b3, b4⟩ = m) ∧ w.grownBy w' (some v) := by
  obtain ⟨x, hx, ox, rfl⟩ := hv
  go_enter Tryz.func101, Tryz.ntmps101
  go_wp2_with fail
  have hl := ox.lim
  refine (carry_any w v x hx (by omega) (by omega) (by omega) (by omega) (by omega)).mono ?_
  rintro e w1 ⟨rfl, hz, hgg⟩
  have hok := ok_carry x (by omega) (by omega) (by omega) (by omega) (by omega)
  have hvm := val_carry_mod x
  obtain ⟨y, hy⟩ : ∃ y, y = carryL x := ⟨_, rfl⟩
  rw [← hy] at hz hok hvm
  clear hy hl
  obtain ⟨y0, y1, y2, y3, y4⟩ := y
  obtain ⟨hy0, hy1, hy2, hy3, hy4⟩ := hok
  simp only at hy0 hy1 hy2 hy3 hy4
  obtain ⟨c0, ec0⟩ : ∃ n, n = (y0 + 19) / 2251799813685248 := ⟨_, rfl⟩
  obtain ⟨c1, ec1⟩ : ∃ n, n = (y1 + c0) / 2251799813685248 := ⟨_, rfl⟩
  obtain ⟨c2, ec2⟩ : ∃ n, n = (y2 + c1) / 2251799813685248 := ⟨_, rfl⟩
  obtain ⟨c3, ec3⟩ : ∃ n, n = (y3 + c2) / 2251799813685248 := ⟨_, rfl⟩
  obtain ⟨c4, ec4⟩ : ∃ n, n = (y4 + c3) / 2251799813685248 := ⟨_, rfl⟩
  obtain ⟨a0, ea0⟩ : ∃ n, n = y0 + 19 * c4 := ⟨_, rfl⟩
  obtain ⟨a1, ea1⟩ : ∃ n, n = y1 + a0 / 2251799813685248 := ⟨_, rfl⟩
  obtain ⟨a2, ea2⟩ : ∃ n, n = y2 + a1 / 2251799813685248 := ⟨_, rfl⟩
  obtain ⟨a3, ea3⟩ : ∃ n, n = y3 + a2 / 2251799813685248 := ⟨_, rfl⟩
  obtain ⟨a4, ea4⟩ : ∃ n, n = y4 + a3 / 2251799813685248 := ⟨_, rfl⟩
  obtain ⟨b0, eb0⟩ : ∃ n, n = a0 % 2251799813685248 := ⟨_, rfl⟩
  obtain ⟨b1, eb1⟩ : ∃ n, n = a1 % 2251799813685248 := ⟨_, rfl⟩
  obtain ⟨b2, eb2⟩ : ∃ n, n = a2 % 2251799813685248 := ⟨_, rfl⟩
  obtain ⟨b3, eb3⟩ : ∃ n, n = a3 % 2251799813685248 := ⟨_, rfl⟩
  obtain ⟨b4, eb4⟩ : ∃ n, n = a4 % 2251799813685248 := ⟨_, rfl⟩
  obtain ⟨hc4, hval⟩ := reduce_plain y0 y1 y2 y3 y4 hy0 hy1 hy2 hy3 hy4 c0 ec0 c1 ec1 c2 ec2 c3 ec3 c4 ec4 a0 ea0 a1 ea1 a2 ea2 a3 ea3 a4 ea4 b0 eb0 b1 eb1 b2 eb2 b3 eb3 b4 eb4
  have HVAL : Hid (val ⟨b0, b1, b2, b3, b4⟩ = val x % pp) := hval.trans hvm
  clear hval hvm
  have lb0 : b0 < 2251799813685248 := by omega
  have lb1 : b1 < 2251799813685248 := by omega
  have lb2 : b2 < 2251799813685248 := by omega
  have lb3 : b3 < 2251799813685248 := by omega
  have lb4 : b4 < 2251799813685248 := by omega
  have wc0 : IntKind.u64.wrap ((y0 : Int) + 19) = (y0 : Int) + 19 := IntWalk.u64_in _ (by omega)
  have dc0 : ((y0 : Int) + 19) / 2251799813685248 = (c0 : Int) := by omega
  have wc1 : IntKind.u64.wrap ((y1 : Int) + (c0 : Int)) = (y1 : Int) + (c0 : Int) := IntWalk.u64_in _ (by omega)
  have dc1 : ((y1 : Int) + (c0 : Int)) / 2251799813685248 = (c1 : Int) := by omega
  have wc2 : IntKind.u64.wrap ((y2 : Int) + (c1 : Int)) = (y2 : Int) + (c1 : Int) := IntWalk.u64_in _ (by omega)
  have dc2 : ((y2 : Int) + (c1 : Int)) / 2251799813685248 = (c2 : Int) := by omega
  have wc3 : IntKind.u64.wrap ((y3 : Int) + (c2 : Int)) = (y3 : Int) + (c2 : Int) := IntWalk.u64_in _ (by omega)
  have dc3 : ((y3 : Int) + (c2 : Int)) / 2251799813685248 = (c3 : Int) := by omega
  have wc4 : IntKind.u64.wrap ((y4 : Int) + (c3 : Int)) = (y4 : Int) + (c3 : Int) := IntWalk.u64_in _ (by omega)
  have dc4 : ((y4 : Int) + (c3 : Int)) / 2251799813685248 = (c4 : Int) := by omega
  have w19 : IntKind.u64.wrap (19 * (c4 : Int)) = 19 * (c4 : Int) := IntWalk.u64_in _ (by omega)
  have wa0 : IntKind.u64.wrap ((y0 : Int) + 19 * (c4 : Int)) = (a0 : Int) := (IntWalk.u64_in _ (by omega)).trans (by omega)
  have la0 : a0 < 4503599627370496 := by omega
  obtain ⟨q0, eq0⟩ : ∃ q, q = a0 / 2251799813685248 := ⟨_, rfl⟩
  have dq0 : (a0 : Int) / 2251799813685248 = (q0 : Int) := by omega
  have wa1 : IntKind.u64.wrap ((y1 : Int) + (q0 : Int)) = (a1 : Int) := (IntWalk.u64_in _ (by omega)).trans (by omega)
  have la1 : a1 < 4503599627370496 := by omega
  obtain ⟨q1, eq1⟩ : ∃ q, q = a1 / 2251799813685248 := ⟨_, rfl⟩
  have dq1 : (a1 : Int) / 2251799813685248 = (q1 : Int) := by omega
  have wa2 : IntKind.u64.wrap ((y2 : Int) + (q1 : Int)) = (a2 : Int) := (IntWalk.u64_in _ (by omega)).trans (by omega)
  have la2 : a2 < 4503599627370496 := by omega
  obtain ⟨q2, eq2⟩ : ∃ q, q = a2 / 2251799813685248 := ⟨_, rfl⟩
  have dq2 : (a2 : Int) / 2251799813685248 = (q2 : Int) := by omega
  have wa3 : IntKind.u64.wrap ((y3 : Int) + (q2 : Int)) = (a3 : Int) := (IntWalk.u64_in _ (by omega)).trans (by omega)
  have la3 : a3 < 4503599627370496 := by omega
  obtain ⟨q3, eq3⟩ : ∃ q, q = a3 / 2251799813685248 := ⟨_, rfl⟩
  have dq3 : (a3 : Int) / 2251799813685248 = (q3 : Int) := by omega
  have wa4 : IntKind.u64.wrap ((y4 : Int) + (q3 : Int)) = (a4 : Int) := (IntWalk.u64_in _ (by omega)).trans (by omega)
  have la4 : a4 < 4503599627370496 := by omega
  have mb0 : bits .and .u64 (a0 : Int) 2251799813685247 = (b0 : Int) := by
    rw [show (2251799813685247 : Int) = ((2251799813685247 : Nat) : Int) from rfl, u64_and_nat _ _ (by omega) (by omega), Nat.and_two_pow_sub_one_eq_mod _ 51, eb0]
  have mb1 : bits .and .u64 (a1 : Int) 2251799813685247 = (b1 : Int) := by
    rw [show (2251799813685247 : Int) = ((2251799813685247 : Nat) : Int) from rfl, u64_and_nat _ _ (by omega) (by omega), Nat.and_two_pow_sub_one_eq_mod _ 51, eb1]
  have mb2 : bits .and .u64 (a2 : Int) 2251799813685247 = (b2 : Int) := by
    rw [show (2251799813685247 : Int) = ((2251799813685247 : Nat) : Int) from rfl, u64_and_nat _ _ (by omega) (by omega), Nat.and_two_pow_sub_one_eq_mod _ 51, eb2]
  have mb3 : bits .and .u64 (a3 : Int) 2251799813685247 = (b3 : Int) := by
    rw [show (2251799813685247 : Int) = ((2251799813685247 : Nat) : Int) from rfl, u64_and_nat _ _ (by omega) (by omega), Nat.and_two_pow_sub_one_eq_mod _ 51, eb3]
  have mb4 : bits .and .u64 (a4 : Int) 2251799813685247 = (b4 : Int) := by
    rw [show (2251799813685247 : Int) = ((2251799813685247 : Nat) : Int) from rfl, u64_and_nat _ _ (by omega) (by omega), Nat.and_two_pow_sub_one_eq_mod _ 51, eb4]
  clear ec0 ec1 ec2 ec3 ec4 ea0 ea1 ea2 ea3 ea4 eb0 eb1 eb2 eb3 eb4 eq0 eq1 eq2 eq3 hy0 hy1 hy2 hy3 hy4 hc4
  have c0_0 : w1.cell? ⟨v, 0, none⟩ = some (.int .u64 (y0 : Int)) := hz.c0
  have c0_1 : w1.cell? ⟨v, 1, none⟩ = some (.int .u64 (y1 : Int)) := hz.c1
  have c0_2 : w1.cell? ⟨v, 2, none⟩ = some (.int .u64 (y2 : Int)) := hz.c2
  have c0_3 : w1.cell? ⟨v, 3, none⟩ = some (.int .u64 (y3 : Int)) := hz.c3
  have c0_4 : w1.cell? ⟨v, 4, none⟩ = some (.int .u64 (y4 : Int)) := hz.c4
  have f0 := hz.fr 0
  have hz1 := hz.s0 a0
  have hg1 := grown_set hgg 0 (.int .u64 (a0 : Int))
  have HZ := Lib.hid hz1
  have HG := Lib.hid hg1
  clear hz1 hg1
  go_wp2_with fail
  clear c0_0 c0_1 c0_2 c0_3 c0_4 f0 hz hgg wc0 wc1 wc2 wc3 wc4 dc0 dc1 dc2 dc3 dc4 w19 wa0
  generalize w1.setCell ⟨v, 0, none⟩ (.int .u64 (a0 : Int)) = w2 at *
  have hz := HZ.out
  have hgg := HG.out
  clear HZ HG
  have k1 : w2.cell? ⟨v, 1, none⟩ = some (.int .u64 (y1 : Int)) := hz.c1
  have k1p : w2.cell? ⟨v, 0, none⟩ = some (.int .u64 (a0 : Int)) := hz.c0
  have f1 := hz.fr 1
  go_cut [] (fun wx => FeAt wx v ⟨a0, a1, y2, y3, y4⟩ ∧ w.grownBy wx (some v))
  case first =>
    go_region
    all_goals (go_wp2_with fail; go_meet)
    all_goals exact ⟨(hz.s1 a1).drew, grown_drew (grown_set hgg 1 _)⟩
  clear k1 k1p f1 hz hgg
  obtain ⟨hz, hgg⟩ := hcut
  obtain ⟨x1, e_x⟩ : ∃ x, x = wc := ⟨_, rfl⟩
  rw [← e_x] at hz hgg ⊢
  clear e_x
  have k1p : x1.cell? ⟨v, 0, none⟩ = some (.int .u64 (a0 : Int)) := hz.c0
  have f1p := hz.fr 0
  have HZ := Lib.hid (hz.s0 b0)
  have HG := Lib.hid (grown_set hgg 0 (.int .u64 (b0 : Int)))
  go_upto_region 10 with fail
  clear k1p f1p hz hgg
  generalize x1.setCell ⟨v, 0, none⟩ (.int .u64 (b0 : Int)) = w3 at *
  have hz := HZ.out
  have hgg := HG.out
  clear HZ HG
  have k2 : w3.cell? ⟨v, 2, none⟩ = some (.int .u64 (y2 : Int)) := hz.c2
  have k2p : w3.cell? ⟨v, 1, none⟩ = some (.int .u64 (a1 : Int)) := hz.c1
  have f2 := hz.fr 2
  go_cut [] (fun wx => FeAt wx v ⟨b0, a1, a2, y3, y4⟩ ∧ w.grownBy wx (some v))
  case first =>
    go_region
    all_goals (go_wp2_with fail; go_meet)
    all_goals exact ⟨(hz.s2 a2).drew, grown_drew (grown_set hgg 2 _)⟩
  clear k2 k2p f2 hz hgg
  obtain ⟨hz, hgg⟩ := hcut
  obtain ⟨x2, e_x⟩ : ∃ x, x = wc := ⟨_, rfl⟩
  rw [← e_x] at hz hgg ⊢
  clear e_x
  have k2p : x2.cell? ⟨v, 1, none⟩ = some (.int .u64 (a1 : Int)) := hz.c1
  have f2p := hz.fr 1
  have HZ := Lib.hid (hz.s1 b1)
  have HG := Lib.hid (grown_set hgg 1 (.int .u64 (b1 : Int)))
  go_upto_region 12 with fail
  clear k2p f2p hz hgg
  generalize x2.setCell ⟨v, 1, none⟩ (.int .u64 (b1 : Int)) = w4 at *
  have hz := HZ.out
  have hgg := HG.out
  clear HZ HG
  have k3 : w4.cell? ⟨v, 3, none⟩ = some (.int .u64 (y3 : Int)) := hz.c3
  have k3p : w4.cell? ⟨v, 2, none⟩ = some (.int .u64 (a2 : Int)) := hz.c2
  have f3 := hz.fr 3
  go_cut [] (fun wx => FeAt wx v ⟨b0, b1, a2, a3, y4⟩ ∧ w.grownBy wx (some v))
  case first =>
    go_region
    all_goals (go_wp2_with fail; go_meet)
    all_goals exact ⟨(hz.s3 a3).drew, grown_drew (grown_set hgg 3 _)⟩
  clear k3 k3p f3 hz hgg
  obtain ⟨hz, hgg⟩ := hcut
  obtain ⟨x3, e_x⟩ : ∃ x, x = wc := ⟨_, rfl⟩
  rw [← e_x] at hz hgg ⊢
  clear e_x
  have k3p : x3.cell? ⟨v, 2, none⟩ = some (.int .u64 (a2 : Int)) := hz.c2
  have f3p := hz.fr 2
  have HZ := Lib.hid (hz.s2 b2)
  have HG := Lib.hid (grown_set hgg 2 (.int .u64 (b2 : Int)))
  go_upto_region 14 with fail
  clear k3p f3p hz hgg
  generalize x3.setCell ⟨v, 2, none⟩ (.int .u64 (b2 : Int)) = w5 at *
  have hz := HZ.out
  have hgg := HG.out
  clear HZ HG
  have k4 : w5.cell? ⟨v, 4, none⟩ = some (.int .u64 (y4 : Int)) := hz.c4
  have k4p : w5.cell? ⟨v, 3, none⟩ = some (.int .u64 (a3 : Int)) := hz.c3
  have f4 := hz.fr 4
  go_cut [] (fun wx => FeAt wx v ⟨b0, b1, b2, a3, a4⟩ ∧ w.grownBy wx (some v))
  case first =>
    go_region
    all_goals (go_wp2_with fail; go_meet)
    all_goals exact ⟨(hz.s4 a4).drew, grown_drew (grown_set hgg 4 _)⟩
  clear k4 k4p f4 hz hgg
  obtain ⟨hz, hgg⟩ := hcut
  obtain ⟨x4, e_x⟩ : ∃ x, x = wc := ⟨_, rfl⟩
  rw [← e_x] at hz hgg ⊢
  clear e_x
  have k4p : x4.cell? ⟨v, 3, none⟩ = some (.int .u64 (a3 : Int)) := hz.c3
  have f4p := hz.fr 3
  have k4 : x4.cell? ⟨v, 4, none⟩ = some (.int .u64 (a4 : Int)) := hz.c4
  have f4 := hz.fr 4
  have HZ := Lib.hid ((hz.s3 b3).s4 b4)
  have HG := Lib.hid (grown_set (grown_set hgg 3 (.int .u64 (b3 : Int))) 4 (.int .u64 (b4 : Int)))
  go_wp2_with fail
  go_ret
  exact ⟨rfl, ⟨b0, b1, b2, b3, b4, HZ.out, lb0, lb1, lb2, lb3, lb4, HVAL.out⟩, HG.out⟩
end Go.Proofs.YthjminkkmljjhaaGreatDoor

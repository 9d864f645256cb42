/- The walk of spec.polymod, and what it computes. Condition: the cells hold numbers below 2^30. -/
import Derived.Test.YthjminkkmljjhaaGreatDoorFacts
import Derived.Test.YthjminkkmljjhaaGreatDoorBechPlain
import Derived.Test.YthjminkkmljjhaaGreatDoorBPm
namespace Go.Proofs.YthjminkkmljjhaaGreatDoor
open Go.RowKit

theorem i64_mask25 (p : Nat) (hp : p < 4294967296) : bits BinOp.and IntKind.i64 (p : Int) 33554431 = (p : Int) % 33554432 := by
  rw [show (33554431 : Int) = ((33554431 : Nat) : Int) from rfl, i64_and_nat p 33554431 (by omega) (by omega), Nat.and_two_pow_sub_one_eq_mod p 25]
  rfl
theorem i64_shr_and_one (p i d : Nat) (ht : p < 4294967296) (hd : p / 33554432 / 2 ^ i % 2 = d) : bits BinOp.and IntKind.i64 ((p : Int) / 33554432 / (2:Int) ^ i) 1 = (d : Int) := by
  have e : (p : Int) / 33554432 / (2:Int) ^ i = ((p / 33554432 / 2 ^ i : Nat) : Int) := by simp
  have hle : p / 33554432 / 2 ^ i ≤ p / 33554432 := Nat.div_le_self _ _
  rw [e, show (1 : Int) = ((1 : Nat) : Int) from rfl, i64_and_nat _ 1 (by omega) (by omega), Nat.and_one_is_mod, hd]

theorem gen_index (w : World) (j : Nat) (hj : j < 5) :
    (Instr.index 84 (.agg #[.int .i64 996825010, .int .i64 642813549, .int .i64 513874426, .int .i64 1027748829, .int .i64 705979059]) (.int .i64 (j : Int))).run Tryz.prog w = .ok (.int .i64 (genAt j : Int)) w := by
  rcases (show j = 0 ∨ j = 1 ∨ j = 2 ∨ j = 3 ∨ j = 4 by omega) with rfl | rfl | rfl | rfl | rfl <;> kernel_rfl

set_option maxRecDepth 100000 in
set_option maxHeartbeats 400000 in
theorem spolymod_any (w : World) (a : Option Addr) (cap : Nat) (l : List Nat) (hl : l.length ≤ 4294967296) (hx : ∀ x ∈ l, x < 1073741824) (ha : At w a (i64s l)) :
    Calls Tryz.prog 21 #[.slice a l.length cap] w fun e w' => e = .returned (.int .i64 (Bp.pm 1 l : Int)) ∧ w' = w := by
  go_enter Tryz.func21, Tryz.ntmps21
  go_wp2
  go_loop [3, 11] (fun c i => ∃ k : Nat, k ≤ l.length ∧ i = .int .i64 k ∧ c = .int .i64 (Bp.pm 1 (l.take k) : Int)) (fun _ i => l.length - (intOf i).toNat)
  case atStart => exact ⟨0, Nat.zero_le _, rfl, by simp [Bp.pm]⟩
  case round =>
    obtain ⟨k, hk, rfl, rfl⟩ := hrel
    have hp : Bp.pm 1 (l.take k) < 1073741824 := Bp.pm_lt _ _ (by decide) fun x h => hx x (List.mem_of_mem_take h)
    by_cases hlt : k < l.length
    · obtain ⟨b, off, rfl, hck⟩ := ha.i64 k hlt
      have hv : l[k] < 1073741824 := hx _ (List.getElem_mem hlt)
      have HN : Hid (Bp.pm 1 (l.take (k + 1)) = Bp.step (Bp.pm 1 (l.take k)) l[k]) := by
        unfold Hid; rw [List.take_succ_eq_append_getElem hlt, Bp.pm_append]; simp [Bp.pm]
      generalize hpe : Bp.pm 1 (l.take k) = p at *
      generalize hve : l[k] = v at *
      have HP := Lib.hid hpe; clear hpe
      have HV := Lib.hid hve; clear hve
      have HX := Lib.hid hx; clear hx
      have hy : p % 33554432 * 32 ^^^ v < 1073741824 := Bp.xor_lt30 (by omega) (by omega)
      have e1 := i64_mask25 p (by omega)
      have e2 : bits BinOp.xor IntKind.i64 ((p : Int) % 33554432 * 32) (v : Int) = ((p % 33554432 * 32 ^^^ v : Nat) : Int) :=
        i64_xor_nat (p % 33554432 * 32) v (by omega) (by omega)
      go_wp2
      clear e1 e2
      generalize hye : p % 33554432 * 32 ^^^ v = y at *
      have HY := Lib.hid hye; clear hye
      go_loop [3, 23] (fun c i => ∃ j x : Nat, j ≤ 5 ∧ i = .int .i64 j ∧ c = .int .i64 (x : Int) ∧ Hid (x = y ^^^ Bp.tops (p / 33554432) j)) (fun _ i => 5 - (intOf i).toNat)
      case atStart => exact ⟨0, y, by omega, rfl, rfl, by simp [Bp.tops, Hid]⟩
      case round =>
        obtain ⟨j, x, hj, rfl, rfl, HX2⟩ := hrel
        by_cases hj5 : j < 5
        · have hgj := gen_index w j hj5
          by_cases hb : p / 33554432 / 2 ^ j % 2 = 1
          · have e1 := i64_shr_and_one p j 1 (by omega) hb
            have hx : x < 1073741824 := by rw [HX2.out]; exact Bp.xor_lt30 hy (tops_lt _ _)
            have hgl := genAt_lt j
            have e3 := i64_xor_nat x (genAt j) (by omega) (by omega)
            have HB := Lib.hid hb; clear hb
            go_wp2
            go_round
            case rel => exact ⟨j + 1, x ^^^ genAt j, by omega, by go_num, rfl, by unfold Hid; rw [HX2.out, tops_on _ _ HB.out, Nat.xor_assoc]⟩
            case measure => simp [intOf]; omega
          · have e1 := i64_shr_and_one p j 0 (by omega) (by omega)
            have HB := Lib.hid hb; clear hb
            go_wp2
            go_round
            case rel => exact ⟨j + 1, x, by omega, by go_num, rfl, by unfold Hid; rw [HX2.out, tops_off _ _ HB.out]⟩
            case measure => simp [intOf]; omega
        · obtain rfl : j = 5 := by omega
          go_wp2
          go_round
          case rel => exact ⟨k + 1, by omega, by go_num, by rw [HN.out, HX2.out, ← HY.out]; rfl⟩
          case measure => simp [intOf]; omega
    · have hge : l.length ≤ k := by omega
      clear hlt
      have HX := Lib.hid hx; clear hx
      go_wp2
      go_ret
      exact ⟨by rw [List.take_of_length_le hge]; rfl, rfl⟩
end Go.Proofs.YthjminkkmljjhaaGreatDoor

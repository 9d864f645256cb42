/- The helpers of the field's multiplication: 128-bit sums. Conditions: no sum passes 2^128. -/
import Derived.Test.YthjminkkmljjhaaGreatDoorShelfm
import Derived.Test.YthjminkkmljjhaaGreatDoorBase
import Derived.Laws.Externs
import Derived.Handy
namespace Go.Proofs.YthjminkkmljjhaaGreatDoor
open Go.RowKit

theorem add64_run (x y c : Nat) (hc : c ≤ 1) (w : World) :
    (callFunc 103 #[.int .u64 (x : Int), .int .u64 (y : Int), .int .u64 (c : Int)]).run Tryz.prog w =
      .ok (.value (.tuple #[.int .u64 (((x + y + c) % 18446744073709551616 : Nat) : Int), .int .u64 (((x + y + c) / 18446744073709551616 : Nat) : Int)])) w := by
  rw [run_callFunc_extern Tryz.func103 (by kernel_rfl) (by kernel_rfl) (by kernel_rfl) (e := add64Entry) (by kernel_rfl), run_add64 x y c (by omega) (by omega) (by omega) (by omega)]
  simp only [Result.andThen]
  congr 5 <;> omega

/-- A number of 128 bits as the struct uint128. -/
def u128 (V : Nat) : Value := .agg #[.int .u64 ((V % 18446744073709551616 : Nat) : Int), .int .u64 ((V / 18446744073709551616 : Nat) : Int)]

set_option maxRecDepth 100000 in
set_option maxHeartbeats 400000 in
theorem mul19_any (w : World) (x : Nat) (hx : x < 576460752303423488) :
    Calls Tryz.prog 92 #[.int .u64 (x : Int)] w fun e w' => e = .returned (.int .u64 ((19 * x : Nat) : Int)) ∧ w' = w := by
  go_enter Tryz.func92, Tryz.ntmps92
  go_wp2
  go_ret
  refine ⟨?_, rfl⟩
  show Ending.returned (Value.int IntKind.u64 ((x : Int) + ((x : Int) + (x : Int) * 8) * 2)) = _
  congr 2
  omega

set_option maxRecDepth 100000 in
set_option maxHeartbeats 400000 in
theorem mul_any (w : World) (x y : Nat) (hx : x < 18446744073709551616) (hy : y < 18446744073709551616) :
    Calls Tryz.prog 94 #[.int .u64 (x : Int), .int .u64 (y : Int)] w fun e w' => e = .returned (u128 (x * y)) ∧ Below w.heap.size w w' := by
  obtain ⟨ml, hml⟩ : ∃ ml, ml = x * y % 18446744073709551616 := ⟨_, rfl⟩
  obtain ⟨mh, hmh⟩ : ∃ mh, mh = x * y / 18446744073709551616 := ⟨_, rfl⟩
  unfold u128
  rw [← hml, ← hmh]
  have HL := Lib.hid hml; clear hml
  have HH := Lib.hid hmh; clear hmh
  go_enter Tryz.func94, Tryz.ntmps94
  go_wp2_with (go_at_call 99; refine (Tryz.bits_Mul64 x y hx hy _).mono ?_; rintro e w ⟨rfl, rfl⟩; rw [← HL.out, ← HH.out])
  go_returns
  exact ⟨rfl, Below.alloc (Below.refl _ _) (Nat.le_refl _) _⟩

set_option maxRecDepth 100000 in
set_option maxHeartbeats 400000 in
theorem addMul_any (w : World) (V x y : Nat) (hx : x < 18446744073709551616) (hy : y < 18446744073709551616) (hV : V + x * y < 340282366920938463463374607431768211456) :
    Calls Tryz.prog 97 #[u128 V, .int .u64 (x : Int), .int .u64 (y : Int)] w fun e w' => e = .returned (u128 (V + x * y)) ∧ Below w.heap.size w w' := by
  obtain ⟨m, hm⟩ : ∃ m, m = x * y := ⟨_, rfl⟩
  rw [← hm] at hV ⊢
  unfold u128
  obtain ⟨vl, hvl⟩ : ∃ vl, vl = V % 18446744073709551616 := ⟨_, rfl⟩
  obtain ⟨vh, hvh⟩ : ∃ vh, vh = V / 18446744073709551616 := ⟨_, rfl⟩
  obtain ⟨ml, hml⟩ : ∃ ml, ml = m % 18446744073709551616 := ⟨_, rfl⟩
  obtain ⟨mh, hmh⟩ : ∃ mh, mh = m / 18446744073709551616 := ⟨_, rfl⟩
  obtain ⟨c0, hc0⟩ : ∃ c0, c0 = (ml + vl) / 18446744073709551616 := ⟨_, rfl⟩
  have hs0 : (ml + vl + 0) % 18446744073709551616 = (V + m) % 18446744073709551616 := by omega
  have hs1 : (mh + vh + c0) % 18446744073709551616 = (V + m) / 18446744073709551616 := by omega
  have hc1 : c0 ≤ 1 := by omega
  have hA := fun w => add64_run ml vl 0 (by decide) w
  have hB := fun w => add64_run mh vh c0 hc1 w
  rw [hs0, show (ml + vl + 0) / 18446744073709551616 = c0 from by omega] at hA
  rw [hs1] at hB
  obtain ⟨d0, hd0⟩ : ∃ d0, d0 = (mh + vh + c0) / 18446744073709551616 := ⟨_, rfl⟩
  rw [← hd0] at hB
  obtain ⟨rl, hrl⟩ : ∃ rl, rl = (V + m) % 18446744073709551616 := ⟨_, rfl⟩
  obtain ⟨rh, hrh⟩ : ∃ rh, rh = (V + m) / 18446744073709551616 := ⟨_, rfl⟩
  rw [← hrl] at hA ⊢
  rw [← hrh] at hB ⊢
  rw [← hvl, ← hvh]
  have HM := Lib.hid hm; clear hm
  have HL := Lib.hid hml; clear hml
  have HH := Lib.hid hmh; clear hmh
  have hb1 : Below w.heap.size w ((w.alloc (.cells #[.int .u64 (vl : Int), .int .u64 (vh : Int)] 141)).alloc (.cells #[.int .u64 (rl : Int), .int .u64 (rh : Int)] 141)) := Below.alloc (Below.alloc (Below.refl _ _) (Nat.le_refl _) _) (by simp) _
  clear hs0 hs1 hc0 hvl hvh hrl hrh hd0 hV
  simp only [Int.natCast_zero] at hA
  go_enter Tryz.func97, Tryz.ntmps97
  go_wp2_with (first
    | (go_at_call 99; refine (Tryz.bits_Mul64 x y hx hy _).mono ?_; rintro e w ⟨rfl, rfl⟩; rw [← HM.out, ← HL.out, ← HH.out]))
  go_returns
  exact ⟨rfl, hb1⟩

set_option maxRecDepth 100000 in
set_option maxHeartbeats 400000 in
theorem addMul19_any (w : World) (V x y : Nat) (hx : x < 576460752303423488) (hy : y < 18446744073709551616) (hV : V + 19 * x * y < 340282366920938463463374607431768211456) :
    Calls Tryz.prog 96 #[u128 V, .int .u64 (x : Int), .int .u64 (y : Int)] w fun e w' => e = .returned (u128 (V + 19 * x * y)) ∧ Below w.heap.size w w' := by
  obtain ⟨m, hm⟩ : ∃ m, m = 19 * x * y := ⟨_, rfl⟩
  rw [← hm] at hV ⊢
  unfold u128
  obtain ⟨vl, hvl⟩ : ∃ vl, vl = V % 18446744073709551616 := ⟨_, rfl⟩
  obtain ⟨vh, hvh⟩ : ∃ vh, vh = V / 18446744073709551616 := ⟨_, rfl⟩
  obtain ⟨ml, hml⟩ : ∃ ml, ml = m % 18446744073709551616 := ⟨_, rfl⟩
  obtain ⟨mh, hmh⟩ : ∃ mh, mh = m / 18446744073709551616 := ⟨_, rfl⟩
  obtain ⟨c0, hc0⟩ : ∃ c0, c0 = (ml + vl) / 18446744073709551616 := ⟨_, rfl⟩
  have hs0 : (ml + vl + 0) % 18446744073709551616 = (V + m) % 18446744073709551616 := by omega
  have hs1 : (mh + vh + c0) % 18446744073709551616 = (V + m) / 18446744073709551616 := by omega
  have hc1 : c0 ≤ 1 := by omega
  have hA := fun w => add64_run ml vl 0 (by decide) w
  have hB := fun w => add64_run mh vh c0 hc1 w
  rw [hs0, show (ml + vl + 0) / 18446744073709551616 = c0 from by omega] at hA
  rw [hs1] at hB
  obtain ⟨d0, hd0⟩ : ∃ d0, d0 = (mh + vh + c0) / 18446744073709551616 := ⟨_, rfl⟩
  rw [← hd0] at hB
  obtain ⟨rl, hrl⟩ : ∃ rl, rl = (V + m) % 18446744073709551616 := ⟨_, rfl⟩
  obtain ⟨rh, hrh⟩ : ∃ rh, rh = (V + m) / 18446744073709551616 := ⟨_, rfl⟩
  rw [← hrl] at hA ⊢
  rw [← hrh] at hB ⊢
  rw [← hvl, ← hvh]
  have HM := Lib.hid hm; clear hm
  have HL := Lib.hid hml; clear hml
  have HH := Lib.hid hmh; clear hmh
  have hb1 : Below w.heap.size w ((w.alloc (.cells #[.int .u64 (vl : Int), .int .u64 (vh : Int)] 141)).alloc (.cells #[.int .u64 (rl : Int), .int .u64 (rh : Int)] 141)) := Below.alloc (Below.alloc (Below.refl _ _) (Nat.le_refl _) _) (by simp) _
  clear hs0 hs1 hc0 hvl hvh hrl hrh hd0 hV
  simp only [Int.natCast_zero] at hA
  go_enter Tryz.func96, Tryz.ntmps96
  go_wp2_with (first
    | (go_at_call 92; refine (mul19_any _ x hx).mono ?_; rintro e w ⟨rfl, rfl⟩)
    | (go_at_call 99; refine (Tryz.bits_Mul64 (19 * x) y (by omega) hy _).mono ?_; rintro e w ⟨rfl, rfl⟩; rw [← HM.out, ← HL.out, ← HH.out]))
  go_returns
  exact ⟨rfl, hb1⟩

set_option maxRecDepth 100000 in
set_option maxHeartbeats 400000 in
theorem addMul38_any (w : World) (V x y : Nat) (hx : x < 576460752303423488) (hy : y < 9223372036854775808) (hV : V + 19 * x * (2 * y) < 340282366920938463463374607431768211456) :
    Calls Tryz.prog 95 #[u128 V, .int .u64 (x : Int), .int .u64 (y : Int)] w fun e w' => e = .returned (u128 (V + 19 * x * (2 * y))) ∧ Below w.heap.size w w' := by
  obtain ⟨m, hm⟩ : ∃ m, m = 19 * x * (2 * y) := ⟨_, rfl⟩
  rw [← hm] at hV ⊢
  unfold u128
  obtain ⟨vl, hvl⟩ : ∃ vl, vl = V % 18446744073709551616 := ⟨_, rfl⟩
  obtain ⟨vh, hvh⟩ : ∃ vh, vh = V / 18446744073709551616 := ⟨_, rfl⟩
  obtain ⟨ml, hml⟩ : ∃ ml, ml = m % 18446744073709551616 := ⟨_, rfl⟩
  obtain ⟨mh, hmh⟩ : ∃ mh, mh = m / 18446744073709551616 := ⟨_, rfl⟩
  obtain ⟨c0, hc0⟩ : ∃ c0, c0 = (ml + vl) / 18446744073709551616 := ⟨_, rfl⟩
  have hs0 : (ml + vl + 0) % 18446744073709551616 = (V + m) % 18446744073709551616 := by omega
  have hs1 : (mh + vh + c0) % 18446744073709551616 = (V + m) / 18446744073709551616 := by omega
  have hc1 : c0 ≤ 1 := by omega
  have hA := fun w => add64_run ml vl 0 (by decide) w
  have hB := fun w => add64_run mh vh c0 hc1 w
  rw [hs0, show (ml + vl + 0) / 18446744073709551616 = c0 from by omega] at hA
  rw [hs1] at hB
  obtain ⟨d0, hd0⟩ : ∃ d0, d0 = (mh + vh + c0) / 18446744073709551616 := ⟨_, rfl⟩
  rw [← hd0] at hB
  obtain ⟨rl, hrl⟩ : ∃ rl, rl = (V + m) % 18446744073709551616 := ⟨_, rfl⟩
  obtain ⟨rh, hrh⟩ : ∃ rh, rh = (V + m) / 18446744073709551616 := ⟨_, rfl⟩
  rw [← hrl] at hA ⊢
  rw [← hrh] at hB ⊢
  rw [← hvl, ← hvh]
  have HM := Lib.hid hm; clear hm
  have HL := Lib.hid hml; clear hml
  have HH := Lib.hid hmh; clear hmh
  have hb1 : Below w.heap.size w ((w.alloc (.cells #[.int .u64 (vl : Int), .int .u64 (vh : Int)] 141)).alloc (.cells #[.int .u64 (rl : Int), .int .u64 (rh : Int)] 141)) := Below.alloc (Below.alloc (Below.refl _ _) (Nat.le_refl _) _) (by simp) _
  clear hs0 hs1 hc0 hvl hvh hrl hrh hd0 hV
  simp only [Int.natCast_zero] at hA
  go_enter Tryz.func95, Tryz.ntmps95
  go_wp2_with (first
    | (go_at_call 92; refine (mul19_any _ x hx).mono ?_; rintro e w ⟨rfl, rfl⟩)
    | (go_at_call 99; rw [show (y : Int) * 2 = ((2 * y : Nat) : Int) from by omega]; refine (Tryz.bits_Mul64 (19 * x) (2 * y) (by omega) (by omega) _).mono ?_; rintro e w ⟨rfl, rfl⟩; rw [← HM.out, ← HL.out, ← HH.out]))
  go_returns
  exact ⟨rfl, hb1⟩

set_option maxRecDepth 100000 in
set_option maxHeartbeats 400000 in
theorem shr51_any (w : World) (V : Nat) (hV : V < 41538374868278621028243970633760768) :
    Calls Tryz.prog 98 #[u128 V] w fun e w' => e = .returned (.int .u64 ((V / 2251799813685248 : Nat) : Int)) ∧ Below w.heap.size w w' := by
  unfold u128
  obtain ⟨vl, hvl⟩ : ∃ vl, vl = V % 18446744073709551616 := ⟨_, rfl⟩
  obtain ⟨vh, hvh⟩ : ∃ vh, vh = V / 18446744073709551616 := ⟨_, rfl⟩
  rw [← hvl, ← hvh]
  have hb1 : vl < 18446744073709551616 := by omega
  have hb2 : vh < 2251799813685248 := by omega
  have e1 : bits BinOp.or IntKind.u64 ((vh : Int) * 8192) ((vl : Int) / 2251799813685248) = ((V / 2251799813685248 : Nat) : Int) := by
    rw [show (vh : Int) * 8192 = ((vh * 8192 : Nat) : Int) from by omega, show (vl : Int) / 2251799813685248 = ((vl / 2251799813685248 : Nat) : Int) from by omega, u64_or_nat _ _ (by omega) (by omega), nat_join 13 _ _ (by omega) (by omega)]
    omega
  obtain ⟨r, hr⟩ : ∃ r, r = V / 2251799813685248 := ⟨_, rfl⟩
  rw [← hr] at e1 ⊢
  clear hvl hvh hV hr
  go_enter Tryz.func98, Tryz.ntmps98
  go_wp2
  go_ret
  exact ⟨rfl, Below.alloc (Below.refl _ _) (Nat.le_refl _) _⟩
end Go.Proofs.YthjminkkmljjhaaGreatDoor

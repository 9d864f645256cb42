/- Poly1305's helpers in the package: sums and differences with a carry, 128-bit numbers. Conditions: no sum passes 2^128. -/
import Derived.Test.YtkocgogpbammaaaDoorShelf
import Derived.Test.YtkocgogpbammaaaDoorOw
import Derived.Test.YtkocgogpbammaaaDoorHl
import Derived.Laws.Externs
import Derived.Handy
set_option linter.unusedVariables false
set_option linter.unusedSimpArgs false
namespace Go.Proofs.YtkocgogpbammaaaDoor
open Go.RowKit

theorem add64_run (x y c : Nat) (hc : c ≤ 1) (w : World) :
    (callFunc 84 #[.int .u64 (x : Int), .int .u64 (y : Int), .int .u64 (c : Int)]).run Tryd.prog w =
      .ok (.value (.tuple #[.int .u64 (((x + y + c) % 18446744073709551616 : Nat) : Int), .int .u64 (((x + y + c) / 18446744073709551616 : Nat) : Int)])) w := by
  rw [run_callFunc_extern Tryd.func84 (by kernel_rfl) (by kernel_rfl) (by kernel_rfl) (e := add64Entry) (by kernel_rfl), run_add64 x y c (by omega) (by omega) (by omega) (by omega)]
  simp only [Result.andThen]
  congr 5 <;> omega
def subEntry : Array Value → Sem Value := fun args => do
  let (x, y, b) ← Extern.MathBitsCarry.three "Sub64" args
  pure (Extern.MathBitsCarry.pair ((x + Extern.MathBitsCarry.m64 - y - b) % Extern.MathBitsCarry.m64) (if x < y + b then 1 else 0))
theorem sub64_run (x y b : Nat) (hb : b ≤ 1) (w : World) :
    (callFunc 88 #[.int .u64 (x : Int), .int .u64 (y : Int), .int .u64 (b : Int)]).run Tryd.prog w =
      .ok (.value (.tuple #[.int .u64 (((x + 18446744073709551616 - y - b) % 18446744073709551616 : Nat) : Int), .int .u64 ((if x < y + b then 1 else 0 : Nat) : Int)])) w := by
  rw [run_callFunc_extern Tryd.func88 (by kernel_rfl) (by kernel_rfl) (by kernel_rfl) (e := subEntry) (by kernel_rfl)]
  have : b = 0 ∨ b = 1 := by omega
  rcases this with rfl | rfl <;> rfl

/-- A number of 128 bits as the struct uint128. -/
def u128 (V : Nat) : Value := .agg #[.int .u64 ((V % 18446744073709551616 : Nat) : Int), .int .u64 ((V / 18446744073709551616 : Nat) : Int)]

set_option maxRecDepth 100000 in
set_option maxHeartbeats 400000 in
theorem mul64_any (w : World) (x y : Nat) (hx : x < 18446744073709551616) (hy : y < 18446744073709551616) :
    Calls Tryd.prog 85 #[.int .u64 (x : Int), .int .u64 (y : Int)] w fun e w' => e = .returned (u128 (x * y)) ∧ Below w.heap.size w w' := by
  obtain ⟨ml, hml⟩ : ∃ ml, ml = x * y % 18446744073709551616 := ⟨_, rfl⟩
  obtain ⟨mh, hmh⟩ : ∃ mh, mh = x * y / 18446744073709551616 := ⟨_, rfl⟩
  unfold u128
  rw [← hml, ← hmh]
  have HL := Lib.hid hml; clear hml
  have HH := Lib.hid hmh; clear hmh
  go_enter Tryd.func85, Tryd.ntmps85
  go_wp2_with (go_at_call 92; refine (Tryd.bits_Mul64 x y hx hy _).mono ?_; rintro e w ⟨rfl, rfl⟩; rw [← HL.out, ← HH.out])
  go_returns
  exact ⟨rfl, Below.alloc (Below.refl _ _) (Nat.le_refl _) _⟩

set_option maxRecDepth 100000 in
set_option maxHeartbeats 400000 in
theorem add128_any (w : World) (V U : Nat) (hV : V + U < 340282366920938463463374607431768211456) :
    Calls Tryd.prog 86 #[u128 V, u128 U] w fun e w' => e = .returned (u128 (V + U)) ∧ Below w.heap.size w w' := by
  unfold u128
  obtain ⟨vl, hvl⟩ : ∃ vl, vl = V % 18446744073709551616 := ⟨_, rfl⟩
  obtain ⟨vh, hvh⟩ : ∃ vh, vh = V / 18446744073709551616 := ⟨_, rfl⟩
  obtain ⟨ul, hul⟩ : ∃ ul, ul = U % 18446744073709551616 := ⟨_, rfl⟩
  obtain ⟨uh, huh⟩ : ∃ uh, uh = U / 18446744073709551616 := ⟨_, rfl⟩
  obtain ⟨c0, hc0⟩ : ∃ c0, c0 = (vl + ul) / 18446744073709551616 := ⟨_, rfl⟩
  have hs0 : (vl + ul + 0) % 18446744073709551616 = (V + U) % 18446744073709551616 := by omega
  have hs1 : (vh + uh + c0) % 18446744073709551616 = (V + U) / 18446744073709551616 := by omega
  have hs2 : (vh + uh + c0) / 18446744073709551616 = 0 := by omega
  have hc1 : c0 ≤ 1 := by omega
  have hA := fun w => add64_run vl ul 0 (by decide) w
  have hB := fun w => add64_run vh uh c0 hc1 w
  rw [hs0, show (vl + ul + 0) / 18446744073709551616 = c0 from by omega] at hA
  rw [hs1, hs2] at hB
  obtain ⟨rl, hrl⟩ : ∃ rl, rl = (V + U) % 18446744073709551616 := ⟨_, rfl⟩
  obtain ⟨rh, hrh⟩ : ∃ rh, rh = (V + U) / 18446744073709551616 := ⟨_, rfl⟩
  rw [← hrl] at hA ⊢
  rw [← hrh] at hB ⊢
  rw [← hvl, ← hvh, ← hul, ← huh]
  clear hs0 hs1 hs2 hc0 hvl hvh hul huh hrl hrh hV
  simp only [Int.natCast_zero] at hA hB
  go_enter Tryd.func86, Tryd.ntmps86
  go_wp2_with fail
  go_returns
  exact ⟨rfl, Below.alloc (Below.alloc (Below.alloc (Below.refl _ _) (Nat.le_refl _) _) (by simp) _) (by simp; omega) _⟩

set_option maxRecDepth 100000 in
set_option maxHeartbeats 400000 in
theorem shr2_any (w : World) (V : Nat) (hV : V < 340282366920938463463374607431768211456) :
    Calls Tryd.prog 87 #[u128 V] w fun e w' => e = .returned (u128 (V / 4)) ∧ Below w.heap.size w w' := by
  unfold u128
  obtain ⟨vl, hvl⟩ : ∃ vl, vl = V % 18446744073709551616 := ⟨_, rfl⟩
  obtain ⟨vh, hvh⟩ : ∃ vh, vh = V / 18446744073709551616 := ⟨_, rfl⟩
  obtain ⟨rl, hrl⟩ : ∃ rl, rl = V / 4 % 18446744073709551616 := ⟨_, rfl⟩
  obtain ⟨rh, hrh⟩ : ∃ rh, rh = V / 4 / 18446744073709551616 := ⟨_, rfl⟩
  rw [← hvl, ← hvh, ← hrl, ← hrh]
  obtain ⟨a, ha⟩ : ∃ a, a = vl / 4 := ⟨_, rfl⟩
  obtain ⟨b, hb⟩ : ∃ b, b = vh % 4 := ⟨_, rfl⟩
  have la : a < 4611686018427387904 := by omega
  have lb : b < 4 := by omega
  have lvh : vh < 18446744073709551616 := by omega
  have e1 : bits .and .u64 (vh : Int) 3 = (b : Int) := by
    rw [show (3 : Int) = ((3 : Nat) : Int) from rfl, u64_and_nat vh 3 lvh (by decide), show (3 : Nat) = 2 ^ 2 - 1 from rfl, Nat.and_two_pow_sub_one_eq_mod, hb]
  have e2 : (vl : Int) / 4 = (a : Int) := by omega
  have e4 : bits .or .u64 (a : Int) ((b : Int) * 4611686018427387904) = (rl : Int) := by
    rw [show (b : Int) * 4611686018427387904 = ((b * 4611686018427387904 : Nat) : Int) from by omega, u64_or_nat a _ (by omega) (by omega), show (4611686018427387904 : Nat) = 2 ^ 62 from rfl, or_add a b 62 (by omega)]
    simp only [Nat.reducePow]
    omega
  have e5 : (vh : Int) / 4 = (rh : Int) := by omega
  clear hvl hvh hrl hrh ha hb hV la
  go_enter Tryd.func87, Tryd.ntmps87
  go_wp2_with fail
  go_returns
  exact ⟨rfl, Below.alloc (Below.alloc (Below.refl _ _) (Nat.le_refl _) _) (by simp) _⟩

set_option maxRecDepth 100000 in
set_option maxHeartbeats 400000 in
theorem select64_1 (w : World) (x y : Nat) (hx : x < 18446744073709551616) (hy : y < 18446744073709551616) :
    Calls Tryd.prog 89 #[.int .u64 1, .int .u64 (x : Int), .int .u64 (y : Int)] w fun e w' => e = .returned (.int .u64 (x : Int)) ∧ w' = w := by
  have e0 : bits .and .u64 0 (y : Int) = 0 := by
    have h := u64_and_nat 0 y (by decide) hy
    rw [Nat.zero_and] at h; exact h
  have e1 : bits .and .u64 18446744073709551615 (x : Int) = (x : Int) := by
    have h := u64_and_nat 18446744073709551615 x (by decide) hx
    rw [show (18446744073709551615 : Nat) = 2 ^ 64 - 1 from rfl, Nat.and_comm, Nat.and_two_pow_sub_one_eq_mod, Nat.mod_eq_of_lt hx] at h; exact h
  have e2 : bits .or .u64 (x : Int) 0 = (x : Int) := by
    have h := u64_or_nat x 0 hx (by decide)
    rw [Nat.or_zero] at h; exact h
  go_enter Tryd.func89, Tryd.ntmps89
  go_wp2_with fail
  go_ret
  refine ⟨?_, rfl⟩
  show Ending.returned (Value.int .u64 (bits .or .u64 (bits .and .u64 (bits .xor .u64 IntKind.u64.max 0) (x : Int)) 0)) = _
  rw [show bits .xor .u64 IntKind.u64.max 0 = 18446744073709551615 from by decide, e1, e2]
set_option maxRecDepth 100000 in
set_option maxHeartbeats 400000 in
theorem select64_0 (w : World) (x y : Nat) (hx : x < 18446744073709551616) (hy : y < 18446744073709551616) :
    Calls Tryd.prog 89 #[.int .u64 0, .int .u64 (x : Int), .int .u64 (y : Int)] w fun e w' => e = .returned (.int .u64 (y : Int)) ∧ w' = w := by
  have e0 : bits .and .u64 0 (x : Int) = 0 := by
    have h := u64_and_nat 0 x (by decide) hx
    rw [Nat.zero_and] at h; exact h
  have e1 : bits .and .u64 18446744073709551615 (y : Int) = (y : Int) := by
    have h := u64_and_nat 18446744073709551615 y (by decide) hy
    rw [show (18446744073709551615 : Nat) = 2 ^ 64 - 1 from rfl, Nat.and_comm, Nat.and_two_pow_sub_one_eq_mod, Nat.mod_eq_of_lt hy] at h; exact h
  have e2 : bits .or .u64 0 (y : Int) = (y : Int) := by
    have h := u64_or_nat 0 y (by decide) hy
    rw [Nat.zero_or] at h; exact h
  go_enter Tryd.func89, Tryd.ntmps89
  go_wp2_with fail
  go_ret
  refine ⟨?_, rfl⟩
  show Ending.returned (Value.int .u64 (bits .or .u64 (bits .and .u64 (bits .xor .u64 IntKind.u64.max (IntKind.u64.wrap (-1))) (x : Int)) (bits .and .u64 (IntKind.u64.wrap (-1)) (y : Int)))) = _
  rw [show IntKind.u64.wrap (-1) = 18446744073709551615 from by decide, show bits .xor .u64 IntKind.u64.max 18446744073709551615 = 0 from by decide, e0, e1, e2]
end Go.Proofs.YtkocgogpbammaaaDoor

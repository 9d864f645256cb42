/- ChaCha20's rotations and quarter round in the package, and the reference's left. Conditions: words below 2^32. (Printed by wip/genhq.py.) -/
import Derived.Test.YtkocgogpbammaaaDoorArr
import Derived.Handy
import Derived.Deep.QuietTactic
import Derived.BigQuiet
set_option linter.unusedVariables false
set_option linter.unusedSimpArgs false
namespace Go.Proofs.YtkocgogpbammaaaDoor
open Go.RowKit

theorem results_tmp4 {fn : Func} {t u v x : Tmp} (h : fn.results = #[.tmp t, .tmp u, .tmp v, .tmp x]) (tmps : Array Value) (P : Program) (w : World) :
    (results fn tmps).run P w = .ok (.tuple #[tmps.getD t undef, tmps.getD u undef, tmps.getD v undef, tmps.getD x undef]) w := by
  simp [results, h]
/-- A word turned left. -/
def rl (n x : Nat) : Nat := x * 2 ^ n % 4294967296 ||| x / 2 ^ (32 - n)
def ad (a b : Nat) : Nat := (a + b) % 4294967296
theorem ad_lt (a b : Nat) : ad a b < 4294967296 := Nat.mod_lt _ (by decide)
theorem rl_lt (n x : Nat) (hx : x < 4294967296) : rl n x < 4294967296 :=
  Nat.or_lt_two_pow (n := 32) (Nat.mod_lt _ (by decide)) (Nat.lt_of_le_of_lt (Nat.div_le_self _ _) hx)
theorem xor_lt32 {a b : Nat} (ha : a < 4294967296) (hb : b < 4294967296) : a ^^^ b < 4294967296 := Nat.xor_lt_two_pow (n := 32) ha hb
/-- The quarter round. -/
def qr (a b c d : Nat) : Nat × Nat × Nat × Nat :=
  let a1 := ad a b
  let d1 := rl 16 (d ^^^ a1)
  let c1 := ad c d1
  let b1 := rl 12 (b ^^^ c1)
  let a2 := ad a1 b1
  let d2 := rl 8 (d1 ^^^ a2)
  let c2 := ad c1 d2
  let b2 := rl 7 (b1 ^^^ c2)
  (a2, b2, c2, d2)
theorem qr_lt (a b c d : Nat) (hb : b < 4294967296) (hd : d < 4294967296) : (qr a b c d).1 < 4294967296 ∧ (qr a b c d).2.1 < 4294967296 ∧ (qr a b c d).2.2.1 < 4294967296 ∧ (qr a b c d).2.2.2 < 4294967296 := by
  unfold qr
  have h1 := rl_lt 16 _ (xor_lt32 hd (ad_lt a b))
  have h2 := rl_lt 12 _ (xor_lt32 hb (ad_lt c (rl 16 (d ^^^ ad a b))))
  exact ⟨ad_lt _ _, rl_lt _ _ (xor_lt32 h2 (ad_lt _ _)), ad_lt _ _, rl_lt _ _ (xor_lt32 h1 (ad_lt _ _))⟩

set_option maxRecDepth 100000 in
set_option maxHeartbeats 400000 in
theorem rot16_any (w : World) (x : Nat) (hx : x < 4294967296) :
    Calls Tryd.prog 83 #[.int .u32 (x : Int), .int .i64 16] w fun e w' => e = .returned (.int .u32 ((rl 16 x : Nat) : Int)) ∧ w' = w := by
  have hb : bits .and .u64 16 31 = 16 := u64_and_nat 16 31 (by decide) (by decide)
  have ho : bits .or .u32 ((x : Int) * 65536 % 4294967296) ((x : Int) / 65536) = ((rl 16 x : Nat) : Int) := u32_or_nat (x * 65536 % 4294967296) (x / 65536) (by omega) (by omega)
  go_enter Tryd.func83, Tryd.ntmps83
  go_wp2
  go_ret
  exact ⟨rfl, rfl⟩
set_option maxRecDepth 100000 in
set_option maxHeartbeats 400000 in
theorem left16_any (w : World) (x : Nat) (hx : x < 4294967296) :
    Calls Tryd.prog 37 #[.int .u32 (x : Int), .int .i64 16] w fun e w' => e = .returned (.int .u32 ((rl 16 x : Nat) : Int)) ∧ ∃ k, w' = w.drewN k := by
  have ho : bits .or .u32 ((x : Int) * 65536 % 4294967296) ((x : Int) / 65536) = ((rl 16 x : Nat) : Int) := u32_or_nat (x * 65536 % 4294967296) (x / 65536) (by omega) (by omega)
  go_enter Tryd.func37, Tryd.ntmps37
  go_wp2
  go_quiet (fail)
  go_wp2
  go_ret
  refine ⟨?_, _, rfl⟩
  rw [← ho]; rfl

set_option maxRecDepth 100000 in
set_option maxHeartbeats 400000 in
theorem rot12_any (w : World) (x : Nat) (hx : x < 4294967296) :
    Calls Tryd.prog 83 #[.int .u32 (x : Int), .int .i64 12] w fun e w' => e = .returned (.int .u32 ((rl 12 x : Nat) : Int)) ∧ w' = w := by
  have hb : bits .and .u64 12 31 = 12 := u64_and_nat 12 31 (by decide) (by decide)
  have ho : bits .or .u32 ((x : Int) * 4096 % 4294967296) ((x : Int) / 1048576) = ((rl 12 x : Nat) : Int) := u32_or_nat (x * 4096 % 4294967296) (x / 1048576) (by omega) (by omega)
  go_enter Tryd.func83, Tryd.ntmps83
  go_wp2
  go_ret
  exact ⟨rfl, rfl⟩
set_option maxRecDepth 100000 in
set_option maxHeartbeats 400000 in
theorem left12_any (w : World) (x : Nat) (hx : x < 4294967296) :
    Calls Tryd.prog 37 #[.int .u32 (x : Int), .int .i64 12] w fun e w' => e = .returned (.int .u32 ((rl 12 x : Nat) : Int)) ∧ ∃ k, w' = w.drewN k := by
  have ho : bits .or .u32 ((x : Int) * 4096 % 4294967296) ((x : Int) / 1048576) = ((rl 12 x : Nat) : Int) := u32_or_nat (x * 4096 % 4294967296) (x / 1048576) (by omega) (by omega)
  go_enter Tryd.func37, Tryd.ntmps37
  go_wp2
  go_quiet (fail)
  go_wp2
  go_ret
  refine ⟨?_, _, rfl⟩
  rw [← ho]; rfl

set_option maxRecDepth 100000 in
set_option maxHeartbeats 400000 in
theorem rot8_any (w : World) (x : Nat) (hx : x < 4294967296) :
    Calls Tryd.prog 83 #[.int .u32 (x : Int), .int .i64 8] w fun e w' => e = .returned (.int .u32 ((rl 8 x : Nat) : Int)) ∧ w' = w := by
  have hb : bits .and .u64 8 31 = 8 := u64_and_nat 8 31 (by decide) (by decide)
  have ho : bits .or .u32 ((x : Int) * 256 % 4294967296) ((x : Int) / 16777216) = ((rl 8 x : Nat) : Int) := u32_or_nat (x * 256 % 4294967296) (x / 16777216) (by omega) (by omega)
  go_enter Tryd.func83, Tryd.ntmps83
  go_wp2
  go_ret
  exact ⟨rfl, rfl⟩
set_option maxRecDepth 100000 in
set_option maxHeartbeats 400000 in
theorem left8_any (w : World) (x : Nat) (hx : x < 4294967296) :
    Calls Tryd.prog 37 #[.int .u32 (x : Int), .int .i64 8] w fun e w' => e = .returned (.int .u32 ((rl 8 x : Nat) : Int)) ∧ ∃ k, w' = w.drewN k := by
  have ho : bits .or .u32 ((x : Int) * 256 % 4294967296) ((x : Int) / 16777216) = ((rl 8 x : Nat) : Int) := u32_or_nat (x * 256 % 4294967296) (x / 16777216) (by omega) (by omega)
  go_enter Tryd.func37, Tryd.ntmps37
  go_wp2
  go_quiet (fail)
  go_wp2
  go_ret
  refine ⟨?_, _, rfl⟩
  rw [← ho]; rfl

set_option maxRecDepth 100000 in
set_option maxHeartbeats 400000 in
theorem rot7_any (w : World) (x : Nat) (hx : x < 4294967296) :
    Calls Tryd.prog 83 #[.int .u32 (x : Int), .int .i64 7] w fun e w' => e = .returned (.int .u32 ((rl 7 x : Nat) : Int)) ∧ w' = w := by
  have hb : bits .and .u64 7 31 = 7 := u64_and_nat 7 31 (by decide) (by decide)
  have ho : bits .or .u32 ((x : Int) * 128 % 4294967296) ((x : Int) / 33554432) = ((rl 7 x : Nat) : Int) := u32_or_nat (x * 128 % 4294967296) (x / 33554432) (by omega) (by omega)
  go_enter Tryd.func83, Tryd.ntmps83
  go_wp2
  go_ret
  exact ⟨rfl, rfl⟩
set_option maxRecDepth 100000 in
set_option maxHeartbeats 400000 in
theorem left7_any (w : World) (x : Nat) (hx : x < 4294967296) :
    Calls Tryd.prog 37 #[.int .u32 (x : Int), .int .i64 7] w fun e w' => e = .returned (.int .u32 ((rl 7 x : Nat) : Int)) ∧ ∃ k, w' = w.drewN k := by
  have ho : bits .or .u32 ((x : Int) * 128 % 4294967296) ((x : Int) / 33554432) = ((rl 7 x : Nat) : Int) := u32_or_nat (x * 128 % 4294967296) (x / 33554432) (by omega) (by omega)
  go_enter Tryd.func37, Tryd.ntmps37
  go_wp2
  go_quiet (fail)
  go_wp2
  go_ret
  refine ⟨?_, _, rfl⟩
  rw [← ho]; rfl

set_option maxRecDepth 100000 in
set_option maxHeartbeats 1000000 in
theorem quarterRound_any (w : World) (a b c d : Nat) (ha : a < 4294967296) (hb : b < 4294967296) (hc : c < 4294967296) (hd : d < 4294967296) :
    Calls Tryd.prog 76 #[.int .u32 (a : Int), .int .u32 (b : Int), .int .u32 (c : Int), .int .u32 (d : Int)] w fun e w' => e = .returned (.tuple #[.int .u32 ((qr a b c d).1 : Int), .int .u32 ((qr a b c d).2.1 : Int), .int .u32 ((qr a b c d).2.2.1 : Int), .int .u32 ((qr a b c d).2.2.2 : Int)]) ∧ w' = w := by
  obtain ⟨a1, ea1⟩ : ∃ x, x = ad a b := ⟨_, rfl⟩
  obtain ⟨d0, ed0⟩ : ∃ x, x = d ^^^ a1 := ⟨_, rfl⟩
  obtain ⟨d1, ed1⟩ : ∃ x, x = rl 16 d0 := ⟨_, rfl⟩
  obtain ⟨c1, ec1⟩ : ∃ x, x = ad c d1 := ⟨_, rfl⟩
  obtain ⟨b0, eb0⟩ : ∃ x, x = b ^^^ c1 := ⟨_, rfl⟩
  obtain ⟨b1, eb1⟩ : ∃ x, x = rl 12 b0 := ⟨_, rfl⟩
  obtain ⟨a2, ea2⟩ : ∃ x, x = ad a1 b1 := ⟨_, rfl⟩
  obtain ⟨d3, ed3⟩ : ∃ x, x = d1 ^^^ a2 := ⟨_, rfl⟩
  obtain ⟨d2, ed2⟩ : ∃ x, x = rl 8 d3 := ⟨_, rfl⟩
  obtain ⟨c2, ec2⟩ : ∃ x, x = ad c1 d2 := ⟨_, rfl⟩
  obtain ⟨b3, eb3⟩ : ∃ x, x = b1 ^^^ c2 := ⟨_, rfl⟩
  obtain ⟨b2, eb2⟩ : ∃ x, x = rl 7 b3 := ⟨_, rfl⟩
  have e : qr a b c d = (a2, b2, c2, d2) := by unfold qr; subst ea1 ed0 ed1 ec1 eb0 eb1 ea2 ed3 ed2 ec2 eb3 eb2; rfl
  rw [e]
  have la1 : a1 < 4294967296 := by rw [ea1]; exact ad_lt _ _
  have ld0 : d0 < 4294967296 := by rw [ed0]; exact xor_lt32 hd la1
  have ld1 : d1 < 4294967296 := by rw [ed1]; exact rl_lt _ _ ld0
  have lc1 : c1 < 4294967296 := by rw [ec1]; exact ad_lt _ _
  have lb0 : b0 < 4294967296 := by rw [eb0]; exact xor_lt32 hb lc1
  have lb1 : b1 < 4294967296 := by rw [eb1]; exact rl_lt _ _ lb0
  have la2 : a2 < 4294967296 := by rw [ea2]; exact ad_lt _ _
  have ld3 : d3 < 4294967296 := by rw [ed3]; exact xor_lt32 ld1 la2
  have ld2 : d2 < 4294967296 := by rw [ed2]; exact rl_lt _ _ ld3
  have lc2 : c2 < 4294967296 := by rw [ec2]; exact ad_lt _ _
  have lb3 : b3 < 4294967296 := by rw [eb3]; exact xor_lt32 lb1 lc2
  have fa1 : ((a : Int) + (b : Int)) % 4294967296 = (a1 : Int) := by rw [ea1]; rfl
  have fd0 : bits .xor .u32 (d : Int) (a1 : Int) = (d0 : Int) := by rw [ed0]; exact u32_xor_nat d a1 hd la1
  have fc1 : ((c : Int) + (d1 : Int)) % 4294967296 = (c1 : Int) := by rw [ec1]; rfl
  have fb0 : bits .xor .u32 (b : Int) (c1 : Int) = (b0 : Int) := by rw [eb0]; exact u32_xor_nat b c1 hb lc1
  have fa2 : ((a1 : Int) + (b1 : Int)) % 4294967296 = (a2 : Int) := by rw [ea2]; rfl
  have fd3 : bits .xor .u32 (d1 : Int) (a2 : Int) = (d3 : Int) := by rw [ed3]; exact u32_xor_nat d1 a2 ld1 la2
  have fc2 : ((c1 : Int) + (d2 : Int)) % 4294967296 = (c2 : Int) := by rw [ec2]; rfl
  have fb3 : bits .xor .u32 (b1 : Int) (c2 : Int) = (b3 : Int) := by rw [eb3]; exact u32_xor_nat b1 c2 lb1 lc2
  have hr1 := fun w => rot16_any w d0 ld0
  have hr2 := fun w => rot12_any w b0 lb0
  have hr3 := fun w => rot8_any w d3 ld3
  have hr4 := fun w => rot7_any w b3 lb3
  rw [← ed1] at hr1
  rw [← eb1] at hr2
  rw [← ed2] at hr3
  rw [← eb2] at hr4
  clear e ea1 ed0 ed1 ec1 eb0 eb1 ea2 ed3 ed2 ec2 eb3 eb2
  have R1 := Lib.hid hr1
  have R2 := Lib.hid hr2
  have R3 := Lib.hid hr3
  have R4 := Lib.hid hr4
  clear hr1 hr2 hr3 hr4
  go_enter Tryd.func76, Tryd.ntmps76
  go_wp2_with fail
  refine (R1.out _).mono ?_
  rintro e w ⟨rfl, rfl⟩
  go_wp2_with fail
  refine (R2.out _).mono ?_
  rintro e w ⟨rfl, rfl⟩
  go_wp2_with fail
  refine (R3.out _).mono ?_
  rintro e w ⟨rfl, rfl⟩
  go_wp2_with fail
  refine (R4.out _).mono ?_
  rintro e w ⟨rfl, rfl⟩
  go_wp2_with fail
  try simp only [Exit.inBlock, Exit.then]
  refine bodyPost_ret (results_tmp4 rfl _ _ _) rfl ?_
  exact ⟨rfl, rfl⟩
end Go.Proofs.YtkocgogpbammaaaDoor

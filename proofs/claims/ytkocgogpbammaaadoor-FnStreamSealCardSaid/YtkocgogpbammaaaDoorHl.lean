/- The reference's little: the number of four bytes. Conditions: four bytes at least. -/
import Derived.Test.YtkocgogpbammaaaDoorHs
set_option linter.unusedVariables false
set_option linter.unusedSimpArgs false
namespace Go.Proofs.YtkocgogpbammaaaDoor
open Go.RowKit

/-- The number of four bytes, the lowest first. -/
def le4 (a b c d : UInt8) : Nat := a.toNat + 256 * b.toNat + 65536 * c.toNat + 16777216 * d.toNat
theorem le4_lt (a b c d : UInt8) : le4 a b c d < 4294967296 := by
  unfold le4
  have := UInt8.toNat_lt a; have := UInt8.toNat_lt b; have := UInt8.toNat_lt c; have := UInt8.toNat_lt d
  omega
theorem or_add (x y k : Nat) (hx : x < 2 ^ k) : x ||| y * 2 ^ k = x + y * 2 ^ k := by
  rw [Nat.or_comm, Nat.mul_comm y, ← Nat.two_pow_add_eq_or_of_lt hx, Nat.add_comm]
theorem le4_or (a b c d : UInt8) : ((a.toNat ||| b.toNat * 256) ||| c.toNat * 65536) ||| d.toNat * 16777216 = le4 a b c d := by
  have h1 := UInt8.toNat_lt a; have h2 := UInt8.toNat_lt b; have h3 := UInt8.toNat_lt c; have h4 := UInt8.toNat_lt d
  have e1 := or_add a.toNat b.toNat 8 (by omega)
  have e2 := or_add (a.toNat + b.toNat * 256) c.toNat 16 (by omega)
  have e3 := or_add (a.toNat + b.toNat * 256 + c.toNat * 65536) d.toNat 24 (by omega)
  simp only [show (2:Nat) ^ 8 = 256 from rfl, show (2:Nat) ^ 16 = 65536 from rfl, show (2:Nat) ^ 24 = 16777216 from rfl] at e1 e2 e3
  rw [e1, e2, e3]; unfold le4; omega

set_option maxRecDepth 100000 in
set_option maxHeartbeats 1000000 in
theorem little_any (w : World) (g o n c : Nat) (b0 b1 b2 b3 : UInt8) (hn : 4 ≤ n) (c0 : w.cell? ⟨g, o, none⟩ = some (.int .u8 (b0.toNat : Int))) (c1 : w.cell? ⟨g, o + 1, none⟩ = some (.int .u8 (b1.toNat : Int))) (c2 : w.cell? ⟨g, o + 2, none⟩ = some (.int .u8 (b2.toNat : Int))) (c3 : w.cell? ⟨g, o + 3, none⟩ = some (.int .u8 (b3.toNat : Int))) :
    Calls Tryd.prog 31 #[.slice (some ⟨g, o, none⟩) n c] w fun e w' => e = .returned (.int .u32 (le4 b0 b1 b2 b3 : Int)) ∧ ∃ k, w' = w.drewN k := by
  have h0 := UInt8.toNat_lt b0; have h1 := UInt8.toNat_lt b1; have h2 := UInt8.toNat_lt b2; have h3 := UInt8.toNat_lt b3
  have e1 : bits .or .u32 (b0.toNat : Int) ((b1.toNat : Int) * 256) = ((b0.toNat ||| b1.toNat * 256 : Nat) : Int) := u32_or_nat b0.toNat (b1.toNat * 256) (by omega) (by omega)
  obtain ⟨x1, hx1⟩ : ∃ x, x = b0.toNat ||| b1.toNat * 256 := ⟨_, rfl⟩
  have l1 : x1 < 65536 := by rw [hx1]; exact Nat.or_lt_two_pow (n := 16) (by omega) (by omega)
  have e2 : bits .or .u32 (x1 : Int) ((b2.toNat : Int) * 65536) = ((x1 ||| b2.toNat * 65536 : Nat) : Int) := u32_or_nat x1 (b2.toNat * 65536) (by omega) (by omega)
  obtain ⟨x2, hx2⟩ : ∃ x, x = x1 ||| b2.toNat * 65536 := ⟨_, rfl⟩
  have l2 : x2 < 16777216 := by rw [hx2]; exact Nat.or_lt_two_pow (n := 24) (by omega) (by omega)
  have e3 : bits .or .u32 (x2 : Int) ((b3.toNat : Int) * 16777216) = ((le4 b0 b1 b2 b3 : Nat) : Int) := by
    rw [← le4_or, ← hx1, ← hx2]; exact u32_or_nat x2 (b3.toNat * 16777216) (by omega) (by omega)
  rw [← hx1] at e1
  rw [← hx2] at e2
  obtain ⟨v, hv⟩ : ∃ x, x = le4 b0 b1 b2 b3 := ⟨_, rfl⟩
  rw [← hv] at e3 ⊢
  clear hx1 hx2 hv
  have w1 : IntKind.u32.wrap ((b1.toNat : Int) * 256) = (b1.toNat : Int) * 256 := (IntWalk.u32_in _ (by omega)).trans (by omega)
  have w2 : IntKind.u32.wrap ((b2.toNat : Int) * 65536) = (b2.toNat : Int) * 65536 := (IntWalk.u32_in _ (by omega)).trans (by omega)
  have w3 : IntKind.u32.wrap ((b3.toNat : Int) * 16777216) = (b3.toNat : Int) * 16777216 := (IntWalk.u32_in _ (by omega)).trans (by omega)
  have n0 : 0 < n := by omega
  have n1 : (1 : Int) < (n : Int) := by omega
  have n2 : (2 : Int) < (n : Int) := by omega
  have n3 : (3 : Int) < (n : Int) := by omega
  go_enter Tryd.func31, Tryd.ntmps31
  go_wp2
  go_quiet (fail)
  go_wp2
  go_ret
  refine ⟨?_, _, rfl⟩
  rfl
end Go.Proofs.YtkocgogpbammaaaDoor

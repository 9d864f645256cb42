/- ChaCha20's addXor in the package, on four bytes in place. Conditions: words below 2^32. -/
import Derived.Test.YtkocgogpbammaaaDoorOw
import Derived.Test.YtkocgogpbammaaaDoorHl
import Derived.Deep.QuietTactic
import Derived.BigQuiet
set_option linter.unusedVariables false
set_option linter.unusedSimpArgs false
namespace Go.Proofs.YtkocgogpbammaaaDoor
open Go.RowKit

theorem xor_pair (k a b x y : Nat) (ha : a < 2 ^ k) (hx : x < 2 ^ k) : (a + 2 ^ k * b) ^^^ (x + 2 ^ k * y) = (a ^^^ x) + 2 ^ k * (b ^^^ y) := by
  have hax : a ^^^ x < 2 ^ k := Nat.xor_lt_two_pow ha hx
  apply Nat.eq_of_testBit_eq
  intro i
  rw [Nat.testBit_xor, Nat.add_comm a, Nat.add_comm x, Nat.add_comm (a ^^^ x), Nat.testBit_two_pow_mul_add _ ha, Nat.testBit_two_pow_mul_add _ hx, Nat.testBit_two_pow_mul_add _ hax]
  by_cases h : i < k
  · simp [h, Nat.testBit_xor]
  · simp [h, Nat.testBit_xor]
/-- A byte with a word's byte laid over it. -/
def xb (b : UInt8) (x j : Nat) : UInt8 := b ^^^ UInt8.ofNat (x / 256 ^ j)
theorem xb_nat (b : UInt8) (x j : Nat) : (xb b x j).toNat = b.toNat ^^^ (x / 256 ^ j % 256) := by
  unfold xb; rw [UInt8.toNat_xor, UInt8.toNat_ofNat']
theorem le4_xor (b0 b1 b2 b3 : UInt8) (x : Nat) (hx : x < 4294967296) :
    le4 b0 b1 b2 b3 ^^^ x = (xb b0 x 0).toNat + 256 * (xb b1 x 1).toNat + 65536 * (xb b2 x 2).toNat + 16777216 * (xb b3 x 3).toNat := by
  have h0 := UInt8.toNat_lt b0; have h1 := UInt8.toNat_lt b1; have h2 := UInt8.toNat_lt b2; have h3 := UInt8.toNat_lt b3
  have e : le4 b0 b1 b2 b3 = b0.toNat + 2 ^ 8 * (b1.toNat + 2 ^ 8 * (b2.toNat + 2 ^ 8 * b3.toNat)) := by unfold le4; simp only [Nat.reducePow]; omega
  have ex : x = x % 256 + 2 ^ 8 * (x / 256 % 256 + 2 ^ 8 * (x / 65536 % 256 + 2 ^ 8 * (x / 16777216 % 256))) := by simp only [Nat.reducePow]; omega
  rw [xb_nat, xb_nat, xb_nat, xb_nat, e]
  conv => lhs; rw [ex]
  rw [xor_pair 8 _ _ _ _ (by simpa using h0) (by simp only [Nat.reducePow]; omega), xor_pair 8 _ _ _ _ (by simpa using h1) (by simp only [Nat.reducePow]; omega), xor_pair 8 _ _ _ _ (by simpa using h2) (by simp only [Nat.reducePow]; omega)]
  simp only [Nat.reducePow, Nat.div_one, Nat.pow_zero, Nat.pow_one]
  omega

set_option maxRecDepth 100000 in
set_option maxHeartbeats 4000000 in
theorem addXor_any (w : World) (g o c c2 : Nat) (t : TypeId) (vs : List Value) (b0 b1 b2 b3 : UInt8) (a b : Nat) (ha : a < 4294967296) (hb : b < 4294967296) (hA : Arr w g t vs)
    (h0 : vs[o]? = some (.int .u8 (b0.toNat : Int))) (h1 : vs[o + 1]? = some (.int .u8 (b1.toNat : Int))) (h2 : vs[o + 2]? = some (.int .u8 (b2.toNat : Int))) (h3 : vs[o + 3]? = some (.int .u8 (b3.toNat : Int))) :
    Calls Tryd.prog 77 #[.slice (some ⟨g, o, none⟩) 4 c, .slice (some ⟨g, o, none⟩) 4 c2, .int .u32 (a : Int), .int .u32 (b : Int)] w fun e w' => e = .returned (.tuple #[]) ∧
      Arr w' g t ((((vs.set o (.int .u8 ((xb b0 ((a + b) % 4294967296) 0).toNat : Int))).set (o + 1) (.int .u8 ((xb b1 ((a + b) % 4294967296) 1).toNat : Int))).set (o + 2) (.int .u8 ((xb b2 ((a + b) % 4294967296) 2).toNat : Int))).set (o + 3) (.int .u8 ((xb b3 ((a + b) % 4294967296) 3).toNat : Int))) ∧ w.grownBy w' (some g) := by
  have hl3 : o + 3 < vs.length := (List.getElem?_eq_some_iff.1 h3).1
  have rg : ∀ j v, vs[j]? = some v → w.cell? ⟨g, j, none⟩ = some v := fun j v hj => by
    obtain ⟨hl, rfl⟩ := List.getElem?_eq_some_iff.1 hj; exact hA.cell j hl
  have c0 := rg _ _ h0
  have c1 := rg _ _ h1
  have c2' := rg _ _ h2
  have c3 := rg _ _ h3
  have l0 := UInt8.toNat_lt b0; have l1 := UInt8.toNat_lt b1; have l2 := UInt8.toNat_lt b2; have l3 := UInt8.toNat_lt b3
  have e1 : bits .or .u32 (b0.toNat : Int) ((b1.toNat : Int) * 256) = ((b0.toNat ||| b1.toNat * 256 : Nat) : Int) := u32_or_nat b0.toNat (b1.toNat * 256) (by omega) (by omega)
  obtain ⟨x1, hx1⟩ : ∃ x, x = b0.toNat ||| b1.toNat * 256 := ⟨_, rfl⟩
  have lx1 : x1 < 65536 := by rw [hx1]; exact Nat.or_lt_two_pow (n := 16) (by omega) (by omega)
  have e2 : bits .or .u32 (x1 : Int) ((b2.toNat : Int) * 65536) = ((x1 ||| b2.toNat * 65536 : Nat) : Int) := u32_or_nat x1 (b2.toNat * 65536) (by omega) (by omega)
  obtain ⟨x2, hx2⟩ : ∃ x, x = x1 ||| b2.toNat * 65536 := ⟨_, rfl⟩
  have lx2 : x2 < 16777216 := by rw [hx2]; exact Nat.or_lt_two_pow (n := 24) (by omega) (by omega)
  have e3 : bits .or .u32 (x2 : Int) ((b3.toNat : Int) * 16777216) = ((le4 b0 b1 b2 b3 : Nat) : Int) := by
    rw [← le4_or, ← hx1, ← hx2]; exact u32_or_nat x2 (b3.toNat * 16777216) (by omega) (by omega)
  rw [← hx1] at e1
  rw [← hx2] at e2
  obtain ⟨v, hv⟩ : ∃ x, x = le4 b0 b1 b2 b3 := ⟨_, rfl⟩
  have lv : v < 4294967296 := by rw [hv]; exact le4_lt _ _ _ _
  rw [← hv] at e3
  obtain ⟨s, hs⟩ : ∃ s, s = (a + b) % 4294967296 := ⟨_, rfl⟩
  have ls : s < 4294967296 := by rw [hs]; exact Nat.mod_lt _ (by decide)
  have es : IntKind.u32.wrap ((a : Int) + (b : Int)) = (s : Int) := by rw [hs]; rfl
  rw [← hs]
  obtain ⟨z, hz⟩ : ∃ z, z = v ^^^ s := ⟨_, rfl⟩
  have ez : bits .xor .u32 (v : Int) (s : Int) = (z : Int) := by rw [hz]; exact u32_xor_nat v s lv ls
  have hzb : z = (xb b0 s 0).toNat + 256 * (xb b1 s 1).toNat + 65536 * (xb b2 s 2).toNat + 16777216 * (xb b3 s 3).toNat := by rw [hz, hv]; exact le4_xor b0 b1 b2 b3 s ls
  obtain ⟨y0, hy0⟩ : ∃ y, y = xb b0 s 0 := ⟨_, rfl⟩
  obtain ⟨y1, hy1⟩ : ∃ y, y = xb b1 s 1 := ⟨_, rfl⟩
  obtain ⟨y2, hy2⟩ : ∃ y, y = xb b2 s 2 := ⟨_, rfl⟩
  obtain ⟨y3, hy3⟩ : ∃ y, y = xb b3 s 3 := ⟨_, rfl⟩
  rw [← hy0, ← hy1, ← hy2, ← hy3] at hzb
  rw [← hy0, ← hy1, ← hy2, ← hy3]
  have m0 := UInt8.toNat_lt y0; have m1 := UInt8.toNat_lt y1; have m2 := UInt8.toNat_lt y2; have m3 := UInt8.toNat_lt y3
  have w0 : IntKind.u8.wrap (z : Int) = (y0.toNat : Int) := by rw [IntKind.wrap_u8]; omega
  have w1 : IntKind.u8.wrap ((z : Int) / 256) = (y1.toNat : Int) := by rw [IntKind.wrap_u8]; omega
  have w2 : IntKind.u8.wrap ((z : Int) / 65536) = (y2.toNat : Int) := by rw [IntKind.wrap_u8]; omega
  have w3 : IntKind.u8.wrap ((z : Int) / 16777216) = (y3.toNat : Int) := by rw [IntKind.wrap_u8]; omega
  have v1 : IntKind.u32.wrap ((b1.toNat : Int) * 256) = (b1.toNat : Int) * 256 := (IntWalk.u32_in _ (by omega)).trans (by omega)
  have v2 : IntKind.u32.wrap ((b2.toNat : Int) * 65536) = (b2.toNat : Int) * 65536 := (IntWalk.u32_in _ (by omega)).trans (by omega)
  have v3 : IntKind.u32.wrap ((b3.toNat : Int) * 16777216) = (b3.toNat : Int) * 16777216 := (IntWalk.u32_in _ (by omega)).trans (by omega)
  have f0 := hA.fr o
  have f1 := hA.fr (o + 1)
  have f2 := hA.fr (o + 2)
  have f3 := hA.fr (o + 3)
  clear hx1 hx2 hv hs hz hzb hy0 hy1 hy2 hy3 rg h0 h1 h2 h3
  go_enter Tryd.func77, Tryd.ntmps77
  go_wp2_with fail
  go_quiet (fail)
  have hA1 : Arr (w.drewN nq) g t vs := hA
  have g1 : w.grownBy (w.drewN nq) (some g) := grown_drewN (World.grownBy.refl w (some g)) nq
  have c0' : (w.drewN nq).cell? _ = _ := c0
  have c1' : (w.drewN nq).cell? _ = _ := c1
  have c2'' : (w.drewN nq).cell? _ = _ := c2'
  have c3' : (w.drewN nq).cell? _ = _ := c3
  have f0' : (w.drewN nq).frozen? _ = _ := f0
  have f1' : (w.drewN nq).frozen? _ = _ := f1
  have f2' : (w.drewN nq).frozen? _ = _ := f2
  have f3' : (w.drewN nq).frozen? _ = _ := f3
  clear c0 c1 c2' c3 f0 f1 f2 f3
  generalize w.drewN nq = w5 at *
  go_wp2_with fail
  go_end0
  refine ⟨rfl, ?_, grown_set0 (grown_set0 (grown_set0 (grown_set0 g1 o _) (o + 1) _) (o + 2) _) (o + 3) _⟩
  exact (((hA1.set o _ (by omega)).set (o + 1) _ (by simp; omega)).set (o + 2) _ (by simp; omega)).set (o + 3) _ (by simp; omega)
end Go.Proofs.YtkocgogpbammaaaDoor

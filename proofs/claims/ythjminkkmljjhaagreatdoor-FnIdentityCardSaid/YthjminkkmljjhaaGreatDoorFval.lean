/- What five limbs stand for modulo the prime, and what the field's sums, differences and products answer. No program in sight. Conditions: limbs as small as each states. -/
import Derived.Test.YthjminkkmljjhaaGreatDoorFsqn
import Derived.Test.YthjminkkmljjhaaGreatDoorLad
namespace Go.Proofs.YthjminkkmljjhaaGreatDoor
open Go.RowKit

def val (x : L5) : Nat := x.l0 + 2251799813685248 * x.l1 + 5070602400912917605986812821504 * x.l2 + 11417981541647679048466287755595961091061972992 * x.l3 + 25711008708143844408671393477458601640355247900524685364822016 * x.l4
/-- Limbs as the operations leave them. -/
structure Ok (x : L5) : Prop where
  l0 : x.l0 < 2251799880794112
  l1 : x.l1 < 2251799880794112
  l2 : x.l2 < 2251799880794112
  l3 : x.l3 < 2251799880794112
  l4 : x.l4 < 2251799880794112

theorem val_carry (x : L5) : val (carryL x) + pp * (x.l4 / 2251799813685248) = val x := by
  unfold val carryL pp; simp only; omega
theorem val_carry_mod (x : L5) : val (carryL x) % pp = val x % pp := by
  rw [← val_carry x, Nat.add_mul_mod_self_left]
theorem Ok.lim {x : L5} (h : Ok x) : x.l0 < 4503599627370496 ∧ x.l1 < 4503599627370496 ∧ x.l2 < 4503599627370496 ∧ x.l3 < 4503599627370496 ∧ x.l4 < 4503599627370496 := by obtain ⟨_, _, _, _, _⟩ := h; omega
theorem ok_carry (x : L5) (h0 : x.l0 < 18446744073709551616) (h1 : x.l1 < 18446744073709551616) (h2 : x.l2 < 18446744073709551616) (h3 : x.l3 < 18446744073709551616) (h4 : x.l4 < 18446744073709551616) : Ok (carryL x) := by
  constructor <;> simp only [carryL] <;> omega
theorem wide_eq (V : L5) : wideL V = carryL (carryL V) := rfl
theorem val_wide_mod (V : L5) : val (wideL V) % pp = val V % pp := by rw [wide_eq, val_carry_mod, val_carry_mod]
theorem ok_wide (V : L5) (h0 : V.l0 < 20282409603651670423947251286016000) (h1 : V.l1 < 20282409603651670423947251286016000) (h2 : V.l2 < 20282409603651670423947251286016000) (h3 : V.l3 < 20282409603651670423947251286016000) (h4 : V.l4 < 1014120480182583521197362564300800) : Ok (wideL V) := by
  rw [wide_eq]
  apply ok_carry <;> simp only [carryL] <;> omega

theorem val_cols (x y : L5) : val x * val y = val (colsMul x y) + pp * (x.l1 * y.l4 + x.l2 * y.l3 + x.l3 * y.l2 + x.l4 * y.l1 + 2251799813685248 * (x.l2 * y.l4 + x.l3 * y.l3 + x.l4 * y.l2) + 5070602400912917605986812821504 * (x.l3 * y.l4 + x.l4 * y.l3) + 11417981541647679048466287755595961091061972992 * (x.l4 * y.l4)) := by
  obtain ⟨x0, x1, x2, x3, x4⟩ := x
  obtain ⟨y0, y1, y2, y3, y4⟩ := y
  simp only [val, colsMul, pp]
  grind
theorem cols_sq (x : L5) : colsSq x = colsMul x x := by
  obtain ⟨x0, x1, x2, x3, x4⟩ := x
  simp only [colsSq, colsMul, L5.mk.injEq]
  refine ⟨?_, ?_, ?_, ?_, ?_⟩ <;> grind
theorem val_mul (x y : L5) : val (wideL (colsMul x y)) % pp = mulm (val x % pp) (val y % pp) := by
  rw [val_wide_mod]
  unfold mulm
  rw [← Nat.mul_mod, val_cols, Nat.add_mul_mod_self_left]
theorem ok_mul {x y : L5} (hx : Ok x) (hy : Ok y) : Ok (wideL (colsMul x y)) := by
  have h (a b : Nat) (ha : a < 2251799880794112) (hb : b < 2251799880794112) : a * b < 6000000000000000000000000000000 := Nat.lt_of_lt_of_le (Nat.mul_lt_mul'' ha hb) (by decide)
  have a00 := h _ _ hx.l0 hy.l0
  have a01 := h _ _ hx.l0 hy.l1
  have a02 := h _ _ hx.l0 hy.l2
  have a03 := h _ _ hx.l0 hy.l3
  have a04 := h _ _ hx.l0 hy.l4
  have a10 := h _ _ hx.l1 hy.l0
  have a11 := h _ _ hx.l1 hy.l1
  have a12 := h _ _ hx.l1 hy.l2
  have a13 := h _ _ hx.l1 hy.l3
  have a14 := h _ _ hx.l1 hy.l4
  have a20 := h _ _ hx.l2 hy.l0
  have a21 := h _ _ hx.l2 hy.l1
  have a22 := h _ _ hx.l2 hy.l2
  have a23 := h _ _ hx.l2 hy.l3
  have a24 := h _ _ hx.l2 hy.l4
  have a30 := h _ _ hx.l3 hy.l0
  have a31 := h _ _ hx.l3 hy.l1
  have a32 := h _ _ hx.l3 hy.l2
  have a33 := h _ _ hx.l3 hy.l3
  have a34 := h _ _ hx.l3 hy.l4
  have a40 := h _ _ hx.l4 hy.l0
  have a41 := h _ _ hx.l4 hy.l1
  have a42 := h _ _ hx.l4 hy.l2
  have a43 := h _ _ hx.l4 hy.l3
  have a44 := h _ _ hx.l4 hy.l4
  apply ok_wide <;> simp only [colsMul, Nat.mul_assoc] <;> omega
theorem val_add (x y : L5) : val (carryL ⟨x.l0 + y.l0, x.l1 + y.l1, x.l2 + y.l2, x.l3 + y.l3, x.l4 + y.l4⟩) % pp = addm (val x % pp) (val y % pp) := by
  rw [val_carry_mod]
  unfold addm
  rw [← Nat.add_mod]
  congr 1
  unfold val; simp only; omega
theorem ok_add {x y : L5} (hx : Ok x) (hy : Ok y) : Ok (carryL ⟨x.l0 + y.l0, x.l1 + y.l1, x.l2 + y.l2, x.l3 + y.l3, x.l4 + y.l4⟩) := by
  obtain ⟨_, _, _, _, _⟩ := hx
  obtain ⟨_, _, _, _, _⟩ := hy
  apply ok_carry <;> simp only <;> omega
theorem val_sub {x y : L5} (hy : Ok y) : val (carryL ⟨x.l0 + 4503599627370458 - y.l0, x.l1 + 4503599627370494 - y.l1, x.l2 + 4503599627370494 - y.l2, x.l3 + 4503599627370494 - y.l3, x.l4 + 4503599627370494 - y.l4⟩) % pp = subm (val x % pp) (val y % pp) := by
  rw [val_carry_mod]
  obtain ⟨_, _, _, _, _⟩ := hy
  have e : val ⟨x.l0 + 4503599627370458 - y.l0, x.l1 + 4503599627370494 - y.l1, x.l2 + 4503599627370494 - y.l2, x.l3 + 4503599627370494 - y.l3, x.l4 + 4503599627370494 - y.l4⟩ + val y = val x + 2 * pp := by
    unfold val pp; simp only; omega
  unfold subm
  generalize val ⟨x.l0 + 4503599627370458 - y.l0, x.l1 + 4503599627370494 - y.l1, x.l2 + 4503599627370494 - y.l2, x.l3 + 4503599627370494 - y.l3, x.l4 + 4503599627370494 - y.l4⟩ = A at *
  generalize val x = X at *
  generalize val y = Y at *
  unfold pp at *
  omega
theorem ok_sub {x y : L5} (hx : Ok x) (hy : Ok y) : Ok (carryL ⟨x.l0 + 4503599627370458 - y.l0, x.l1 + 4503599627370494 - y.l1, x.l2 + 4503599627370494 - y.l2, x.l3 + 4503599627370494 - y.l3, x.l4 + 4503599627370494 - y.l4⟩) := by
  obtain ⟨_, _, _, _, _⟩ := hx
  obtain ⟨_, _, _, _, _⟩ := hy
  apply ok_carry <;> simp only <;> omega

/-- What Mult32 makes of the limbs. -/
def scaleL (x : L5) (n : Nat) : L5 := ⟨x.l0 * n % 2251799813685248 + 19 * (x.l4 * n / 2251799813685248), x.l1 * n % 2251799813685248 + x.l0 * n / 2251799813685248, x.l2 * n % 2251799813685248 + x.l1 * n / 2251799813685248, x.l3 * n % 2251799813685248 + x.l2 * n / 2251799813685248, x.l4 * n % 2251799813685248 + x.l3 * n / 2251799813685248⟩
theorem val_scale (x : L5) : val (scaleL x 121666) % pp = mulm 121666 (val x % pp) := by
  have h : scaleL x 121666 = carryL ⟨x.l0 * 121666, x.l1 * 121666, x.l2 * 121666, x.l3 * 121666, x.l4 * 121666⟩ := rfl
  rw [h, val_carry_mod]
  have e : val ⟨x.l0 * 121666, x.l1 * 121666, x.l2 * 121666, x.l3 * 121666, x.l4 * 121666⟩ = 121666 * val x := by unfold val; simp only; omega
  rw [e]
  unfold mulm
  rw [Nat.mul_mod, Nat.mul_mod 121666 (val x % pp), Nat.mod_mod]
theorem ok_scale {x : L5} (hx : Ok x) : Ok (scaleL x 121666) := by
  obtain ⟨_, _, _, _, _⟩ := hx
  constructor <;> simp only [scaleL] <;> omega

/-- The block holds an element that stands for m. -/
def FeM (w : World) (g m : Nat) : Prop := ∃ x, FeAt w g x ∧ Ok x ∧ val x % pp = m
/-- The block holds some element. -/
def FeB (w : World) (g : Nat) : Prop := ∃ x, FeAt w g x
theorem FeM.some {w : World} {g m : Nat} (h : FeM w g m) : FeB w g := ⟨h.choose, h.choose_spec.1⟩
theorem FeAt.below {w w' : World} {g : Nat} {x : L5} (h : FeAt w g x) (hb : Below w.heap.size w w') : FeAt w' g x := (hb.block g h.lt).trans h
theorem FeAt.kept {w w' : World} {g k : Nat} {x : L5} (h : FeAt w g x) (hb : w.grownBy w' (some k)) (hne : g ≠ k) : FeAt w' g x := (hb.block g h.lt (fun e => hne (Option.some.inj e))).trans h
theorem FeM.kept {w w' : World} {g k m : Nat} (h : FeM w g m) (hb : w.grownBy w' (Option.some k)) (hne : g ≠ k) : FeM w' g m := by
  obtain ⟨x, hx, ho⟩ := h; exact ⟨x, hx.kept hb hne, ho⟩
theorem FeB.kept {w w' : World} {g k : Nat} (h : FeB w g) (hb : w.grownBy w' (some k)) (hne : g ≠ k) : FeB w' g := by
  obtain ⟨x, hx⟩ := h; exact ⟨x, hx.kept hb hne⟩
theorem FeM.below {w w' : World} {g m : Nat} (h : FeM w g m) (hb : Below w.heap.size w w') : FeM w' g m := by
  obtain ⟨x, hx, ho⟩ := h; exact ⟨x, hx.below hb, ho⟩
theorem FeB.below {w w' : World} {g : Nat} (h : FeB w g) (hb : Below w.heap.size w w') : FeB w' g := by
  obtain ⟨x, hx⟩ := h; exact ⟨x, hx.below hb⟩
theorem FeM.lt {w : World} {g m : Nat} (h : FeM w g m) : g < w.heap.size := h.choose_spec.1.lt
theorem FeB.lt {w : World} {g : Nat} (h : FeB w g) : g < w.heap.size := h.choose_spec.lt
theorem FeM.mod {w : World} {g m : Nat} (h : FeM w g m) : m < pp := by obtain ⟨x, _, _, rfl⟩ := h; exact Nat.mod_lt _ (by decide)

/-- An element's block or nothing known of its number. -/
def FeO (w : World) (g : Nat) : Option Nat → Prop
  | some m => FeM w g m
  | none => FeB w g
theorem FeO.kept {w w' : World} {g k : Nat} {o : Option Nat} (h : FeO w g o) (hb : w.grownBy w' (some k)) (hne : g ≠ k) : FeO w' g o := by
  cases o with
  | none => exact FeB.kept h hb hne
  | some m => exact FeM.kept h hb hne
theorem FeO.below {w w' : World} {g : Nat} {o : Option Nat} (h : FeO w g o) (hb : Below w.heap.size w w') : FeO w' g o := by
  cases o with
  | none => exact FeB.below h hb
  | some m => exact FeM.below h hb
theorem FeO.fe {w : World} {g : Nat} {o : Option Nat} (h : FeO w g o) : FeB w g := by
  cases o with
  | none => exact h
  | some m => exact FeM.some h
/-- A row of elements' blocks, one behind the other. -/
def Lad (w : World) (B : Nat) (l : List (Option Nat)) : Prop := ∀ i (h : i < l.length), FeO w (B + i) l[i]
theorem Lad.m {w : World} {B : Nat} {l : List (Option Nat)} (h : Lad w B l) (i m : Nat) (hi : l[i]? = some (some m)) : FeM w (B + i) m := by
  obtain ⟨hl, he⟩ := List.getElem?_eq_some_iff.1 hi
  have := h i hl; rw [he] at this; exact this
theorem Lad.b {w : World} {B : Nat} {l : List (Option Nat)} (h : Lad w B l) (i : Nat) (hi : i < l.length) : FeB w (B + i) := (h i hi).fe
theorem Lad.step {w w' : World} {B : Nat} {l : List (Option Nat)} (h : Lad w B l) (i m : Nat) (hm : FeM w' (B + i) m) (hg : w.grownBy w' (some (B + i))) : Lad w' B (l.set i (some m)) := by
  intro j hj
  have hj' : j < l.length := by simpa using hj
  by_cases e : j = i
  · subst e; rw [List.getElem_set_self]; exact hm
  · rw [List.getElem_set_ne (fun h => e h.symm)]; exact (h j hj').kept hg (by omega)
theorem Lad.kept {w w' : World} {B k : Nat} {l : List (Option Nat)} (h : Lad w B l) (hg : w.grownBy w' (some k)) (hk : k < B ∨ B + l.length ≤ k) : Lad w' B l := fun j hj => (h j hj).kept hg (by omega)
theorem Lad.below {w w' : World} {B : Nat} {l : List (Option Nat)} (h : Lad w B l) (hb : Below w.heap.size w w') : Lad w' B l := fun j hj => (h j hj).below hb
end Go.Proofs.YthjminkkmljjhaaGreatDoor

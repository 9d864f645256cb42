/- The EncryptWriter's block; NewEncryptWriter. Conditions: as each states. -/
import Derived.Test.YtkocgogpbammaaaDoorGw
import Derived.Test.YtkocgogpbammaaaDoorGs
import Derived.Test.YtkocgogpbammaaaDoorEa
set_option linter.unusedVariables false
set_option linter.unusedSimpArgs false
namespace Go.Proofs.YtkocgogpbammaaaDoor
open Go.RowKit

/-- The writer's cells: the cipher, the writer behind, the buffer, the nonce, the error. -/
def ewL (a d v : Value) (lr : Int) (nonce : List UInt8) (err : Value) : List Value := a :: d :: v :: .int .i64 0 :: .int .i8 lr :: (u8s nonce ++ [err])
def ewR (a d : Value) (nonce : List UInt8) (err : Value) (i : Nat) : Option Value := (ewL a d (.slice none 0 0) 0 nonce err)[i]?
section
variable {a d err v : Value} {nonce : List UInt8} {lr : Int}
theorem ew_rest (i : Nat) (hi : i < 2 ∨ 2 + 3 ≤ i) : (ewL a d v lr nonce err)[i]? = ewR a d nonce err i := by
  unfold ewR ewL
  rcases hi with hi | hi
  · match i, hi with
    | 0, _ => rfl
    | 1, _ => rfl
  · obtain ⟨j, rfl⟩ : ∃ j, i = j + 5 := ⟨i - 5, by omega⟩
    rfl
theorem ew_three {w : World} {b : Nat} {T : TypeId} (h : Arr w b T (ewL a d v lr nonce err)) : LibA.Three w b 2 T (ewR a d nonce err) v (.int .i64 0) (.int .i8 lr) :=
  ⟨_, h, rfl, rfl, rfl, fun i hi => by rw [List.getElem?_toArray]; exact ew_rest i hi⟩
theorem ew_arr {w : World} {b : Nat} {T : TypeId} (h : LibA.Three w b 2 T (ewR a d nonce err) v (.int .i64 0) (.int .i8 lr)) : Arr w b T (ewL a d v lr nonce err) := by
  obtain ⟨cs, hb, h0, h1, h2, hr⟩ := h
  have e : cs = (ewL a d v lr nonce err).toArray := by
    apply Array.ext_getElem?
    intro i
    have et : (ewL a d v lr nonce err).toArray[i]? = (ewL a d v lr nonce err)[i]? := List.getElem?_toArray
    rw [et]
    by_cases hi : i < 2 ∨ 2 + 3 ≤ i
    · rw [hr i hi, ew_rest i hi]
    · have h5 : i = 2 ∨ i = 3 ∨ i = 4 := by omega
      rcases h5 with rfl | rfl | rfl
      · exact h0
      · exact h1
      · exact h2
  unfold Arr
  rw [hb, e]
theorem ew_nonce (k : Nat) (x : UInt8) (h : nonce[k]? = some x) : (ewL a d v lr nonce err)[5 + k]? = some (.int .u8 (x.toNat : Int)) := by
  have hj := (List.getElem?_eq_some_iff.1 h).1
  rw [show 5 + k = k + 5 by omega]
  show (u8s nonce ++ [err])[k]? = _
  rw [List.getElem?_append_left (by simpa using hj)]
  simp [u8s, h]
theorem ew_setN (k : Nat) (x : UInt8) (h : k < nonce.length) : (ewL a d v lr nonce err).set (5 + k) (.int .u8 (x.toNat : Int)) = ewL a d v lr (nonce.set k x) err := by
  rw [show 5 + k = k + 5 by omega]
  show a :: d :: v :: .int .i64 0 :: .int .i8 lr :: (u8s nonce ++ [err]).set k _ = _
  rw [List.set_append_left _ _ (by simpa using h), ← u8s_set]
  rfl
theorem ew_err (e : Value) : (ewL a d v lr nonce err).set (5 + nonce.length) e = ewL a d v lr nonce e := by
  rw [show 5 + nonce.length = nonce.length + 5 by omega]
  show a :: d :: v :: .int .i64 0 :: .int .i8 lr :: (u8s nonce ++ [err]).set nonce.length _ = _
  rw [List.set_append_right _ _ (by simp)]
  simp [ewL]
end

/-- A writer whose buffer holds bs. -/
def EW (w : World) (b : Nat) (a d : Value) (nonce : List UInt8) (err : Value) (row : Option (Nat × Nat)) (bs : List UInt8) : Prop :=
  BV w b 2 57 (ewR a d nonce err) row bs

/-- Turning the writer's block outside the buffer's cells. -/
theorem RB.turn {w w' : World} {b : Nat} {T : TypeId} {a d err err' : Value} {nonce nonce' : List UInt8} {g cap l : Nat} {X : List Value} (h : RB w b 2 T (ewR a d nonce err) g cap l X)
    (hg : w.grownBy w' (some b)) (ht : ∀ v lr, Arr w b T (ewL a d v lr nonce err) → Arr w' b T (ewL a d v lr nonce' err')) : RB w' b 2 T (ewR a d nonce' err') g cap l X := by
  obtain ⟨h1, h2, h3, h4, h5, lr, h6⟩ := h
  exact ⟨h1, h2, h3, h4, h5.kept hg h1, lr, ew_three (ht _ _ (ew_arr h6))⟩
theorem BV.turn {w w' : World} {b : Nat} {T : TypeId} {a d err err' : Value} {nonce nonce' : List UInt8} {row : Option (Nat × Nat)} {bs : List UInt8} (h : BV w b 2 T (ewR a d nonce err) row bs)
    (hg : w.grownBy w' (some b)) (ht : ∀ v lr, Arr w b T (ewL a d v lr nonce err) → Arr w' b T (ewL a d v lr nonce' err')) : BV w' b 2 T (ewR a d nonce' err') row bs := by
  match row, h with
  | none, ⟨h1, lr, h2⟩ => exact ⟨h1, lr, ew_three (ht _ _ (ew_arr h2))⟩
  | some (g, cap), ⟨X, h1, h2⟩ => exact ⟨X, h1.turn hg ht, h2⟩
theorem BV.opened {w : World} {b : Nat} {T : TypeId} {a d err : Value} {nonce : List UInt8} {row : Option (Nat × Nat)} {bs : List UInt8} (h : BV w b 2 T (ewR a d nonce err) row bs) :
    ∃ v lr, Arr w b T (ewL a d v lr nonce err) ∧ ∀ w' nonce' err', w.grownBy w' (some b) → Arr w' b T (ewL a d v lr nonce' err') → BV w' b 2 T (ewR a d nonce' err') row bs := by
  match row, h with
  | none, ⟨h1, lr, h2⟩ => exact ⟨_, lr, ew_arr h2, fun w' nonce' err' _ h => ⟨h1, lr, ew_three h⟩⟩
  | some (g, cap), ⟨X, ⟨h1, h2, h3, h4, h5, lr, h6⟩, hx⟩ => exact ⟨_, lr, ew_arr h6, fun w' nonce' err' hg h => ⟨X, ⟨h1, h2, h3, h4, h5.kept hg h1, lr, ew_three h⟩, hx⟩⟩
/-- A buffer that is not touched. -/
theorem RB.kept {w w' : World} {S : Nat → Prop} {b o : Nat} {T : TypeId} {R : Nat → Option Value} {g cap l : Nat} {X : List Value} (h : RB w b o T R g cap l X) (hk : Keeps w w' S) (hb : ¬ S b) (hg : ¬ S g) : RB w' b o T R g cap l X := by
  obtain ⟨h1, h2, h3, h4, h5, lr, h6⟩ := h
  exact ⟨h1, h2, h3, h4, hk.arr h5 hg, lr, h6.of_heap (hk.block b h6.lt hb)⟩
theorem BV.kept {w w' : World} {S : Nat → Prop} {b o : Nat} {T : TypeId} {R : Nat → Option Value} {row : Option (Nat × Nat)} {bs : List UInt8} (h : BV w b o T R row bs) (hk : Keeps w w' S) (hb : ¬ S b) (hg : ∀ k, rowIs row k → ¬ S k) : BV w' b o T R row bs := by
  match row, h with
  | none, ⟨h1, lr, h2⟩ => exact ⟨h1, lr, h2.of_heap (hk.block b h2.lt hb)⟩
  | some (g, cap), ⟨X, h1, h2⟩ => exact ⟨X, h1.kept hk hb (hg g ⟨cap, rfl⟩), h2⟩
theorem BV.lt {w : World} {b o : Nat} {T : TypeId} {R : Nat → Option Value} {row : Option (Nat × Nat)} {bs : List UInt8} (h : BV w b o T R row bs) : b < w.heap.size := by
  match row, h with
  | none, ⟨_, lr, h2⟩ => exact h2.lt
  | some (g, cap), ⟨X, h1, _⟩ => obtain ⟨_, _, _, _, _, lr, h6⟩ := h1; exact h6.lt
theorem BV.rowLt {w : World} {b o : Nat} {T : TypeId} {R : Nat → Option Value} {row : Option (Nat × Nat)} {bs : List UInt8} (h : BV w b o T R row bs) (k : Nat) (hk : rowIs row k) : k < w.heap.size ∧ k ≠ b := by
  obtain ⟨c, rfl⟩ := hk
  obtain ⟨X, ⟨h1, _, _, _, h5, _⟩, _⟩ := h
  exact ⟨h5.lt, h1⟩
theorem BV.rest {w : World} {b o : Nat} {T : TypeId} {R : Nat → Option Value} {row : Option (Nat × Nat)} {bs : List UInt8} (h : BV w b o T R row bs) (i : Nat) (hi : i < o ∨ o + 3 ≤ i) : w.cell? ⟨b, i, none⟩ = R i ∧ w.frozen? ⟨b, i, none⟩ = false := by
  match row, h with
  | none, ⟨_, lr, h2⟩ => exact ⟨h2.rest i hi, h2.f i⟩
  | some (g, cap), ⟨X, h1, _⟩ => obtain ⟨_, _, _, _, _, lr, h6⟩ := h1; exact ⟨h6.rest i hi, h6.f i⟩

def zer12 : List UInt8 := [0, 0, 0, 0, 0, 0, 0, 0, 0, 0, 0, 0]
def ifA (ga : Nat) : Value := .iface 50 (.pointer (some ⟨ga, 0, none⟩))
def ifB (bd : Nat) : Value := .iface 41 (.pointer (some ⟨bd, 0, none⟩))

set_option maxRecDepth 100000 in
set_option maxHeartbeats 2000000 in
theorem newEW_any (w : World) (gk ok c : Nat) (key : List UInt8) (bd : Nat) (hk : key.length = 32) (hKR : w.rangeAt gk ok (u8s key)) :
    Calls Tryd.prog 8 #[.slice (some ⟨gk, ok, none⟩) 32 c, .iface 41 (.pointer (some ⟨bd, 0, none⟩))] w fun e w' => ∃ ga b, e = .returned (.tuple #[.pointer (some ⟨b, 0, none⟩), .nilIface]) ∧ w.heap.size ≤ ga ∧ w.heap.size ≤ b ∧ ga ≠ b ∧
      Arr w' ga 68 (u8s key) ∧ EW w' b (ifA ga) (ifB bd) zer12 .nilIface none [] ∧ Below w.heap.size w w' := by
  have HC := Lib.hid (aeadNew_any w gk ok c key hk hKR)
  clear hk hKR
  go_enter Tryd.func8, Tryd.ntmps8
  go_wp2_with fail
  refine HC.out.mono ?_
  rintro e w1 ⟨rfl, hA1, hb1⟩
  go_wp2_with fail
  go_ret2
  have hN := arr_new w1 (ewL (ifA w.heap.size) (ifB bd) (.slice none 0 0) 0 zer12 .nilIface) 57
  have hb2 := below_alloc w1 (.cells (ewL (ifA w.heap.size) (ifB bd) (.slice none 0 0) 0 zer12 .nilIface).toArray 57)
  exact ⟨w.heap.size, w1.heap.size, rfl, Nat.le_refl _, hb1.size, Nat.ne_of_lt hA1.lt, hA1.below hb2, ⟨rfl, 0, ew_three hN⟩, hb1.trans (hb2.mono hb1.size)⟩
end Go.Proofs.YtkocgogpbammaaaDoor

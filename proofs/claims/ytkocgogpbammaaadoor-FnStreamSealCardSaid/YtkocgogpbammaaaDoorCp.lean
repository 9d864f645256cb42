/- ChaCha20's double round on sixteen words, a stream laid over bytes, the cipher's cells. Conditions: as each states. (Printed by wip/gencp.py.) -/
import Derived.Test.YtkocgogpbammaaaDoorHst
import Derived.Test.YtkocgogpbammaaaDoorCa
set_option linter.unusedVariables false
set_option linter.unusedSimpArgs false
namespace Go.Proofs.YtkocgogpbammaaaDoor
open Go.RowKit

theorem qat_eq (l : List Nat) (a b c d z1 z2 z3 z4 : Nat) (h : (z1, z2, z3, z4) = qr (l.getD a 0) (l.getD b 0) (l.getD c 0) (l.getD d 0)) : qat l a b c d = put4 l a b c d z1 z2 z3 z4 := by
  unfold qat; rw [← h]
/-- The state in words. -/
def stW (kw : List Nat) (cnt : Nat) (nw : List Nat) : List Nat := [1634760805, 857760878, 2036477234, 1797285236] ++ kw ++ [cnt] ++ nw
theorem dbl16 (x0 x1 x2 x3 x4 x5 x6 x7 x8 x9 x10 x11 x12 x13 x14 x15 z1a z1b z1c z1d z2a z2b z2c z2d z3a z3b z3c z3d z4a z4b z4c z4d z5a z5b z5c z5d z6a z6b z6c z6d z7a z7b z7c z7d z8a z8b z8c z8d : Nat) (h1 : (z1a, z1b, z1c, z1d) = qr x0 x4 x8 x12) (h2 : (z2a, z2b, z2c, z2d) = qr x1 x5 x9 x13) (h3 : (z3a, z3b, z3c, z3d) = qr x2 x6 x10 x14) (h4 : (z4a, z4b, z4c, z4d) = qr x3 x7 x11 x15) (h5 : (z5a, z5b, z5c, z5d) = qr z1a z2b z3c z4d) (h6 : (z6a, z6b, z6c, z6d) = qr z2a z3b z4c z1d) (h7 : (z7a, z7b, z7c, z7d) = qr z3a z4b z1c z2d) (h8 : (z8a, z8b, z8c, z8d) = qr z4a z1b z2c z3d) : dbl [x0, x1, x2, x3, x4, x5, x6, x7, x8, x9, x10, x11, x12, x13, x14, x15] = [z5a, z6a, z7a, z8a, z8b, z5b, z6b, z7b, z7c, z8c, z5c, z6c, z6d, z7d, z8d, z5d] := by
  have e1 : qat [x0, x1, x2, x3, x4, x5, x6, x7, x8, x9, x10, x11, x12, x13, x14, x15] 0 4 8 12 = [z1a, x1, x2, x3, z1b, x5, x6, x7, z1c, x9, x10, x11, z1d, x13, x14, x15] := by rw [qat_eq _ _ _ _ _ _ _ _ _ h1]; rfl
  have e2 : qat [z1a, x1, x2, x3, z1b, x5, x6, x7, z1c, x9, x10, x11, z1d, x13, x14, x15] 1 5 9 13 = [z1a, z2a, x2, x3, z1b, z2b, x6, x7, z1c, z2c, x10, x11, z1d, z2d, x14, x15] := by rw [qat_eq _ _ _ _ _ _ _ _ _ h2]; rfl
  have e3 : qat [z1a, z2a, x2, x3, z1b, z2b, x6, x7, z1c, z2c, x10, x11, z1d, z2d, x14, x15] 2 6 10 14 = [z1a, z2a, z3a, x3, z1b, z2b, z3b, x7, z1c, z2c, z3c, x11, z1d, z2d, z3d, x15] := by rw [qat_eq _ _ _ _ _ _ _ _ _ h3]; rfl
  have e4 : qat [z1a, z2a, z3a, x3, z1b, z2b, z3b, x7, z1c, z2c, z3c, x11, z1d, z2d, z3d, x15] 3 7 11 15 = [z1a, z2a, z3a, z4a, z1b, z2b, z3b, z4b, z1c, z2c, z3c, z4c, z1d, z2d, z3d, z4d] := by rw [qat_eq _ _ _ _ _ _ _ _ _ h4]; rfl
  have e5 : qat [z1a, z2a, z3a, z4a, z1b, z2b, z3b, z4b, z1c, z2c, z3c, z4c, z1d, z2d, z3d, z4d] 0 5 10 15 = [z5a, z2a, z3a, z4a, z1b, z5b, z3b, z4b, z1c, z2c, z5c, z4c, z1d, z2d, z3d, z5d] := by rw [qat_eq _ _ _ _ _ _ _ _ _ h5]; rfl
  have e6 : qat [z5a, z2a, z3a, z4a, z1b, z5b, z3b, z4b, z1c, z2c, z5c, z4c, z1d, z2d, z3d, z5d] 1 6 11 12 = [z5a, z6a, z3a, z4a, z1b, z5b, z6b, z4b, z1c, z2c, z5c, z6c, z6d, z2d, z3d, z5d] := by rw [qat_eq _ _ _ _ _ _ _ _ _ h6]; rfl
  have e7 : qat [z5a, z6a, z3a, z4a, z1b, z5b, z6b, z4b, z1c, z2c, z5c, z6c, z6d, z2d, z3d, z5d] 2 7 8 13 = [z5a, z6a, z7a, z4a, z1b, z5b, z6b, z7b, z7c, z2c, z5c, z6c, z6d, z7d, z3d, z5d] := by rw [qat_eq _ _ _ _ _ _ _ _ _ h7]; rfl
  have e8 : qat [z5a, z6a, z7a, z4a, z1b, z5b, z6b, z7b, z7c, z2c, z5c, z6c, z6d, z7d, z3d, z5d] 3 4 9 14 = [z5a, z6a, z7a, z8a, z8b, z5b, z6b, z7b, z7c, z8c, z5c, z6c, z6d, z7d, z8d, z5d] := by rw [qat_eq _ _ _ _ _ _ _ _ _ h8]; rfl
  show qat (qat (qat (qat (qat (qat (qat (qat [x0, x1, x2, x3, x4, x5, x6, x7, x8, x9, x10, x11, x12, x13, x14, x15] 0 4 8 12) 1 5 9 13) 2 6 10 14) 3 7 11 15) 0 5 10 15) 1 6 11 12) 2 7 8 13) 3 4 9 14 = _
  rw [e1, e2, e3, e4, e5, e6, e7, e8]
set_option maxRecDepth 100000 in
theorem quarterX (w : World) (a b c d : Nat) (ha : a < 4294967296) (hb : b < 4294967296) (hc : c < 4294967296) (hd : d < 4294967296) :
    Calls Tryd.prog 76 #[.int .u32 (a : Int), .int .u32 (b : Int), .int .u32 (c : Int), .int .u32 (d : Int)] w fun e w' => ∃ z1 z2 z3 z4 : Nat, Hid ((z1, z2, z3, z4) = qr a b c d) ∧ z1 < 4294967296 ∧ z2 < 4294967296 ∧ z3 < 4294967296 ∧ z4 < 4294967296 ∧
      e = .returned (.tuple #[.int .u32 (z1 : Int), .int .u32 (z2 : Int), .int .u32 (z3 : Int), .int .u32 (z4 : Int)]) ∧ w' = w := by
  refine (quarterRound_any w a b c d ha hb hc hd).mono ?_
  rintro e w' ⟨he, hw⟩
  have h := qr_lt a b c d hb hd
  exact ⟨_, _, _, _, rfl, h.1, h.2.1, h.2.2.1, h.2.2.2, he, hw⟩
/-- The first m bytes of a list with a stream laid over them. -/
def XM (f : Nat → UInt8) (m : Nat) (l : List UInt8) : List UInt8 := l.mapIdx fun j b => if j < m then b ^^^ f j else b
@[simp] theorem XM_length (f : Nat → UInt8) (m : Nat) (l : List UInt8) : (XM f m l).length = l.length := by simp [XM]
theorem XM_zero (f : Nat → UInt8) (l : List UInt8) : XM f 0 l = l := by
  apply List.ext_getElem (by simp)
  intro j h1 h2
  simp [XM]
theorem XM_get (f : Nat → UInt8) (m : Nat) (l : List UInt8) (j : Nat) (h : j < l.length) (hm : m ≤ j) : (XM f m l)[j]? = some l[j] := by
  rw [List.getElem?_eq_getElem (by simpa using h)]
  simp only [XM, List.getElem_mapIdx]
  rw [if_neg (by omega)]
theorem XM_set (f : Nat → UInt8) (m : Nat) (l : List UInt8) (h : m < l.length) : (XM f m l).set m (l[m] ^^^ f m) = XM f (m + 1) l := by
  apply List.ext_getElem (by simp)
  intro j h1 h2
  rw [List.getElem_set]
  simp only [XM, List.getElem_mapIdx]
  by_cases e : m = j
  · subst e; rw [if_pos rfl, if_pos (by omega)]
  · rw [if_neg e]
    by_cases hj : j < m
    · rw [if_pos hj, if_pos (by omega)]
    · rw [if_neg hj, if_neg (by omega)]
theorem seg_get (pre post : List Value) (l : List UInt8) (j : Nat) (b : UInt8) (h : l[j]? = some b) : (pre ++ u8s l ++ post)[pre.length + j]? = some (.int .u8 (b.toNat : Int)) := by
  have hj := (List.getElem?_eq_some_iff.1 h).1
  rw [List.append_assoc, List.getElem?_append_right (by omega), Nat.add_sub_cancel_left, List.getElem?_append_left (by simpa using hj)]
  simp [u8s, h]
theorem seg_set (pre post : List Value) (l : List UInt8) (j : Nat) (b : UInt8) (h : j < l.length) : (pre ++ u8s l ++ post).set (pre.length + j) (.int .u8 (b.toNat : Int)) = pre ++ u8s (l.set j b) ++ post := by
  rw [List.append_assoc, List.set_append_right _ _ (by omega), Nat.add_sub_cancel_left, List.set_append_left _ _ (by simpa using h), u8s_set, List.append_assoc]

set_option maxRecDepth 100000 in
set_option maxHeartbeats 1000000 in
/-- Four bytes of the stream laid over four bytes. -/
theorem addXorS (w : World) (g o c c2 m : Nat) (t : TypeId) (pre post : List Value) (l : List UInt8) (f : Nat → UInt8) (a b : Nat) (ha : a < 4294967296) (hb : b < 4294967296) (hp : pre.length = o) (hm : m + 4 ≤ l.length)
    (hf : ∀ j, j < 4 → f (m + j) = UInt8.ofNat ((a + b) % 4294967296 / 256 ^ j)) (hA : Arr w g t (pre ++ u8s (XM f m l) ++ post)) :
    Calls Tryd.prog 77 #[.slice (some ⟨g, o + m, none⟩) 4 c, .slice (some ⟨g, o + m, none⟩) 4 c2, .int .u32 (a : Int), .int .u32 (b : Int)] w fun e w' => e = .returned (.tuple #[]) ∧
      Arr w' g t (pre ++ u8s (XM f (m + 4) l) ++ post) ∧ w.grownBy w' (some g) := by
  subst hp
  have hg : ∀ j (hj : j < 4), (pre ++ u8s (XM f m l) ++ post)[pre.length + m + j]? = some (.int .u8 ((l[m + j]'(by omega)).toNat : Int)) := fun j hj => by
    rw [Nat.add_assoc]; exact seg_get pre post _ (m + j) _ (XM_get f m l (m + j) (by omega) (by omega))
  refine (addXor_any w g (pre.length + m) c c2 t _ _ _ _ _ a b ha hb hA (hg 0 (by omega)) (hg 1 (by omega)) (hg 2 (by omega)) (hg 3 (by omega))).mono ?_
  rintro e w' ⟨rfl, hA2, hg2⟩
  refine ⟨rfl, ?_, hg2⟩
  have hx : ∀ j (hj : j < 4), xb (l[m + j]'(by omega)) ((a + b) % 4294967296) j = l[m + j]'(by omega) ^^^ f (m + j) := fun j hj => by unfold xb; rw [hf j hj]
  have e : (((((pre ++ u8s (XM f m l) ++ post).set (pre.length + m) (.int .u8 ((xb (l[m + 0]'(by omega)) ((a + b) % 4294967296) 0).toNat : Int))).set (pre.length + m + 1) (.int .u8 ((xb (l[m + 1]'(by omega)) ((a + b) % 4294967296) 1).toNat : Int))).set (pre.length + m + 2) (.int .u8 ((xb (l[m + 2]'(by omega)) ((a + b) % 4294967296) 2).toNat : Int))).set (pre.length + m + 3) (.int .u8 ((xb (l[m + 3]'(by omega)) ((a + b) % 4294967296) 3).toNat : Int))) = pre ++ u8s (XM f (m + 4) l) ++ post := by
    rw [hx 0 (by omega), hx 1 (by omega), hx 2 (by omega), hx 3 (by omega)]
    simp only [Nat.add_zero, Nat.add_assoc]
    rw [seg_set pre post _ m _ (by simp; omega), XM_set f m l (by omega), seg_set pre post _ (m + 1) _ (by simp; omega), XM_set f (m + 1) l (by omega), seg_set pre post _ (m + 2) _ (by simp; omega)]
    rw [show XM f (m + 1 + 1) l = XM f (m + 2) l from rfl, XM_set f (m + 2) l (by omega), seg_set pre post _ (m + 3) _ (by simp; omega), show XM f (m + 2 + 1) l = XM f (m + 3) l from rfl, XM_set f (m + 3) l (by omega)]
  rw [← e]
  exact hA2

/-- The cipher's cells. -/
def cphC (kw : List Nat) (cnt : Nat) (nw : List Nat) (buf : List UInt8) (len : Nat) (pd : Bool) (ps : List Nat) : List Value :=
  u32s kw ++ .int .u32 (cnt : Int) :: (u32s nw ++ (u8s buf ++ (.int .i64 (len : Int) :: .bool false :: .bool pd :: u32s ps)))
end Go.Proofs.YtkocgogpbammaaaDoor

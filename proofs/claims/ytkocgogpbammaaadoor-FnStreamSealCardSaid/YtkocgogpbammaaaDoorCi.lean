/- The cipher's cells and the bytes that it works on, in one block or in two. Conditions: as each states. -/
import Derived.Test.YtkocgogpbammaaaDoorCp
import Derived.Test.YtkocgogpbammaaaDoorPy
set_option linter.unusedVariables false
set_option linter.unusedSimpArgs false
namespace Go.Proofs.YtkocgogpbammaaaDoor
open Go.RowKit

section
variable (kw nw ps : List Nat) (cnt len : Nat) (pd : Bool) (buf : List UInt8) (hk : kw.length = 8) (hn : nw.length = 3) (hb : buf.length = 64)
theorem cph_seg : cphC kw cnt nw buf len pd ps = (u32s kw ++ .int .u32 (cnt : Int) :: u32s nw) ++ u8s buf ++ (.int .i64 (len : Int) :: .bool false :: .bool pd :: u32s ps) := by simp [cphC]
theorem cph_key (k v : Nat) (h : kw[k]? = some v) : (cphC kw cnt nw buf len pd ps)[k]? = some (.int .u32 (v : Int)) := by
  have hj := (List.getElem?_eq_some_iff.1 h).1
  unfold cphC
  rw [List.getElem?_append_left (by simpa using hj)]
  simp [u32s, h]
include hk in
theorem cph_cnt : (cphC kw cnt nw buf len pd ps)[8]? = some (.int .u32 (cnt : Int)) := by
  unfold cphC
  rw [List.getElem?_append_right (by simp [hk])]; simp [hk]
include hk in
theorem cph_nonce (k v : Nat) (h : nw[k]? = some v) : (cphC kw cnt nw buf len pd ps)[9 + k]? = some (.int .u32 (v : Int)) := by
  have hj := (List.getElem?_eq_some_iff.1 h).1
  unfold cphC
  rw [List.getElem?_append_right (by simp [hk]; omega)]
  simp only [u32s_length, hk]
  rw [show 9 + k - 8 = k + 1 by omega, List.getElem?_cons_succ, List.getElem?_append_left (by simpa using hj)]
  simp [u32s, h]
include hk hn hb in
theorem cph_tail (k : Nat) (v : Value) (h : (Value.int .i64 (len : Int) :: .bool false :: .bool pd :: u32s ps)[k]? = some v) : (cphC kw cnt nw buf len pd ps)[76 + k]? = some v := by
  rw [cph_seg, List.getElem?_append_right (by simp only [List.length_append, List.length_cons, u32s_length, u8s_length, hk, hn, hb]; omega)]
  simp only [List.length_append, List.length_cons, u32s_length, u8s_length, hk, hn, hb]
  rw [show 76 + k - (8 + (3 + 1) + 64) = k by omega]
  exact h
include hk hn hb in
theorem cph_ps (k v : Nat) (h : ps[k]? = some v) : (cphC kw cnt nw buf len pd ps)[79 + k]? = some (.int .u32 (v : Int)) := by
  rw [show 79 + k = 76 + (k + 3) by omega]
  refine cph_tail kw nw ps cnt len pd buf hk hn hb (k + 3) _ ?_
  simp [u32s, h]
include hk in
theorem cph_setCnt (c : Nat) : (cphC kw cnt nw buf len pd ps).set 8 (.int .u32 (c : Int)) = cphC kw c nw buf len pd ps := by
  unfold cphC
  rw [List.set_append_right _ _ (by simp [hk])]; simp [hk]
include hk hn hb in
theorem cph_setTail (k : Nat) (v : Value) : (cphC kw cnt nw buf len pd ps).set (76 + k) v = (u32s kw ++ .int .u32 (cnt : Int) :: u32s nw) ++ u8s buf ++ ((Value.int .i64 (len : Int) :: .bool false :: .bool pd :: u32s ps).set k v) := by
  rw [cph_seg, List.set_append_right _ _ (by simp only [List.length_append, List.length_cons, u32s_length, u8s_length, hk, hn, hb]; omega)]
  simp only [List.length_append, List.length_cons, u32s_length, u8s_length, hk, hn, hb]
  rw [show 76 + k - (8 + (3 + 1) + 64) = k by omega]
include hk hn hb in
theorem cph_setLen (n : Nat) : (cphC kw cnt nw buf len pd ps).set 76 (.int .i64 (n : Int)) = cphC kw cnt nw buf n pd ps := by
  rw [show (76 : Nat) = 76 + 0 from rfl, cph_setTail kw nw ps cnt len pd buf hk hn hb, List.set_cons_zero, ← cph_seg]
include hk hn hb in
theorem cph_setPd (b : Bool) : (cphC kw cnt nw buf len pd ps).set 78 (.bool b) = cphC kw cnt nw buf len b ps := by
  rw [show (78 : Nat) = 76 + 2 from rfl, cph_setTail kw nw ps cnt len pd buf hk hn hb, List.set_cons_succ, List.set_cons_succ, List.set_cons_zero, ← cph_seg]
include hk hn hb in
theorem cph_setP (k v : Nat) : (cphC kw cnt nw buf len pd ps).set (79 + k) (.int .u32 (v : Int)) = cphC kw cnt nw buf len pd (ps.set k v) := by
  rw [show 79 + k = 76 + (k + 3) by omega, cph_setTail kw nw ps cnt len pd buf hk hn hb, List.set_cons_succ, List.set_cons_succ, List.set_cons_succ, ← u32s_set, ← cph_seg]
include hk hn hb in
@[simp] theorem cph_length : (cphC kw cnt nw buf len pd ps).length = 79 + ps.length := by simp [cphC, hk, hn, hb]; omega
end
/-- The cipher in block gc; the bytes l at offset o of block g: the cipher's own buffer, or another block's. -/
def XI (same : Bool) (w : World) (gc g o : Nat) (t : TypeId) (A B : List Value) (kw : List Nat) (cnt : Nat) (nw : List Nat) (buf l : List UInt8) (len : Nat) (pd : Bool) (ps : List Nat) : Prop :=
  match same with
  | true => g = gc ∧ o = 12 ∧ l.length = 64 ∧ Arr w gc 123 (cphC kw cnt nw l len pd ps)
  | false => g ≠ gc ∧ A.length = o ∧ buf.length = 64 ∧ Arr w gc 123 (cphC kw cnt nw buf len pd ps) ∧ Arr w g t (A ++ u8s l ++ B)
section
variable {same : Bool} {w w' : World} {gc g o : Nat} {t : TypeId} {A B : List Value} {kw nw ps : List Nat} {cnt len : Nat} {buf l : List UInt8} {pd : Bool}
theorem XI.gcs (h : XI same w gc g o t A B kw cnt nw buf l len pd ps) : ∃ b, b.length = 64 ∧ Arr w gc 123 (cphC kw cnt nw b len pd ps) := by
  cases same with
  | true => exact ⟨l, h.2.2.1, h.2.2.2⟩
  | false => exact ⟨buf, h.2.2.1, h.2.2.2.1⟩
theorem XI.drew (h : XI same w gc g o t A B kw cnt nw buf l len pd ps) : XI same w.drew gc g o t A B kw cnt nw buf l len pd ps := by
  cases same with
  | true => exact h
  | false => exact h
theorem XI.drewN (h : XI same w gc g o t A B kw cnt nw buf l len pd ps) (n : Nat) : XI same (w.drewN n) gc g o t A B kw cnt nw buf l len pd ps := by
  cases same with
  | true => exact h
  | false => exact h
theorem XI.seg (h : XI same w gc g o t A B kw cnt nw buf l len pd ps) (hk : kw.length = 8) (hn : nw.length = 3) : ∃ t' pre post, pre.length = o ∧ Arr w g t' (pre ++ u8s l ++ post) ∧
    ∀ w' l', l'.length = l.length → Arr w' g t' (pre ++ u8s l' ++ post) → w.grownBy w' (some g) → XI same w' gc g o t A B kw cnt nw buf l' len pd ps := by
  cases same with
  | true =>
    obtain ⟨h1, h2, h3, h4⟩ := h
    subst h1 h2
    rw [cph_seg] at h4
    refine ⟨_, _, _, by simp [hk, hn], h4, fun w' l' hl hA _ => ⟨rfl, rfl, by omega, ?_⟩⟩
    rw [cph_seg]; exact hA
  | false =>
    obtain ⟨h1, h2, h3, h4, h5⟩ := h
    exact ⟨t, A, B, h2, h5, fun w' l' hl hA hg => ⟨h1, h2, h3, h4.kept hg (fun e => h1 e.symm), hA⟩⟩
theorem XI.setGc (h : XI same w gc g o t A B kw cnt nw buf l len pd ps) (k : Nat) (v : Value) (cnt' : Nat) (pd' : Bool) (ps' : List Nat)
    (he : ∀ b : List UInt8, b.length = 64 → k < (cphC kw cnt nw b len pd ps).length ∧ (cphC kw cnt nw b len pd ps).set k v = cphC kw cnt' nw b len pd' ps') : XI same (w.setCell ⟨gc, k, none⟩ v) gc g o t A B kw cnt' nw buf l len pd' ps' := by
  cases same with
  | true =>
    obtain ⟨h1, h2, h3, h4⟩ := h
    have h5 := h4.set k v (he l h3).1
    rw [(he l h3).2] at h5
    exact ⟨h1, h2, h3, h5⟩
  | false =>
    obtain ⟨h1, h2, h3, h4, h5⟩ := h
    have h6 := h4.set k v (he buf h3).1
    rw [(he buf h3).2] at h6
    exact ⟨h1, h2, h3, h6, h5.other h1⟩
end
/-- What has been reckoned ahead fits the key and the nonce. -/
def PC (kw nw ps : List Nat) : Prop := ∃ a1 a2 a3 a4 b1 b2 b3 b4 c1 c2 c3 c4 : Nat, ps = [a1, a2, a3, a4, b1, b2, b3, b4, c1, c2, c3, c4] ∧
  (a1, a2, a3, a4) = qr 857760878 (kw.getD 1 0) (kw.getD 5 0) (nw.getD 0 0) ∧ (b1, b2, b3, b4) = qr 2036477234 (kw.getD 2 0) (kw.getD 6 0) (nw.getD 1 0) ∧ (c1, c2, c3, c4) = qr 1797285236 (kw.getD 3 0) (kw.getD 7 0) (nw.getD 2 0) ∧
  (∀ x ∈ ps, x < 4294967296)
/-- The stream's bytes. -/
def ksf (kw : List Nat) (cnt : Nat) (nw : List Nat) (j : Nat) : UInt8 := (ksb (stW kw (cnt + j / 64) nw)).getD (j % 64) 0
theorem ksf_word (kw nw : List Nat) (cnt i q j : Nat) (hq : q < 16) (hj : j < 4) :
    ksf kw cnt nw (64 * i + 4 * q + j) = UInt8.ofNat (((dblN 10 (stW kw (cnt + i) nw)).getD q 0 + (stW kw (cnt + i) nw).getD q 0) % 4294967296 / 256 ^ j) := by
  unfold ksf
  rw [show (64 * i + 4 * q + j) / 64 = i by omega, show (64 * i + 4 * q + j) % 64 = 4 * q + j by omega]
  rw [List.getD_eq_getElem?_getD, ksb, List.getElem?_map, List.getElem?_range (by omega)]
  simp only [Option.map_some, Option.getD_some]
  rw [show (4 * q + j) / 4 = q by omega, show (4 * q + j) % 4 = j by omega, Nat.pow_mul]
  rfl
theorem list8 {α : Type} (l : List α) (h : l.length = 8) : ∃ a b c d e f g i, l = [a, b, c, d, e, f, g, i] := by
  match l, h with
  | [a, b, c, d, e, f, g, i], _ => exact ⟨a, b, c, d, e, f, g, i, rfl⟩
theorem list3 {α : Type} (l : List α) (h : l.length = 3) : ∃ a b c, l = [a, b, c] := by
  match l, h with
  | [a, b, c], _ => exact ⟨a, b, c, rfl⟩
theorem list12 {α : Type} (l : List α) (h : l.length = 12) : ∃ a b c d e f g i j k m n, l = [a, b, c, d, e, f, g, i, j, k, m, n] := by
  match l, h with
  | [a, b, c, d, e, f, g, i, j, k, m, n], _ => exact ⟨a, b, c, d, e, f, g, i, j, k, m, n, rfl⟩
end Go.Proofs.YtkocgogpbammaaaDoor

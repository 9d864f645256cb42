/- Rows that a call owns, bytes at addresses. Conditions: as each states. -/
import Derived.Test.YtkocgogpbammaaaDoorHarr
import Derived.Lib.Buffer
set_option linter.unusedVariables false
set_option linter.unusedSimpArgs false
namespace Go.Proofs.YtkocgogpbammaaaDoor
open Go.RowKit

theorem Own.row {w : World} {base : Nat} {e : TypeId} {v : Value} {vs : List Value} (h : Own w base e v vs) (hn : 0 < vs.length) :
    ∃ g cap, v = .slice (some ⟨g, 0, none⟩) vs.length cap ∧ base ≤ g ∧ g < w.heap.size ∧ vs.length ≤ cap ∧ cap ≤ maxLen ∧ w.rangeAt g 0 vs := by
  have hlt := h.lt
  rcases h with ⟨rfl, rfl⟩ | ⟨g, cap, cur, fz, rfl, hg, hh, hfz, hnc, hcm, hcs, htake⟩
  · simp at hn
  · refine ⟨g, cap, rfl, hg, (hlt g rfl).2, hnc, hcm, fun j u hj => ?_⟩
    obtain ⟨hl, rfl⟩ := List.getElem?_eq_some_iff.1 hj
    rw [Nat.zero_add]
    exact Own.cellAt (base := base) (e := e) (n := vs.length) (cap := cap) (.inr ⟨g, cap, cur, fz, rfl, hg, hh, hfz, hnc, hcm, hcs, htake⟩) j hl
theorem range_at {w : World} {g o : Nat} {vs : List Value} (h : w.rangeAt g o vs) : At w (some ⟨g, o, none⟩) vs := by
  intro _
  exact ⟨g, o, rfl, fun j hj => h j _ (List.getElem?_eq_getElem hj)⟩
theorem range_sub {w : World} {g o : Nat} {l : List UInt8} (h : w.rangeAt g o (u8s l)) (i k : Nat) : w.rangeAt g (o + i) (u8s ((l.drop i).take k)) := by
  intro j v hj
  rw [Nat.add_assoc]
  refine h (i + j) v ?_
  simp only [u8s, List.getElem?_map, List.getElem?_take, List.getElem?_drop] at hj ⊢
  split at hj
  · exact hj
  · cases hj
theorem range_u8 {w : World} {g o : Nat} {l : List UInt8} (h : w.rangeAt g o (u8s l)) (j : Nat) (b : UInt8) (hj : l[j]? = some b) : w.cell? ⟨g, o + j, none⟩ = some (.int .u8 (b.toNat : Int)) := by
  refine h j _ ?_
  simp [u8s, hj]
theorem range_kept {w w' : World} {g o k : Nat} {vs : List Value} (h : w.rangeAt g o vs) (hb : w.grownBy w' (some k)) (hne : g ≠ k) : w'.rangeAt g o vs := by
  intro j v hj
  have h1 := h j v hj
  have h2 := World.block_lt_of_cell? w _ h1
  exact (World.cell?_of_block (a := ⟨g, o + j, none⟩) (hb.block g h2 (fun e => hne (Option.some.inj e)))).trans h1
theorem below_grown_none {w w' : World} (hb : Below w.heap.size w w') : w.grownBy w' none := ⟨hb.os, hb.tape, hb.output, hb.size, fun k hk _ => hb.block k hk⟩
theorem grown_below_trans {w w1 w2 : World} {r : Option Nat} (h : w.grownBy w1 r) (hb : Below w1.heap.size w1 w2) : w.grownBy w2 r :=
  ⟨hb.os.trans h.os, hb.tape.trans h.tape, hb.output.trans h.output, Nat.le_trans h.size hb.size, fun k hk hne => (hb.block k (Nat.lt_of_lt_of_le hk h.size)).trans (h.block k hk hne)⟩
theorem below_then_grown {w w1 w2 : World} {r : Option Nat} (hb : Below w.heap.size w w1) (h : w1.grownBy w2 r) : w.grownBy w2 r :=
  ⟨h.os.trans hb.os, h.tape.trans hb.tape, h.output.trans hb.output, Nat.le_trans hb.size h.size, fun k hk hne => (h.block k (Nat.lt_of_lt_of_le hk hb.size) hne).trans (hb.block k hk)⟩
theorem grown_trans' {w w1 w2 : World} {r : Option Nat} (h : w.grownBy w1 r) (k : w1.grownBy w2 r) : w.grownBy w2 r :=
  ⟨k.os.trans h.os, k.tape.trans h.tape, k.output.trans h.output, Nat.le_trans h.size k.size, fun i hi hne => (k.block i (Nat.lt_of_lt_of_le hi h.size) hne).trans (h.block i hi hne)⟩
theorem u64_wrap_nat (x : Nat) : IntKind.u64.wrap (x : Int) = ((x % 18446744073709551616 : Nat) : Int) := by
  unfold IntKind.wrap; simp [IntKind.bits, IntKind.signed]
theorem u8_wrap_nat (x : Nat) : IntKind.u8.wrap (x : Int) = ((UInt8.ofNat x).toNat : Int) := by
  unfold IntKind.wrap; simp [IntKind.bits, IntKind.signed]
theorem bs_und : Tryd.prog.underlying 23 = some (.slice (Tryd.prog.elem 23)) := by kernel_rfl
theorem bs_one (w : World) : (sizeOf (Tryd.prog.elem 23)).run Tryd.prog w = .ok 1 w := by kernel_rfl
/-- Where 's[k:]' begins. -/
def fromO (o c k : Nat) : Nat := if c = k then o else o + k
theorem run_from (w : World) (K : IntKind) (g o n c k : Nat) (hk : k ≤ n) (hn : n ≤ c) :
    (Instr.sliceAt 23 (.slice (some ⟨g, o, none⟩) n c) (some (.int K (k : Int))) none none).run Tryd.prog w = .ok (.slice (some ⟨g, fromO o c k, none⟩) (n - k) (c - k)) w := by
  rw [run_sliceAt_slice w _ _ _ _ _ bs_und, run_slice_l w _ _ _ _ bs_und K (k : Int) (by omega) (by omega), bs_one]
  unfold fromO
  simp only [Result.andThen, sliced, Int.toNat_natCast, Nat.mul_one]
  by_cases h : c = k
  · subst h
    rw [if_pos rfl]
    simp only [if_pos]
  · rw [if_neg h, if_neg h]
    simp only [Option.map_some, Lib.addr_add]
theorem range_from {w : World} {g o c k : Nat} {vs : List Value} (h : w.rangeAt g o vs) (hc : vs.length ≤ c) : w.rangeAt g (fromO o c k) (vs.drop k) := by
  unfold fromO
  by_cases e : c = k
  · subst e
    rw [List.drop_of_length_le hc]
    intro j v hj; simp at hj
  · rw [if_neg e]
    intro j v hj
    rw [List.getElem?_drop] at hj
    rw [Nat.add_assoc]; exact h (k + j) v hj
end Go.Proofs.YtkocgogpbammaaaDoor

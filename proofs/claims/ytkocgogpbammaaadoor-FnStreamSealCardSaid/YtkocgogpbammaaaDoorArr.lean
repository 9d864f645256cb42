/- Arrays in blocks of their own: cells, writes, the value read by its index. Conditions: as each states. -/
import Derived.Test.YtkocgogpbammaaaDoorFacts
import Derived.ChangeKeysEq
import Derived.Deep.MidRow
import Derived.Laws.Tables
import Derived.Laws.Rows
set_option linter.unusedVariables false
set_option linter.unusedSimpArgs false
namespace Go.Proofs.YtkocgogpbammaaaDoor
open Go.RowKit

def u64s (l : List Nat) : List Value := l.map fun n : Nat => .int .u64 (n : Int)
@[simp] theorem u64s_length (l : List Nat) : (u64s l).length = l.length := by simp [u64s]
theorem u64s_get (l : List Nat) (j : Nat) (h : j < (u64s l).length) : (u64s l)[j] = .int .u64 ((l[j]'(by simpa using h) : Nat) : Int) := by simp [u64s]
theorem u64s_set (l : List Nat) (j n : Nat) : u64s (l.set j n) = (u64s l).set j (.int .u64 (n : Int)) := by simp [u64s, List.map_set]
theorem u64s_oneCell (l : List Nat) : ∀ u ∈ u64s l, u.oneCell' = true := by intro u hu; simp only [u64s, List.mem_map] at hu; obtain ⟨x, _, rfl⟩ := hu; rfl
theorem u8s_set (l : List UInt8) (j : Nat) (b : UInt8) : u8s (l.set j b) = (u8s l).set j (.int .u8 (b.toNat : Int)) := by simp [u8s, List.map_set]

/-- The block g holds an array's cells. -/
def Arr (w : World) (g : Nat) (t : TypeId) (vs : List Value) : Prop := w.heap[g]? = some (.cells vs.toArray t (0, 0))
section
variable {w w' : World} {g : Nat} {t : TypeId} {vs : List Value}
theorem Arr.lt (h : Arr w g t vs) : g < w.heap.size := (Array.getElem?_eq_some_iff.1 h).1
theorem Arr.cell (h : Arr w g t vs) (k : Nat) (hk : k < vs.length) : w.cell? ⟨g, k, none⟩ = some vs[k] := by
  unfold Arr at h; simp [World.cell?, h, hk]
theorem Arr.fr (h : Arr w g t vs) (i : Nat) : w.frozen? ⟨g, i, none⟩ = false := by unfold Arr at h; simp [World.frozen?, h]
theorem Arr.set (h : Arr w g t vs) (k : Nat) (u : Value) (hk : k < vs.length) : Arr (w.setCell ⟨g, k, none⟩ u) g t (vs.set k u) := by
  unfold Arr at h ⊢
  simp [World.setCell, Array.getElem?_modify, h, hk]
theorem Arr.drew (h : Arr w g t vs) : Arr w.drew g t vs := h
theorem Arr.below (h : Arr w g t vs) (hb : Below w.heap.size w w') : Arr w' g t vs := (hb.block g h.lt).trans h
theorem Arr.kept {k : Nat} (h : Arr w g t vs) (hb : w.grownBy w' (some k)) (hne : g ≠ k) : Arr w' g t vs := (hb.block g h.lt (fun e => hne (Option.some.inj e))).trans h
theorem Arr.other (h : Arr w g t vs) {k i : Nat} {u : Value} (hne : g ≠ k) : Arr (w.setCell ⟨k, i, none⟩ u) g t vs := by
  unfold Arr at h ⊢; rw [Below.heap_setCell _ _ _ _ hne]; exact h
theorem arr_new (w : World) (vs : List Value) (t : TypeId) : Arr (w.alloc (.cells vs.toArray t)) w.heap.size t vs := heap_alloc_new w _
theorem Arr.at (h : Arr w g t vs) : At w (some ⟨g, 0, none⟩) vs := by
  intro _
  refine ⟨_, _, rfl, fun j hj => ?_⟩
  rw [Nat.zero_add]; exact h.cell j hj
end

theorem bkept {B k : Nat} {w0 w w' : World} (hb : Below B w0 w) (hg : w.grownBy w' (some k)) (hk : B ≤ k) (hs : B ≤ w.heap.size) : Below B w0 w' := hb.grown hg hs (fun j hj => by cases hj; exact hk)
theorem size_alloc (w : World) (o : Obj) : (w.alloc o).heap.size = w.heap.size + 1 := by simp
theorem arr_new2 (w : World) (o : Obj) (vs : List Value) (t : TypeId) : Arr ((w.alloc o).alloc (.cells vs.toArray t)) (w.heap.size + 1) t vs := by
  have h := arr_new (w.alloc o) vs t
  rwa [size_alloc] at h
theorem below_alloc (w : World) (o : Obj) : Below w.heap.size w (w.alloc o) := Below.alloc (Below.refl _ _) (Nat.le_refl _) _
theorem Arr.range {w : World} {g : Nat} {t : TypeId} {vs : List Value} (h : Arr w g t vs) : w.rangeAt g 0 vs := by
  intro j v hj
  obtain ⟨hl, rfl⟩ := List.getElem?_eq_some_iff.1 hj
  rw [Nat.zero_add]; exact h.cell j hl
theorem Arr.there {w : World} {g : Nat} {t : TypeId} {vs : List Value} (h : Arr w g t vs) : w.there g 0 vs.length := by
  intro j hj
  rw [Nat.zero_add]; exact ⟨by rw [h.cell j hj]; rfl, h.fr j⟩
theorem range_below {w w' : World} {b o : Nat} {cs : List Value} (h : w.rangeAt b o cs) (hb : Below w.heap.size w w') : w'.rangeAt b o cs := by
  intro j v hj
  have h1 := h j v hj
  have h2 := World.block_lt_of_cell? w _ h1
  exact (hb.cell (p := ⟨b, o + j, none⟩) h2).trans h1
theorem there_below {w w' : World} {b o n : Nat} (h : w.there b o n) (hb : Below w.heap.size w w') : w'.there b o n := by
  intro j hj
  obtain ⟨h1, h2⟩ := h j hj
  obtain ⟨u, hu⟩ := Option.isSome_iff_exists.1 h1
  have h3 := World.block_lt_of_cell? w _ hu
  refine ⟨by rw [hb.cell (p := ⟨b, o + j, none⟩) h3]; exact h1, ?_⟩
  rw [← h2]
  unfold World.frozen?
  simp only [hb.block b h3]

theorem run_index_arr {P : Program} {w : World} {t e : TypeId} {n : Nat} (ht : P.underlying t = some (.array n e)) (he : P.plainKey e = true) {i : TypeInfo} (hi : P.info? e = some i) (hc : P.cellsOf e = 1) (vs : List Value) (hn : vs.length = n) (K : IntKind) (k : Nat) (hk : k < vs.length) :
    (Instr.index t (.agg vs.toArray) (.int K (k : Int))).run P w = .ok vs[k] w := by
  have h1 : (0 : Int) ≤ (k : Int) ∧ (k : Int) < ((n : Nat) : Int) := by omega
  have h2 : (part e vs.toArray k).run P w = .ok vs[k] w := run_part_plain w he (by simp [hk])
  have h3 := run_sizeOf w hi
  have h4 : (Instr.index t (.agg vs.toArray) (.int K (k : Int))).run P w = (part e vs.toArray k).run P w := by
    have hk2 : k < n := by omega
    simp [Instr.index, run_underlying ht, asIntOf, hk2, h3, hc, go_sem]
  rw [h4, h2]

end Go.Proofs.YtkocgogpbammaaaDoor

/- Small words and laws that the walks of this seat share: what the cells of a slice hold, what a call owns, append of one element and of a slice. No conditions beyond those that each lemma states. -/
import Derived.WalkKit
import Derived.WalkSpells
import Derived.WalkLawsBesides
import Derived.Lib.Hide
import Derived.Laws.AppendOwnNone
set_option linter.unusedVariables false
set_option linter.unusedSimpArgs false
namespace Go.Proofs.YtkocgogpbammaaaDoor
open Go.RowKit

/-- The cells behind an address hold these values (nothing is said of an address where there is no value). -/
def At (w : World) (a : Option Addr) (vs : List Value) : Prop :=
  0 < vs.length → ∃ b off, a = some ⟨b, off, none⟩ ∧ ∀ j (h : j < vs.length), w.cell? ⟨b, off + j, none⟩ = some vs[j]

def u8s (l : List UInt8) : List Value := l.map fun b => .int .u8 (b.toNat : Int)
def i64s (l : List Nat) : List Value := l.map fun (n : Nat) => .int .i64 (n : Int)

@[simp] theorem u8s_length (l : List UInt8) : (u8s l).length = l.length := by simp [u8s]
@[simp] theorem i64s_length (l : List Nat) : (i64s l).length = l.length := by simp [i64s]
theorem u8s_append (l m : List UInt8) : u8s (l ++ m) = u8s l ++ u8s m := by simp [u8s]
theorem i64s_append (l m : List Nat) : i64s (l ++ m) = i64s l ++ i64s m := by simp [i64s]
theorem u8s_get (l : List UInt8) (j : Nat) (h : j < (u8s l).length) : (u8s l)[j] = .int .u8 ((l[j]'(by simpa using h)).toNat : Int) := by simp [u8s]
theorem i64s_get (l : List Nat) (j : Nat) (h : j < (i64s l).length) : (i64s l)[j] = .int .i64 (l[j]'(by simpa using h) : Int) := by simp [i64s]
theorem u8s_oneCell (l : List UInt8) : ∀ u ∈ u8s l, u.oneCell' = true := by intro u hu; simp only [u8s, List.mem_map] at hu; obtain ⟨x, _, rfl⟩ := hu; rfl
theorem i64s_oneCell (l : List Nat) : ∀ u ∈ i64s l, u.oneCell' = true := by intro u hu; simp only [i64s, List.mem_map] at hu; obtain ⟨x, _, rfl⟩ := hu; rfl

theorem At.nil (w : World) (a : Option Addr) : At w a [] := fun h => absurd h (by simp)
/-- An element's cell, where there is one. -/
theorem At.get {w : World} {a : Option Addr} {vs : List Value} (h : At w a vs) (k : Nat) (hk : k < vs.length) : ∃ b off, a = some ⟨b, off, none⟩ ∧ w.cell? ⟨b, off + k, none⟩ = some vs[k] := by
  obtain ⟨b, off, e, hc⟩ := h (by omega)
  exact ⟨b, off, e, hc k hk⟩
theorem At.u8 {w : World} {a : Option Addr} {l : List UInt8} (h : At w a (u8s l)) (k : Nat) (hk : k < l.length) : ∃ b off, a = some ⟨b, off, none⟩ ∧ w.cell? ⟨b, off + k, none⟩ = some (.int .u8 (l[k].toNat : Int)) := by
  obtain ⟨b, off, e, hc⟩ := h.get k (by simpa using hk)
  exact ⟨b, off, e, by rw [hc, u8s_get]⟩
theorem At.i64 {w : World} {a : Option Addr} {l : List Nat} (h : At w a (i64s l)) (k : Nat) (hk : k < l.length) : ∃ b off, a = some ⟨b, off, none⟩ ∧ w.cell? ⟨b, off + k, none⟩ = some (.int .i64 (l[k] : Int)) := by
  obtain ⟨b, off, e, hc⟩ := h.get k (by simpa using hk)
  exact ⟨b, off, e, by rw [hc, i64s_get]⟩
theorem At.block_lt {w : World} {a : Option Addr} {vs : List Value} (h : At w a vs) (hn : 0 < vs.length) : ∃ b off, a = some ⟨b, off, none⟩ ∧ b < w.heap.size := by
  obtain ⟨b, off, e, hc⟩ := h hn
  exact ⟨b, off, e, World.block_lt_of_cell? w ⟨b, off + 0, none⟩ (hc 0 hn)⟩
/-- What was there stays where nothing below is turned. -/
theorem At.below {w w' : World} {a : Option Addr} {vs : List Value} (h : At w a vs) (hb : Below w.heap.size w w') : At w' a vs := by
  intro hn
  obtain ⟨b, off, e, hc⟩ := h hn
  have hlt := World.block_lt_of_cell? w ⟨b, off + 0, none⟩ (hc 0 hn)
  exact ⟨b, off, e, fun j hj => (hb.cell (p := ⟨b, off + j, none⟩) hlt).trans (hc j hj)⟩
theorem At.take {w : World} {a : Option Addr} {vs : List Value} (h : At w a vs) (n : Nat) : At w a (vs.take n) := by
  intro hn
  obtain ⟨b, off, e, hc⟩ := h (by simp at hn; omega)
  exact ⟨b, off, e, fun j hj => by rw [hc j (by simp at hj; omega), List.getElem_take]⟩

/-- What the call owns: a slice value and its elements, of one cell each, in a row none of whose cells is frozen. -/
def Own (w : World) (base : Nat) (e : TypeId) (v : Value) (vs : List Value) : Prop :=
  (v = .slice none 0 0 ∧ vs = []) ∨
  ∃ g cap cur fz, v = .slice (some ⟨g, 0, none⟩) vs.length cap ∧ base ≤ g ∧ w.heap[g]? = some (.cells cur e fz) ∧ (∀ j, j < cur.size → fz.1 ≤ j → j < fz.2 → False) ∧ vs.length ≤ cap ∧ cap ≤ maxLen ∧ cur.size = cap ∧ cur.toList.take vs.length = vs

theorem Own.nil (w : World) (base : Nat) (e : TypeId) : Own w base e (.slice none 0 0) [] := .inl ⟨rfl, rfl⟩
theorem Own.of {w : World} {base : Nat} {e : TypeId} {v : Value} {vs : List Value} (h : w.ownsRow base e 1 v vs.length vs) : Own w base e v vs := by
  rcases h.2 with ⟨h1, h2⟩ | ⟨g, cap, cur, hv, hg, hh, hn, hm, hs, ht⟩
  · exact .inl ⟨h1, List.eq_nil_of_length_eq_zero h2⟩
  · exact .inr ⟨g, cap, cur, (0, 0), hv, hg, hh, fun j _ _ h => absurd h (by simp), hn, hm, by omega, by simpa using ht⟩
/-- An empty slice that is not nil. -/
theorem Own.empty (w : World) (base : Nat) (e : TypeId) (hb : base ≤ w.heap.size) : Own (w.alloc (.cells #[] e)) base e (.slice (some ⟨w.heap.size, 0, none⟩) 0 0) [] :=
  .inr ⟨w.heap.size, 0, #[], (0, 0), rfl, hb, heap_alloc_new w _, fun j h => absurd h (by simp), Nat.le_refl _, by decide, rfl, rfl⟩
/-- What []byte(s) lays. -/
theorem Own.bytes (w : World) (base : Nat) (e : TypeId) (s : ByteArray) (cap : Nat) (n : Nat) (hb : base ≤ w.heap.size) (hc : s.size ≤ cap) (hm : cap ≤ maxLen) (hn : cap ≤ n) :
    Own (w.alloc (.cells (bytesRow s cap) e (n, n + 1))) base e (.slice (some ⟨w.heap.size, 0, none⟩) s.size cap) (u8s s.data.toList) := by
  have hsz : (bytesRow s cap).size = cap := by
    simp only [bytesRow, Array.size_append, Array.size_map, Array.size_replicate]
    have : s.data.size = s.size := rfl
    omega
  refine .inr ⟨w.heap.size, cap, bytesRow s cap, (n, n + 1), by rw [u8s_length, Array.length_toList]; rfl, hb, heap_alloc_new w _, (fun j h1 h2 _ => by simp only at h2; omega), by rw [u8s_length, Array.length_toList]; exact hc, hm, hsz, ?_⟩
  simp [bytesRow, u8s]
theorem bytesRow_size (s : ByteArray) (cap : Nat) (hc : s.size ≤ cap) : (bytesRow s cap).size = cap := by
  simp only [bytesRow, Array.size_append, Array.size_map, Array.size_replicate]
  have : s.data.size = s.size := rfl
  omega
theorem Own.lt {w : World} {base : Nat} {e : TypeId} {v : Value} {vs : List Value} (h : Own w base e v vs) : ∀ k, v.ownBlock = some k → base ≤ k ∧ k < w.heap.size := by
  intro k hk
  rcases h with ⟨rfl, _⟩ | ⟨g, cap, cur, fz, rfl, hg, hh, _⟩
  · simp [Value.ownBlock] at hk
  · simp [Value.ownBlock] at hk
    subst hk
    refine ⟨hg, ?_⟩
    rcases Nat.lt_or_ge g w.heap.size with h | h
    · exact h
    · rw [Array.getElem?_eq_none h] at hh; cases hh
/-- Its form, and its cells. -/
theorem Own.at {w : World} {base : Nat} {e : TypeId} {v : Value} {vs : List Value} (h : Own w base e v vs) : ∃ a cap, v = .slice a vs.length cap ∧ (a = none → cap = 0) ∧ At w a vs ∧ (∀ b o s, a = some ⟨b, o, s⟩ → base ≤ b ∧ b < w.heap.size) := by
  have hlt := h.lt
  rcases h with ⟨rfl, rfl⟩ | ⟨g, cap, cur, fz, rfl, hg, hh, hfz, hnc, hcm, hcs, htake⟩
  · exact ⟨none, 0, rfl, fun _ => rfl, At.nil _ _, (fun b o s h => by cases h)⟩
  · refine ⟨some ⟨g, 0, none⟩, cap, rfl, (fun h => by cases h), (fun h0 => ⟨g, 0, rfl, fun j hj => ?_⟩), (fun b o s h => by cases h; exact hlt g rfl)⟩
    rw [show 0 + j = j from by omega]
    have : vs[j]? = cur[j]? := by
      have h1 : (cur.toList.take vs.length)[j]? = cur.toList[j]? := by rw [List.getElem?_take]; simp [hj]
      rw [htake] at h1
      simpa using h1
    rw [List.getElem?_eq_getElem hj] at this
    simp [World.cell?, hh, ← this]
/-- The same of a slice value that is written out. -/
theorem Own.atS {w : World} {base : Nat} {e : TypeId} {a : Option Addr} {n cap : Nat} {vs : List Value} (h : Own w base e (.slice a n cap) vs) : At w a vs ∧ n = vs.length ∧ (a = none → cap = 0) ∧ (∀ b o s, a = some ⟨b, o, s⟩ → base ≤ b ∧ b < w.heap.size) := by
  obtain ⟨a', cap', e', h1, h2, h3⟩ := h.at
  injection e' with e1 e2 e3
  subst e1 e2 e3
  exact ⟨h2, rfl, h1, h3⟩
theorem Own.mono {w : World} {base base' : Nat} {e : TypeId} {v : Value} {vs : List Value} (h : Own w base e v vs) (hb : base' ≤ base) : Own w base' e v vs := by
  rcases h with h2 | ⟨g, cap, cur, fz, hv, hg, r⟩
  · exact .inl h2
  · exact .inr ⟨g, cap, cur, fz, hv, by omega, r⟩
theorem Own.of_block {w w' : World} {base : Nat} {e : TypeId} {v : Value} {vs : List Value} (h : Own w base e v vs) (hb : ∀ k, v.ownBlock = some k → w'.heap[k]? = w.heap[k]?) : Own w' base e v vs := by
  rcases h with h2 | ⟨g, cap, cur, fz, hv, hg, hh, r⟩
  · exact .inl h2
  · exact .inr ⟨g, cap, cur, fz, hv, hg, by rw [hb g (by rw [hv]; rfl)]; exact hh, r⟩
/-- What is owned stays so while nothing below the heap's size is turned. -/
theorem Own.below {w w' : World} {base : Nat} {e : TypeId} {v : Value} {vs : List Value} (h : Own w base e v vs) (hb : Below w.heap.size w w') : Own w' base e v vs :=
  h.of_block fun k hk => hb.block k (h.lt k hk).2
theorem Own.alloc {w : World} {base : Nat} {e : TypeId} {v : Value} {vs : List Value} (h : Own w base e v vs) (o : Obj) : Own (w.alloc o) base e v vs :=
  h.of_block fun k hk => Below.heap_alloc w o k (h.lt k hk).2
theorem Own.drew {w : World} {base : Nat} {e : TypeId} {v : Value} {vs : List Value} (h : Own w base e v vs) : Own w.drew base e v vs := h
theorem Own.kept {w w' : World} {base : Nat} {e : TypeId} {v : Value} {vs : List Value} {row : Option Nat} (h : Own w base e v vs) (hg : w.grownBy w' row) (hne : v.ownBlock = none ∨ v.ownBlock ≠ row) : Own w' base e v vs :=
  h.of_block fun k hk => hg.block k (h.lt k hk).2 (by rw [← hk]; rcases hne with h | h; · rw [h] at hk; cases hk
                                                      · exact h)

/-- An element's cell of what is owned is not frozen. -/
theorem Own.frozenAt {w : World} {base : Nat} {e : TypeId} {g n cap : Nat} {vs : List Value} (h : Own w base e (.slice (some ⟨g, 0, none⟩) n cap) vs) (j : Nat) (hj : j < vs.length) : w.frozen? ⟨g, j, none⟩ = false := by
  rcases h with ⟨h, _⟩ | ⟨g', cap', cur, fz, hv, hg, hh, hfz, hnc, hcm, hcs, htake⟩
  · cases h
  · injection hv with h1 h2 h3
    injection h1 with h1
    injection h1 with h1 _ _
    subst h1
    obtain ⟨lo, hi⟩ := fz
    have := hfz j (by omega)
    simp only [World.frozen?, hh, Bool.and_eq_false_iff, decide_eq_false_iff_not]
    simp only at this
    by_cases hlo : lo ≤ j
    · right; exact fun h => this hlo h
    · left; exact hlo
theorem Own.cellAt {w : World} {base : Nat} {e : TypeId} {g n cap : Nat} {vs : List Value} (h : Own w base e (.slice (some ⟨g, 0, none⟩) n cap) vs) (j : Nat) (hj : j < vs.length) : w.cell? ⟨g, j, none⟩ = some vs[j] := by
  obtain ⟨b, off, heq, hc⟩ := h.atS.1 (by omega)
  cases heq
  simpa using hc j hj
/-- A store into an element. -/
theorem Own.set {w : World} {base : Nat} {e : TypeId} {g n cap : Nat} {vs : List Value} (h : Own w base e (.slice (some ⟨g, 0, none⟩) n cap) vs) (j : Nat) (u : Value) (hj : j < vs.length) :
    Own (w.setCell ⟨g, j, none⟩ u) base e (.slice (some ⟨g, 0, none⟩) n cap) (vs.set j u) := by
  rcases h with ⟨h, _⟩ | ⟨g', cap', cur, fz, hv, hg, hh, hfz, hnc, hcm, hcs, htake⟩
  · cases h
  · injection hv with h1 h2 h3
    injection h1 with h1
    injection h1 with h1 _ _
    subst h1 h2 h3
    refine .inr ⟨g, cap, cur.setIfInBounds j u, fz, by simp, hg, ?_, by simpa using hfz, by simpa using hnc, hcm, by simpa using hcs, ?_⟩
    · rw [setCell_eq_setRow w g j cur e fz u hh]
      exact setRow_heap w g cur _ e fz hh
    · rw [List.length_set, Array.toList_setIfInBounds, List.take_set, htake]

/-- Cells are stored one behind the other in a row that is not frozen there. -/
theorem run_storeCells_clear (P : Program) (g o : Nat) (t : TypeId) (fz : Nat × Nat) : ∀ (vs : List Value) (i : Nat) (cur : Array Value) (w : World), w.heap[g]? = some (.cells cur t fz) → (∀ j, j < cur.size → fz.1 ≤ j → j < fz.2 → False) → o + i + vs.length ≤ cur.size → (∀ v ∈ vs, v.oneCell' = true) →
    (storeCells ⟨g, o, none⟩ vs i).run P w = .ok () (w.setRow g (cur.toList.take (o + i) ++ vs ++ cur.toList.drop (o + i + vs.length)).toArray)
  | [], i, cur, w, hg, _, _, _ => by
    simp only [storeCells, List.append_nil, List.length_nil, Nat.add_zero, List.take_append_drop, Array.toArray_toList]
    rw [setRow_self w g cur t fz hg]
    rfl
  | v :: rest, i, cur, w, hg, hfz, hl, h1 => by
    have hi : o + i < cur.size := by simp at hl; omega
    have hadd : (⟨g, o, none⟩ : Addr).add i = ⟨g, o + i, none⟩ := by unfold Addr.add; split <;> simp_all
    have hcell : w.cell? ⟨g, o + i, none⟩ = some cur[o + i] := by simp [World.cell?, hg, hi]
    have hfro : w.frozen? ⟨g, o + i, none⟩ = false := by
      obtain ⟨lo, hi'⟩ := fz
      have := hfz (o + i) hi
      simp only [World.frozen?, hg, Bool.and_eq_false_iff, decide_eq_false_iff_not]
      simp only at this
      by_cases hlo : lo ≤ o + i
      · right; exact fun h => this hlo h
      · left; exact hlo
    have hst : (store ((⟨g, o, none⟩ : Addr).add i) v).run P w = .ok () (w.setRow g (cur.setIfInBounds (o + i) v)) := by
      rw [hadd, run_store P w _ v _ (h1 v (by simp)), hcell]
      simp [hfro, setCell_eq_setRow w g (o + i) cur t fz v hg]
    have ih := run_storeCells_clear P g o t fz rest (i + 1) (cur.setIfInBounds (o + i) v) (w.setRow g (cur.setIfInBounds (o + i) v)) (setRow_heap w g cur _ t _ hg) (by simpa using hfz) (by simp at hl ⊢; omega) (fun x hx => h1 x (by simp [hx]))
    simp only [storeCells, Sem.run_bind, hst, Result.andThen_ok, ih, setRow_setRow]
    congr 3
    have e := list_seg_step cur.toList (o + i) v rest (by simp at hl ⊢; omega)
    simpa [Array.toList_setIfInBounds, Nat.add_assoc] using e

/-- append(s, r...) onto what the call owns: with room in place, else to a new row. -/
theorem run_append_clear {P : Program} (w : World) (base : Nat) (t ty e : TypeId) (i : TypeInfo) (z : Value) (bytes : Nat) (ht : P.underlying t = some (.slice e)) (hi : P.info? e = some i) (hz : i.zero = some z)
    (hsize : i.size = 1) (hby : i.bytes = bytes) (hzs : z.cells.size = 1)
    (v : Value) (xs : List Value) (hown : Own w base e v xs)
    (a : Addr) (c : Nat) (news : List Value) (hnews : ∀ j u, news[j]? = some u → w.cell? (a.add j) = some u) (h1 : ∀ u ∈ news, u.oneCell' = true)
    (h63 : xs.length + news.length ≤ maxLen) (hbytes : (xs.length + news.length) * bytes ≤ 140737488355328) (hbase : base ≤ w.heap.size) :
    ∃ v' w', (Builtin.append_ #[t, t] ty #[v, .slice (some a) news.length c]).run P w = .ok v' w' ∧ Own w' base e v' (xs ++ news) ∧ w.grownBy w' v.ownBlock := by
  rcases hown with ⟨rfl, rfl⟩ | ⟨g, cap, cur, fz, rfl, hbg, hg, hfz, hnc, hcm, hcs, htake⟩
  · obtain ⟨v', w', r1, r2, r3, _⟩ := run_append_own (P := P) w base t ty e i z 1 bytes ht hi hz hsize hby hzs (by decide) (.slice none 0 0) 0 [] (World.ownsRow_nil w base e 1) a news.length c news (by simp) hnews h1 (by simpa using h63) (by simpa using hbytes) hbase
    exact ⟨v', w', r1, by refine Own.of ?_; simpa using r2, r3⟩
  · have hsmall : xs.length + news.length ≤ 9223372036854775807 := by simp only [maxLen] at h63; omega
    by_cases hroom : xs.length + news.length ≤ cap
    · have hf := run_firstCells_some (P := P) w i.size news.length a news.length c news (by simp [hsize]) hnews
      have hst := run_storeCells_clear P g xs.length e fz news 0 cur w hg hfz (by omega) h1
      simp only [Nat.add_zero] at hst
      rw [hsize] at hf
      have hr : (Builtin.append_ #[t, t] ty #[.slice (some ⟨g, 0, none⟩) xs.length cap, .slice (some a) news.length c]).run P w =
          .ok (.slice (some ⟨g, 0, none⟩) (xs.length + news.length) cap) (w.setRow g (cur.toList.take xs.length ++ news ++ cur.toList.drop (xs.length + news.length)).toArray) := by
        simp [Builtin.append_, run_underlying ht, sizeOf, typeInfo, hi, hsize, Builtin.lenOf, hroom, hf, Addr.add_lit, hst]
      refine ⟨_, _, hr, .inr ⟨g, cap, _, fz, by rw [List.length_append], hbg, setRow_heap w g cur _ e _ hg, ?_, by rw [List.length_append]; exact hroom, hcm, ?_, ?_⟩, ⟨rfl, rfl, rfl, by simp, fun k _ hk => setRow_other w g k _ (fun e => hk (by simp [Value.ownBlock, e]))⟩⟩
      · intro j hj
        refine hfz j ?_
        simp only [List.size_toArray, List.length_append, List.length_take, List.length_drop, Array.length_toList] at hj
        omega
      · simp only [List.size_toArray, List.length_append, List.length_take, List.length_drop, Array.length_toList]
        omega
      · rw [htake]
        exact List.take_left
    · have holds : ∀ j u, xs[j]? = some u → w.cell? ((⟨g, 0, none⟩ : Addr).add j) = some u := by
        intro j u hu
        have hj : j < xs.length := by
          rcases Nat.lt_or_ge j xs.length with h | h
          · exact h
          · rw [List.getElem?_eq_none h] at hu; cases hu
        have h1 : (cur.toList.take xs.length)[j]? = cur.toList[j]? := by rw [List.getElem?_take]; simp [hj]
        rw [htake, hu] at h1
        have hadd : (⟨g, 0, none⟩ : Addr).add j = ⟨g, j, none⟩ := by unfold Addr.add; split <;> simp_all
        rw [hadd]
        simp [World.cell?, hg]
        simpa using h1.symm
      have hr := run_append_grow (P := P) w t ty e i z ht hi hz ⟨g, 0, none⟩ xs.length cap xs (by simp [hsize]) holds a news.length c news (by simp [hsize]) hnews (by omega) (by omega) (growslice_fits (by omega) (by rw [hby]; exact hbytes))
      have hge := grownCap_ge w (xs.length + news.length) cap e
      have hcm2 : grownCap w (xs.length + news.length) cap e ≤ maxLen := grownCap_le_maxLen w (xs.length + news.length) cap e h63
      refine ⟨_, _, hr, .inr ⟨w.heap.size, _, _, (0, 0), by rw [List.length_append], hbase, heap_alloc_new w.drew _, fun j _ _ h => absurd h (by simp), by rw [List.length_append]; exact hge, hcm2, ?_, ?_⟩, ⟨rfl, rfl, rfl, by simp, fun k hk _ => Below.heap_alloc w.drew _ k hk⟩⟩
      · simp only [Array.size_append, List.size_toArray, size_zeroCells, hzs]
        omega
      · simp only [Array.toList_append, List.append_assoc]
        rw [← List.append_assoc]
        exact List.take_left

/-- A slice type whose elements have one cell. -/
structure STy (P : Program) (t e : TypeId) (z : Value) (bytes : Nat) : Prop where
  und : P.underlying t = some (.slice e)
  info : (P.info? e).map (fun i => (i.zero, i.size, i.bytes)) = some (some z, 1, bytes)
  one : z.cells.size = 1
  notAgg : ∀ cs, z ≠ .agg cs

section
variable {P : Program} {ops : Array Oper} {rest : List Oper} {o : Oper} {a : Act} {Q : Exit → Act → World → Prop} {t e : TypeId} {z : Value} {bytes : Nat}

/-- make([]T, n). -/
theorem wpList_makeN (S : STy P t e z bytes) {w : World} (hgd : o.guard = none) (l c : Operand) (ho : o.op = .makeSlice t l c) (base n : Nat) (kl kc : IntKind) (L C : Int) (hl : a.eval l = .int kl L) (hc : a.eval c = .int kc C) (hL : L = (n : Int)) (hC : C = (n : Int))
    (hb : bytes * n ≤ 281474976710656) (h63 : n ≤ maxLen) (hbase : base ≤ w.heap.size)
    (h : ∀ g w', Own w' base e (.slice (some ⟨g, 0, none⟩) n n) (List.replicate n z) → w.grownBy w' none → wpList P ops Q rest (a.put o.dst (.slice (some ⟨g, 0, none⟩) n n)) w') :
    wpList P ops Q (o :: rest) a w := by
  obtain ⟨i, hi, hz0, hz1, hz2⟩ := info_parts S.info
  refine wpList_make_full w hgd l c t ho base e i z 1 S.und hi hz0 hz1 kl kc L C n hl hc hL hC (by rw [hz2]; exact hb) h63 hbase fun w' h1 h2 => ?_
  have hone : (madeCells z.cells (n * 1)).toList = List.replicate n z := by
    have hzz : z.cells = #[z] := by
      cases z with
      | agg cs =>
        exfalso
        exact S.notAgg cs rfl
      | _ => rfl
    rw [hzz, Nat.mul_one, toList_madeCells_one]
  rw [hone] at h1
  exact h w.heap.size w' (Own.of (by simpa using h1)) h2

/-- append(s, r...): the elements of another slice that lies at an address. -/
theorem wpList_append_at (S : STy P t e z bytes) {w : World} (hgd : o.guard = none) (s x : Operand)
    (ho : o.op = .call { callee := .builtin .append, args := #[s, x], argTypes := #[t, t] })
    (base : Nat) (v : Value) (xs : List Value) (hs : a.eval s = v) (hown : Own w base e v xs) (ad : Addr) (ys : List Value) (c : Nat)
    (hx : a.eval x = .slice (some ad) ys.length c) (hat : ∀ j u, ys[j]? = some u → w.cell? (ad.add j) = some u) (hy : ∀ u ∈ ys, u.oneCell' = true)
    (hb : (xs.length + ys.length) * bytes ≤ 140737488355328) (h63 : xs.length + ys.length ≤ maxLen) (hbase : base ≤ w.heap.size)
    (h : ∀ v' w', Own w' base e v' (xs ++ ys) → w.grownBy w' v.ownBlock → wpList P ops Q rest (a.put o.dst v') w') :
    wpList P ops Q (o :: rest) a w := by
  obtain ⟨i, hi, hz0, hz1, hz2⟩ := info_parts S.info
  refine wpList_plain hgd fun K hK => ?_
  obtain ⟨v', w', hr, h2, h3⟩ := run_append_clear (P := P) w base t o.type e i z bytes S.und hi hz0 hz1 hz2 S.one v xs hown ad c ys hat hy h63 hb hbase
  unfold Oper.wp execOp
  simp only [ho, resolve, invoke, builtin, Sem.run_bind, Sem.run_pure, Result.andThen_ok, List.map_toArray, List.map_cons, List.map_nil, hs, hx, hr]
  exact hK _ _ (h v' w' h2 h3)

/-- append(s, y): one element, laid in a new block of its own just before. -/
theorem wpList_append1 (S : STy P t e z bytes) {w : World} (hgd : o.guard = none) (s x : Operand)
    (ho : o.op = .call { callee := .builtin .append, args := #[s, x], argTypes := #[t, t] })
    (base : Nat) (v : Value) (xs : List Value) (hs : a.eval s = v) (hown : Own w base e v xs) (y : Value) (c : Nat)
    (hx : a.eval x = .slice (some ⟨w.heap.size, 0, none⟩) 1 c) (hy : y.oneCell' = true)
    (hb : (xs.length + 1) * bytes ≤ 140737488355328) (h63 : xs.length + 1 ≤ maxLen) (hbase : base ≤ w.heap.size)
    (h : ∀ v' w', Own w' base e v' (xs ++ [y]) → w.grownBy w' v.ownBlock → wpList P ops Q rest (a.put o.dst v') w') :
    wpList P ops Q (o :: rest) a (w.alloc (.cells #[y] e)) := by
  refine wpList_append_at S hgd s x ho base v xs hs (hown.alloc _) ⟨w.heap.size, 0, none⟩ [y] c hx ?_ ?_ hb h63 (by simp; omega) ?_
  · intro j u hj
    match j, hj with
    | 0, hj => simp at hj; subst hj; simp [Addr.add]
  · intro u hu; simp at hu; subst hu; exact hy
  · intro v' w' h1 h2
    refine h v' w' h1 ?_
    exact ⟨h2.os, h2.tape, h2.output, by have := h2.size; simp at this; omega, fun k hk hne => by
      rw [h2.block k (by simp; omega) hne]; exact Below.heap_alloc w _ k hk⟩

/-- append(s, y1, y2, ..): elements that are laid in a new block of their own just before. -/
theorem wpList_appendL (S : STy P t e z bytes) {w : World} (hgd : o.guard = none) (s x : Operand)
    (ho : o.op = .call { callee := .builtin .append, args := #[s, x], argTypes := #[t, t] })
    (base : Nat) (v : Value) (xs : List Value) (hs : a.eval s = v) (hown : Own w base e v xs) (ys : List Value) (m c : Nat)
    (hx : a.eval x = .slice (some ⟨w.heap.size, 0, none⟩) m c) (hm : ys.length = m) (hy : ∀ u ∈ ys, u.oneCell' = true)
    (hb : (xs.length + ys.length) * bytes ≤ 140737488355328) (h63 : xs.length + ys.length ≤ maxLen) (hbase : base ≤ w.heap.size)
    (h : ∀ v' w', Own w' base e v' (xs ++ ys) → w.grownBy w' v.ownBlock → wpList P ops Q rest (a.put o.dst v') w') :
    wpList P ops Q (o :: rest) a (w.alloc (.cells ys.toArray e)) := by
  subst hm
  refine wpList_append_at S hgd s x ho base v xs hs (hown.alloc _) ⟨w.heap.size, 0, none⟩ ys c hx ?_ hy hb h63 (by simp; omega) ?_
  · intro j u hj
    have hadd : (⟨w.heap.size, 0, none⟩ : Addr).add j = ⟨w.heap.size, j, none⟩ := by unfold Addr.add; split <;> simp_all
    rw [hadd]
    have hn : (w.alloc (.cells ys.toArray e)).heap[w.heap.size]? = some (.cells ys.toArray e) := heap_alloc_new w _
    unfold World.cell?
    rw [hn]
    simpa using hj
  · intro v' w' h1 h2
    refine h v' w' h1 ?_
    exact ⟨h2.os, h2.tape, h2.output, by have := h2.size; simp at this; omega, fun k hk hne => by
      rw [h2.block k (by simp; omega) hne]; exact Below.heap_alloc w _ k hk⟩

/-- append(s, r...): the elements of another slice, nil and empty ones too. -/
theorem wpList_appendN (S : STy P t e z bytes) {w : World} (hgd : o.guard = none) (s x : Operand)
    (ho : o.op = .call { callee := .builtin .append, args := #[s, x], argTypes := #[t, t] })
    (base : Nat) (v : Value) (xs : List Value) (hs : a.eval s = v) (hown : Own w base e v xs) (ad : Option Addr) (ys : List Value) (m c : Nat)
    (hx : a.eval x = .slice ad m c) (hm : ys.length = m) (hat : At w ad ys) (hy : ∀ u ∈ ys, u.oneCell' = true)
    (hb : (xs.length + ys.length) * bytes ≤ 140737488355328) (h63 : xs.length + ys.length ≤ maxLen) (hbase : base ≤ w.heap.size)
    (h : ∀ v' w', Own w' base e v' (xs ++ ys) → w.grownBy w' v.ownBlock → wpList P ops Q rest (a.put o.dst v') w') :
    wpList P ops Q (o :: rest) a w := by
  subst hm
  cases ad with
  | none =>
    have h0 : ys = [] := by
      cases ys with
      | nil => rfl
      | cons y l => obtain ⟨b, off, e', _⟩ := hat (by simp); cases e'
    subst h0
    obtain ⟨i, hi, hz0, hz1, hz2⟩ := info_parts S.info
    have hfit : ∃ v0 n cap, v = .slice v0 n cap ∧ n ≤ cap := by
      rcases hown with ⟨rfl, _⟩ | ⟨g, cap, cur, fz, rfl, _, _, _, hnc, _⟩
      · exact ⟨none, 0, 0, rfl, Nat.le_refl _⟩
      · exact ⟨_, _, _, rfl, hnc⟩
    obtain ⟨v0, n, cap, rfl, hnc⟩ := hfit
    have hrun : (Builtin.append_ #[t, t] o.type #[.slice v0 n cap, .slice none 0 c]).run P w = .ok (.slice v0 n cap) w := by
      cases v0 <;> simp [Builtin.append_, run_underlying S.und, sizeOf, typeInfo, hi, hz1, Builtin.lenOf, hnc, Builtin.firstCells, storeCells]
    refine wpList_plain hgd fun K hK => ?_
    unfold Oper.wp execOp
    simp only [ho, resolve, invoke, builtin, Sem.run_bind, Sem.run_pure, Result.andThen_ok, List.map_toArray, List.map_cons, List.map_nil, hs, hx, List.length_nil, hrun]
    exact hK _ _ (h _ w (by simpa using hown) (World.grownBy.refl w _))
  | some p =>
    refine wpList_append_at S hgd s x ho base v xs hs hown p ys c hx ?_ hy hb h63 hbase h
    intro j u hj
    have hlt : j < ys.length := by
      rcases Nat.lt_or_ge j ys.length with h | h
      · exact h
      · rw [List.getElem?_eq_none h] at hj; cases hj
    obtain ⟨b, off, e', hc⟩ := hat (by omega)
    cases e'
    rw [List.getElem?_eq_getElem hlt] at hj
    cases hj
    have hcj := hc j hlt
    simp only [Addr.add]
    split
    · rename_i h0; subst h0; simpa using hcj
    · exact hcj
end

section
variable {P : Program} {ops : Array Oper} {rest : List Oper} {o : Oper} {a : Act} {Q : Exit → Act → World → Prop} {src dst e : TypeId}

/-- []byte(s): a row of the call's own. -/
theorem wpList_toBytes {w : World} (hgd : o.guard = none) (x : Operand) (ho : o.op = .convert src dst x) (hs : P.underlying src = some .string) (hd : P.underlying dst = some (.slice e)) (he : P.underlying e = some (.int .u8))
    (base : Nat) (l : List UInt8) (hx : a.eval x = .string ⟨l.toArray⟩) (hl : l.length ≤ maxLen) (hbase : base ≤ w.heap.size)
    (h : ∀ g cap w', Own w' base e (.slice (some ⟨g, 0, none⟩) l.length cap) (u8s l) → w.grownBy w' none → wpList P ops Q rest (a.put o.dst (.slice (some ⟨g, 0, none⟩) l.length cap)) w') :
    wpList P ops Q (o :: rest) a w := by
  refine wpList_plain hgd fun K hK => ?_
  have hr := run_bytes_of_string (P := P) w src dst e ⟨l.toArray⟩ hs hd he
  have hz : (ByteArray.mk l.toArray).size = l.length := by simp [ByteArray.size]
  have hown := Own.bytes w.drew base e ⟨l.toArray⟩ (grownCap w l.length 0 e) (bytesRow ⟨l.toArray⟩ (grownCap w l.length 0 e)).size hbase (by rw [hz]; exact grownCap_ge w _ _ _) (grownCap_le_maxLen w _ _ _ hl)
    (by rw [bytesRow_size _ _ (by rw [hz]; exact grownCap_ge w _ _ _)]; exact Nat.le_refl _)
  rw [hz] at hr hown
  unfold Oper.wp execOp
  simp only [ho, hx, Sem.run_bind, hr, Result.andThen_ok, Sem.run_pure]
  refine hK _ _ (h w.heap.size _ _ (by simpa using hown) ?_)
  exact ⟨rfl, rfl, rfl, by simp, fun k hk _ => Below.heap_alloc w.drew _ k hk⟩

/-- string(b): the bytes that the cells hold. -/
theorem wpList_toString {w : World} (hgd : o.guard = none) (x : Operand) (ho : o.op = .convert src dst x) (hs : P.underlying src = some (.slice e)) (hd : P.underlying dst = some .string) (he : P.underlying e = some (.int .u8))
    (ad : Option Addr) (cap : Nat) (l : List UInt8) (hx : a.eval x = .slice ad l.length cap) (hat : At w ad (u8s l))
    (h : wpList P ops Q rest (a.put o.dst (.string ⟨l.toArray⟩)) w) :
    wpList P ops Q (o :: rest) a w := by
  refine wpList_plain hgd fun K hK => ?_
  have hr : (convert src dst (.slice ad l.length cap)).run P w = .ok (.string ⟨l.toArray⟩) w := by
    cases ad with
    | none =>
      have h0 : l = [] := by
        cases l with
        | nil => rfl
        | cons y l => obtain ⟨b, off, e', _⟩ := hat (by simp); cases e'
      subst h0
      simp [convert, run_underlying hs, run_underlying hd, run_underlying he, Conv.bytesToString]
      rfl
    | some p =>
      refine run_convert_bytes_back w src dst e p cap l hs he hd fun j hj => ?_
      obtain ⟨b, off, e', hc⟩ := hat.u8 j hj
      cases e'
      simp only [Addr.add]
      split
      · rename_i h0; subst h0; simpa using hc
      · exact hc
  unfold Oper.wp execOp
  simp only [ho, hx, Sem.run_bind, hr, Result.andThen_ok, Sem.run_pure]
  exact hK _ _ h
end

/-- Behind an append to what the call owns: what lay below stands. -/
theorem below_grown {B base : Nat} {w0 w w' : World} {e : TypeId} {v : Value} {vs : List Value} (hb : Below B w0 w) (hown : Own w base e v vs) (hg : w.grownBy w' v.ownBlock) (hB : B ≤ base) (hs : B ≤ w.heap.size) : Below B w0 w' :=
  hb.grown hg hs fun k hk => by have := (hown.lt k hk).1; omega


/-- A sign of a text that is a list. -/
@[go_sem] theorem ba_get (l : List UInt8) (i : Nat) (h : i < (ByteArray.mk l.toArray).size) : (ByteArray.mk l.toArray)[i]'h = l[i]'(by simpa [ByteArray.size] using h) := rfl
/-- The iterator over an ASCII text. -/
theorem next_ascii {P : Program} (w : World) (l : List UInt8) (pos : Nat) (ty : TypeId) (h : pos < l.length) (ha : l[pos].toNat < 128) :
    (Instr.next (.pointer (some ⟨w.heap.size, 0, none⟩)) true ty).run P (w.iter ⟨l.toArray⟩ pos) =
      .ok (.tuple #[.bool true, .int .i64 pos, .int .i32 (l[pos].toNat : Int)]) (w.iter ⟨l.toArray⟩ (pos + 1)) :=
  run_next_ascii w ⟨l.toArray⟩ pos ty (by simpa [ByteArray.size] using h) ha
theorem next_end {P : Program} (w : World) (l : List UInt8) (pos : Nat) (ty : TypeId) (h : l.length ≤ pos) :
    (Instr.next (.pointer (some ⟨w.heap.size, 0, none⟩)) true ty).run P (w.iter ⟨l.toArray⟩ pos) = .ok (.tuple #[.bool false]) (w.iter ⟨l.toArray⟩ pos) :=
  run_next_end w ⟨l.toArray⟩ pos ty (by simp [ByteArray.size]; omega)
theorem below_iter (w : World) (s : ByteArray) (pos : Nat) : Below w.heap.size w (w.iter s pos) := (Below.refl _ _).alloc (Nat.le_refl _) _

/-- Bit operations on int's numbers from nought on. -/
theorem ofInt_i64 (a : Nat) (ha : a < 9223372036854775808) : (BitVec.ofInt 64 (a : Int)).toNat = a := by
  rw [BitVec.ofInt_natCast, BitVec.toNat_ofNat]; exact Nat.mod_eq_of_lt (by omega)
theorem i64_and_nat (a b : Nat) (ha : a < 9223372036854775808) (hb : b < 9223372036854775808) : bits .and .i64 (a : Int) (b : Int) = ((a &&& b : Nat) : Int) := by
  have hx : a &&& b < 2 ^ 63 := Nat.and_lt_two_pow _ (by omega)
  show IntKind.i64.wrap ((BitVec.ofInt 64 (a : Int) &&& BitVec.ofInt 64 (b : Int)).toNat : Int) = _
  rw [BitVec.toNat_and, ofInt_i64 a ha, ofInt_i64 b hb]
  exact IntWalk.i64_in _ (by omega)
theorem i64_xor_nat (a b : Nat) (ha : a < 9223372036854775808) (hb : b < 9223372036854775808) : bits .xor .i64 (a : Int) (b : Int) = ((a ^^^ b : Nat) : Int) := by
  have hx : a ^^^ b < 2 ^ 63 := Nat.xor_lt_two_pow (by omega) (by omega)
  show IntKind.i64.wrap ((BitVec.ofInt 64 (a : Int) ^^^ BitVec.ofInt 64 (b : Int)).toNat : Int) = _
  rw [BitVec.toNat_xor, ofInt_i64 a ha, ofInt_i64 b hb]
  exact IntWalk.i64_in _ (by omega)
theorem i64_or_nat (a b : Nat) (ha : a < 9223372036854775808) (hb : b < 9223372036854775808) : bits .or .i64 (a : Int) (b : Int) = ((a ||| b : Nat) : Int) := by
  have hx : a ||| b < 2 ^ 63 := Nat.or_lt_two_pow (by omega) (by omega)
  show IntKind.i64.wrap ((BitVec.ofInt 64 (a : Int) ||| BitVec.ofInt 64 (b : Int)).toNat : Int) = _
  rw [BitVec.toNat_or, ofInt_i64 a ha, ofInt_i64 b hb]
  exact IntWalk.i64_in _ (by omega)

end Go.Proofs.YtkocgogpbammaaaDoor

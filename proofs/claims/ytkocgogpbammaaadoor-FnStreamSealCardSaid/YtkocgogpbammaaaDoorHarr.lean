/- Arrays as values, any type of array: load, store, return. Conditions: as each states. -/
import Derived.Test.YtkocgogpbammaaaDoorArr
set_option linter.unusedVariables false
set_option linter.unusedSimpArgs false
namespace Go.Proofs.YtkocgogpbammaaaDoor
open Go.RowKit

section
variable {ops : Array Oper} {rest : List Oper} {o : Oper} {a : Act} {w : World} {Q : Exit → Act → World → Prop} {T e : TypeId} {n : Nat}
theorem wpList_loadV (hu : Tryd.prog.underlying T = some (.array n e)) (hs : (Tryd.prog.info? T).map (·.size) = some n) (hgd : o.guard = none) (x : Operand) (ho : o.op = .load T x) (g : Nat) (vs : List Value) (hl : vs.length = n) (hx : a.eval x = .pointer (some ⟨g, 0, none⟩)) (hR : Arr w g T vs)
    (h : wpList Tryd.prog ops Q rest (a.put o.dst (.agg vs.toArray)) w) : wpList Tryd.prog ops Q (o :: rest) a w :=
  wpList_load_row hgd _ x ho g hx _ vs.toArray (0, 0) (.array n e) hR hu rfl (by rw [hs]; simp [hl]) h
theorem wpList_storeV (hs : (Tryd.prog.info? T).map (·.size) = some n) (hgd : o.guard = none) (x y : Operand) (ho : o.op = .store T x y) (g : Nat) (vs old : List Value) (hl : vs.length = n) (hold : old.length = n) (h1 : ∀ u ∈ vs, u.oneCell' = true) (hx : a.eval x = .pointer (some ⟨g, 0, none⟩)) (hy : a.eval y = .agg vs.toArray) (hR : Arr w g T old)
    (h : ∀ w', Arr w' g T vs → w.grownBy w' (some g) → wpList Tryd.prog ops Q rest (a.put o.dst undef) w') : wpList Tryd.prog ops Q (o :: rest) a w :=
  wpList_store_row hgd _ x y ho g vs.toArray hx hy _ old.toArray hR (by rw [hs]; simp [hl]) (by simp [hl, hold]) (by rw [all_oneCell_toArray h1])
    (h _ (setRow_heap w g _ _ _ (0, 0) hR) ⟨rfl, rfl, rfl, by simp [World.setRow], fun k _ hk => setRow_other w g k _ (fun e => hk (by rw [e]))⟩)
end
theorem ret_V {T e : TypeId} {n : Nat} (hu : Tryd.prog.underlying T = some (.array n e)) (hs : (Tryd.prog.info? T).map (·.size) = some n) {f : Func} {p : Tmp} (hr : f.results = #[.cell p T]) {a : Act} {w : World} {R : Ending → World → Prop} (g : Nat) (vs : List Value) (hl : vs.length = n) (hp : a.tmps.getD p undef = .pointer (some ⟨g, 0, none⟩)) (hg : Arr w g T vs) (hd : a.defers = [])
    (h : R (.returned (.agg vs.toArray)) w) : bodyPost Tryd.prog f R .ret a w :=
  bodyPost_ret (results_cell_row hr _ _ g _ _ (0, 0) _ hp hg hu rfl (by rw [hs]; simp [hl])) hd h

theorem run_index_V {T e : TypeId} {n : Nat} (hu : Tryd.prog.underlying T = some (.array n e)) (he : Tryd.prog.plainKey e = true) (hc : Tryd.prog.cellsOf e = 1) (hi : (Tryd.prog.info? e).isSome = true) {w : World} (vs : List Value) (hl : vs.length = n) (K : IntKind) (k : Nat) (hk : k < vs.length) :
    (Instr.index T (.agg vs.toArray) (.int K (k : Int))).run Tryd.prog w = .ok vs[k] w := by
  obtain ⟨i, hi⟩ := Option.isSome_iff_exists.1 hi
  exact run_index_arr hu he hi hc vs hl K k hk

theorem rg_u8 {w : World} {g o : Nat} {l : List UInt8} (h : w.rangeAt g o (u8s l)) (j : Nat) (hj : j < l.length) : w.cell? ⟨g, o + j, none⟩ = some (.int .u8 ((l[j]).toNat : Int)) := by
  have h1 := h j _ (List.getElem?_eq_getElem (by simpa using hj))
  rw [h1, u8s_get]
theorem below_drewN {B : Nat} {w0 w : World} (h : Below B w0 w) (n : Nat) : Below B w0 (w.drewN n) := ⟨h.os, h.tape, h.output, h.size, h.block⟩
end Go.Proofs.YtkocgogpbammaaaDoor

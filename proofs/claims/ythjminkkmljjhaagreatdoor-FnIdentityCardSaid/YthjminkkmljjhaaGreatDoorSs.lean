/- The reference's Step. Conditions: numbers below 2^256. (Printed by wip/genstep.py.) -/
import Derived.Test.YthjminkkmljjhaaGreatDoorSo
namespace Go.Proofs.YthjminkkmljjhaaGreatDoor
open Go.RowKit

theorem w_und : Tryz.prog.underlying 59 = some (.array 5 56) := by kernel_rfl
theorem w_size : (Tryz.prog.info? 59).map (·.size) = some 80 := by kernel_rfl
/-- The cells of the ladder's five numbers. -/
def l5 (u : Nat) (s : LS) : List Nat := dig 16 u ++ (dig 16 s.x2 ++ (dig 16 s.z2 ++ (dig 16 s.x3 ++ dig 16 s.z3)))
@[simp] theorem l5_length (u : Nat) (s : LS) : (l5 u s).length = 80 := by simp [l5]
abbrev WAt (w : World) (g u : Nat) (s : LS) : Prop := Arr w g 59 (u64s (l5 u s))
theorem range_part {w : World} {g : Nat} {t : TypeId} {pre mid post : List Value} (h : Arr w g t (pre ++ mid ++ post)) (o : Nat) (ho : pre.length = o) : w.rangeAt g o mid := by
  intro j v hj
  obtain ⟨hl, rfl⟩ := List.getElem?_eq_some_iff.1 hj
  have h2 := h.cell (o + j) (by simp; omega)
  rw [h2]; congr 1
  subst ho
  rw [List.getElem_append_left (by simp; omega), List.getElem_append_right (by omega)]
  congr 1; omega
theorem u64s_app (a b : List Nat) : u64s (a ++ b) = u64s a ++ u64s b := by simp [u64s]
theorem WAt.r0 {w : World} {g u : Nat} {s : LS} (h : WAt w g u s) : w.rangeAt g 0 (u64s (dig 16 u)) := by
  refine range_part (pre := []) (post := u64s (dig 16 s.x2 ++ (dig 16 s.z2 ++ (dig 16 s.x3 ++ dig 16 s.z3)))) (t := 59) ?_ 0 rfl
  have h2 : Arr w g _ (u64s (l5 u s)) := h
  unfold l5 at h2; rw [u64s_app] at h2; simpa using h2
theorem WAt.r1 {w : World} {g u : Nat} {s : LS} (h : WAt w g u s) : w.rangeAt g 16 (u64s (dig 16 s.x2)) := by
  refine range_part (pre := u64s (dig 16 u)) (post := u64s (dig 16 s.z2 ++ (dig 16 s.x3 ++ dig 16 s.z3))) (t := 59) ?_ 16 (by simp)
  have h2 : Arr w g _ (u64s (l5 u s)) := h
  unfold l5 at h2; rw [u64s_app, u64s_app (dig 16 s.x2)] at h2; simpa using h2
theorem WAt.r2 {w : World} {g u : Nat} {s : LS} (h : WAt w g u s) : w.rangeAt g 32 (u64s (dig 16 s.z2)) := by
  refine range_part (pre := u64s (dig 16 u) ++ u64s (dig 16 s.x2)) (post := u64s (dig 16 s.x3 ++ dig 16 s.z3)) (t := 59) ?_ 32 (by simp)
  have h2 : Arr w g _ (u64s (l5 u s)) := h
  unfold l5 at h2; rw [u64s_app, u64s_app (dig 16 s.x2), u64s_app (dig 16 s.z2)] at h2; simpa using h2
theorem WAt.r3 {w : World} {g u : Nat} {s : LS} (h : WAt w g u s) : w.rangeAt g 48 (u64s (dig 16 s.x3)) := by
  refine range_part (pre := u64s (dig 16 u) ++ u64s (dig 16 s.x2) ++ u64s (dig 16 s.z2)) (post := u64s (dig 16 s.z3)) (t := 59) ?_ 48 (by simp)
  have h2 : Arr w g _ (u64s (l5 u s)) := h
  unfold l5 at h2; rw [u64s_app, u64s_app (dig 16 s.x2), u64s_app (dig 16 s.z2), u64s_app (dig 16 s.x3)] at h2; simpa using h2
theorem WAt.r4 {w : World} {g u : Nat} {s : LS} (h : WAt w g u s) : w.rangeAt g 64 (u64s (dig 16 s.z3)) := by
  refine range_part (pre := u64s (dig 16 u) ++ u64s (dig 16 s.x2) ++ u64s (dig 16 s.z2) ++ u64s (dig 16 s.x3)) (post := []) (t := 59) ?_ 64 (by simp)
  have h2 : Arr w g _ (u64s (l5 u s)) := h
  unfold l5 at h2; rw [u64s_app, u64s_app (dig 16 s.x2), u64s_app (dig 16 s.z2), u64s_app (dig 16 s.x3)] at h2; simpa using h2
set_option maxRecDepth 100000 in
theorem w_built (u a b c d : Nat) : Tryz.prog.built 59 [(0, nv (dig 16 u)), (1, nv (dig 16 a)), (2, nv (dig 16 b)), (3, nv (dig 16 c)), (4, nv (dig 16 d))] = some (u64s (l5 u ⟨a, b, c, d⟩)).toArray := by kernel_rfl
theorem GH.other {W w w2 : World} {r n k : Nat} {T : TypeId} (h : GH W w r n T) (hg : w.grownBy w2 (some k)) (hk : W.heap.size ≤ k) (hne : k ≠ r) : GH W w2 r n T := by
  obtain ⟨h1, z, hn, hz⟩ := h
  exact ⟨⟨hg.os.trans h1.os, hg.tape.trans h1.tape, hg.output.trans h1.output, Nat.le_trans h1.size hg.size, fun i hi hir => (hg.block i (Nat.lt_of_lt_of_le hi h1.size) (fun e => by injection e with e; omega)).trans (h1.block i hi hir)⟩, z, hn, hz.kept hg (fun e => hne e.symm)⟩
theorem step_storeN {o : Oper} {a : Act} {w : World} {K : Act → World → Prop} {Q : Exit → Act → World → Prop} (x y : Operand) (ho : o.op = .store 56 x y) (g : Nat) (l old : List Nat) (hl : l.length = 16) (hold : old.length = 16) (hx : a.eval x = .pointer (some ⟨g, 0, none⟩)) (hy : a.eval y = nv l) (hR : NAt w g old)
    (h : ∀ w', NAt w' g l → w.grownBy w' (some g) → K (a.put o.dst undef) w') : o.wp Tryz.prog a w K Q :=
  wp_store_row _ x y ho g (u64s l).toArray hx hy _ (u64s old).toArray hR (by rw [n_size]; simp [hl]) (by simp [hl, hold]) (by rw [all_oneCell_toArray (u64s_oneCell l)])
    (h _ (setRow_heap w g _ _ _ (0, 0) hR) ⟨rfl, rfl, rfl, by simp [World.setRow], fun k _ hk => setRow_other w g k _ (fun e => hk (by rw [e]))⟩)
theorem step_buildW {o : Oper} {a : Act} {w : World} {K : Act → World → Prop} {Q : Exit → Act → World → Prop} (p : Array (Nat × Operand)) (ho : o.op = .build 59 p) (u x2 z2 x3 z3 : Nat)
    (hp : (p.map fun (i, x) => (i, a.eval x)).toList = [(0, nv (dig 16 u)), (1, nv (dig 16 x2)), (2, nv (dig 16 z2)), (3, nv (dig 16 x3)), (4, nv (dig 16 z3))])
    (h : K (a.put o.dst (nv (l5 u ⟨x2, z2, x3, z3⟩))) w) : o.wp Tryz.prog a w K Q :=
  wp_build _ p ho (by rw [hp, w_built]; rfl) (by rw [hp, w_built]; exact h)
theorem ret_w {f : Func} {p : Tmp} (hr : f.results = #[.cell p 59]) {a : Act} {w : World} {R : Ending → World → Prop} (g u : Nat) (s : LS) (hp : a.tmps.getD p undef = .pointer (some ⟨g, 0, none⟩)) (hg : WAt w g u s) (hd : a.defers = [])
    (h : R (.returned (nv (l5 u s))) w) : bodyPost Tryz.prog f R .ret a w :=
  bodyPost_ret (results_cell_row hr _ _ g _ _ (0, 0) _ hp hg w_und rfl (by rw [w_size]; simp)) hd h
theorem l5_swap1 (u a b c d x : Nat) : (u64s (l5 u ⟨a, b, c, d⟩)).take 16 ++ u64s (dig 16 x) ++ (u64s (l5 u ⟨a, b, c, d⟩)).drop 32 = u64s (l5 u ⟨x, b, c, d⟩) := by kernel_rfl
theorem l5_swap2 (u a b c d x : Nat) : (u64s (l5 u ⟨a, b, c, d⟩)).take 32 ++ u64s (dig 16 x) ++ (u64s (l5 u ⟨a, b, c, d⟩)).drop 48 = u64s (l5 u ⟨a, x, c, d⟩) := by kernel_rfl
theorem l5_swap3 (u a b c d x : Nat) : (u64s (l5 u ⟨a, b, c, d⟩)).take 48 ++ u64s (dig 16 x) ++ (u64s (l5 u ⟨a, b, c, d⟩)).drop 64 = u64s (l5 u ⟨a, b, x, d⟩) := by kernel_rfl
theorem l5_swap4 (u a b c d x : Nat) : (u64s (l5 u ⟨a, b, c, d⟩)).take 64 ++ u64s (dig 16 x) ++ (u64s (l5 u ⟨a, b, c, d⟩)).drop 80 = u64s (l5 u ⟨a, b, c, x⟩) := by kernel_rfl
end Go.Proofs.YthjminkkmljjhaaGreatDoor

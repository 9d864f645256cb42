/- The reference's numbers: P, Less, minus. Conditions: digits as the numbers' own. -/
import Derived.Test.YthjminkkmljjhaaGreatDoorLad
import Derived.Handy
import Derived.BigRegion
import Derived.Deep.RegionHeld3
import Derived.Deep.QuietTactic
import Derived.BigQuiet
namespace Go.Proofs.YthjminkkmljjhaaGreatDoor
open Go.RowKit

theorem n_und : Tryz.prog.underlying 56 = some (.array 16 54) := by kernel_rfl
theorem n_size : (Tryz.prog.info? 56).map (·.size) = some 16 := by kernel_rfl
/-- The block g holds a number's digits. -/
abbrev NAt (w : World) (g : Nat) (l : List Nat) : Prop := Arr w g 56 (u64s l)
abbrev nv (l : List Nat) : Value := .agg (u64s l).toArray
theorem nat_set {w : World} {g : Nat} {l : List Nat} (h : NAt w g l) (k r : Nat) (hk : k < l.length) : NAt (w.setCell ⟨g, k, none⟩ (.int .u64 (r : Int))) g (l.set k r) := by
  show Arr _ _ _ (u64s (l.set k r))
  rw [u64s_set]; exact Arr.set h k _ (by simpa using hk)
def zerosN : List Nat := [0, 0, 0, 0, 0, 0, 0, 0, 0, 0, 0, 0, 0, 0, 0, 0]
theorem run_index_n {w : World} (l : List Nat) (hl : l.length = 16) (k : Nat) (hk : k < 16) :
    (Instr.index 56 (nv l) (.int .i64 (k : Int))).run Tryz.prog w = .ok (.int .u64 ((l[k]'(by omega) : Nat) : Int)) w := by
  obtain ⟨i, hi⟩ : ∃ i, Tryz.prog.info? 54 = some i := Option.isSome_iff_exists.1 (by kernel_rfl)
  have h := run_index_arr (P := Tryz.prog) (w := w) n_und (by kernel_rfl) hi (by kernel_rfl) (u64s l) (by simpa using hl) .i64 k (by simp; omega)
  rw [u64s_get] at h
  exact h
section
variable {ops : Array Oper} {rest : List Oper} {o : Oper} {a : Act} {w : World} {Q : Exit → Act → World → Prop}
theorem wpList_loadN (hgd : o.guard = none) (x : Operand) (ho : o.op = .load 56 x) (g : Nat) (l : List Nat) (hl : l.length = 16) (hx : a.eval x = .pointer (some ⟨g, 0, none⟩)) (hR : NAt w g l)
    (h : wpList Tryz.prog ops Q rest (a.put o.dst (nv l)) w) : wpList Tryz.prog ops Q (o :: rest) a w :=
  wpList_load_row hgd _ x ho g hx _ (u64s l).toArray (0, 0) (.array 16 54) hR n_und rfl (by rw [n_size]; simp [hl]) h
theorem wpList_storeN (hgd : o.guard = none) (x y : Operand) (ho : o.op = .store 56 x y) (g : Nat) (l old : List Nat) (hl : l.length = 16) (hold : old.length = 16) (hx : a.eval x = .pointer (some ⟨g, 0, none⟩)) (hy : a.eval y = nv l) (hR : NAt w g old)
    (h : ∀ w', NAt w' g l → w.grownBy w' (some g) → wpList Tryz.prog ops Q rest (a.put o.dst undef) w') : wpList Tryz.prog ops Q (o :: rest) a w :=
  wpList_store_row hgd _ x y ho g (u64s l).toArray hx hy _ (u64s old).toArray hR (by rw [n_size]; simp [hl]) (by simp [hl, hold]) (by rw [all_oneCell_toArray (u64s_oneCell l)])
    (h _ (setRow_heap w g _ _ _ (0, 0) hR) ⟨rfl, rfl, rfl, by simp [World.setRow], fun k _ hk => setRow_other w g k _ (fun e => hk (by rw [e]))⟩)
end

def zcells : Obj := .cells (u64s zerosN).toArray 56
theorem p_digits (l : List Nat) (hl : l.length = 16) (h : ∀ j, j < 16 → l[j]? = some 65535) : (l.set 0 65517).set 15 32767 = dig 16 pp := by
  have e : l = List.replicate 16 65535 := by
    apply List.ext_getElem (by simp [hl])
    intro j h1 h2
    have := h j (by omega)
    rw [List.getElem?_eq_getElem h1] at this
    rw [List.getElem_replicate]; simpa using this
  rw [e]; decide
theorem ret_n {f : Func} {p : Tmp} (hr : f.results = #[.cell p 56]) {a : Act} {w : World} {R : Ending → World → Prop} (g : Nat) (l : List Nat) (hl : l.length = 16) (hp : a.tmps.getD p undef = .pointer (some ⟨g, 0, none⟩)) (hg : NAt w g l) (hd : a.defers = [])
    (h : R (.returned (nv l)) w) : bodyPost Tryz.prog f R .ret a w :=
  bodyPost_ret (results_cell_row hr _ _ g _ _ (0, 0) _ hp hg n_und rfl (by rw [n_size]; simp [hl])) hd h

set_option maxRecDepth 100000 in
set_option maxHeartbeats 1000000 in
theorem specP_any (w : World) : Calls Tryz.prog 50 #[] w fun e w' => e = .returned (nv (dig 16 pp)) ∧ Below w.heap.size w w' := by
  have hA0 : NAt (w.alloc zcells) w.heap.size zerosN := arr_new w _ _
  have hA1 : NAt ((w.alloc zcells).alloc zcells) (w.heap.size + 1) zerosN := arr_new2 w _ _ _
  have hb1 : Below w.heap.size w (w.alloc zcells) := Below.alloc (Below.refl _ _) (Nat.le_refl _) _
  have hb2 : Below w.heap.size w ((w.alloc zcells).alloc zcells) := Below.alloc hb1 hb1.size _
  have hA2 : NAt ((w.alloc zcells).alloc zcells) w.heap.size zerosN := hA0.below (Below.alloc (Below.refl _ _) (Nat.le_refl _) _)
  go_enter Tryz.func50, Tryz.ntmps50
  go_wp2_with (refine wpList_storeN rfl (.tmp 1) (.tmp 3) rfl (w.heap.size + 1) zerosN zerosN rfl rfl rfl rfl hA1 ?_; intro w1 hN1 hg1)
  have hR1 := hA2.kept hg1 (by omega)
  have hb3 : Below w.heap.size w w1 := bkept hb2 hg1 (by omega) hb2.size
  clear hA0 hA1 hA2 hb1 hb2 hg1
  go_loopw [4] (fun i wr => ∃ k : Nat, ∃ l : List Nat, k ≤ 16 ∧ i = .int .i64 k ∧ l.length = 16 ∧ Hid (∀ j, j < k → l[j]? = some 65535) ∧ NAt wr (w.heap.size + 1) l ∧ NAt wr w.heap.size zerosN ∧ Below w.heap.size w wr) (fun i _ => 16 - (intOf i).toNat)
  case atStart => exact ⟨0, zerosN, Nat.zero_le _, rfl, rfl, (fun j hj => absurd hj (by omega)), hN1, hR1, hb3⟩
  case round =>
    obtain ⟨k, l, hk, rfl, hl, HQ, hN, hR, hb⟩ := hrel
    by_cases hlt : k < 16
    · have fk := hN.fr k
      have ck := hN.cell k (by simp; omega)
      go_wp2
      go_roundw
      case rel =>
        refine ⟨k + 1, l.set k 65535, by omega, by go_num, by simpa using hl, ?_, ?_, hR.other (by omega), ?_⟩
        · intro j hj
          by_cases e : j = k
          · subst e; rw [List.getElem?_set_self (by omega)]
          · rw [List.getElem?_set_ne (fun h => e h.symm)]; exact HQ.out j (by omega)
        · have := hN.set k (.int .u64 ((65535 : Nat) : Int)) (by simp; omega)
          rw [← u64s_set] at this; exact this
        · exact hb.setCell (by show w.heap.size ≤ w.heap.size + 1; omega) _
      case measure => simp [intOf]; omega
    · obtain rfl : k = 16 := by omega
      clear hlt
      have f0 := hN.fr 0
      have f15 := hN.fr 15
      have c0 := hN.cell 0 (by simp; omega)
      have c15 := hN.cell 15 (by simp; omega)
      have hE : NAt ((wr.setCell ⟨w.heap.size + 1, 0, none⟩ (.int .u64 65517)).setCell ⟨w.heap.size + 1, 15, none⟩ (.int .u64 32767)) (w.heap.size + 1) (dig 16 pp) := by
        have h1 := (hN.set 0 (.int .u64 ((65517 : Nat) : Int)) (by simp; omega)).set 15 (.int .u64 ((32767 : Nat) : Int)) (by simp; omega)
        rw [← u64s_set, ← u64s_set, p_digits l hl HQ.out] at h1
        exact h1
      have hR2 : NAt ((wr.setCell ⟨w.heap.size + 1, 0, none⟩ (.int .u64 65517)).setCell ⟨w.heap.size + 1, 15, none⟩ (.int .u64 32767)) w.heap.size zerosN := (hR.other (by omega)).other (by omega)
      have hb5 : Below w.heap.size w ((wr.setCell ⟨w.heap.size + 1, 0, none⟩ (.int .u64 65517)).setCell ⟨w.heap.size + 1, 15, none⟩ (.int .u64 32767)) := (hb.setCell (by show w.heap.size ≤ w.heap.size + 1; omega) _).setCell (by show w.heap.size ≤ w.heap.size + 1; omega) _
      have hs5 := hb5.size
      go_wp2_with (first | (refine wpList_loadN rfl (.tmp 1) rfl (w.heap.size + 1) (dig 16 pp) rfl rfl hE ?_) | (refine wpList_storeN rfl (.tmp 0) (.tmp 12) rfl w.heap.size (dig 16 pp) zerosN rfl rfl rfl rfl hR2 ?_; intro w9 hN9 hg9))
      refine ret_n rfl w.heap.size _ rfl rfl hN9 rfl ⟨rfl, bkept hb5 hg9 (Nat.le_refl _) hs5⟩

set_option maxRecDepth 100000 in
set_option maxHeartbeats 1000000 in
theorem less_any (w : World) (a b : List Nat) (ha : a.length = 16) (hb : b.length = 16) (hda : ∀ d ∈ a, d < 65536) (hdb : ∀ d ∈ b, d < 65536) :
    Calls Tryz.prog 63 #[nv a, nv b] w fun e w' => e = .returned (.bool (decide (valN a < valN b))) ∧ Below w.heap.size w w' := by
  have hA0 : NAt (w.alloc (.cells (u64s a).toArray 56)) w.heap.size a := arr_new w _ _
  have hA1 : NAt ((w.alloc (.cells (u64s a).toArray 56)).alloc (.cells (u64s b).toArray 56)) (w.heap.size + 1) b := arr_new2 w _ _ _
  have hb1 : Below w.heap.size w (w.alloc (.cells (u64s a).toArray 56)) := below_alloc _ _
  have hb2 : Below w.heap.size w ((w.alloc (.cells (u64s a).toArray 56)).alloc (.cells (u64s b).toArray 56)) := Below.alloc hb1 hb1.size _
  have hA2 : NAt ((w.alloc (.cells (u64s a).toArray 56)).alloc (.cells (u64s b).toArray 56)) w.heap.size a := hA0.below (below_alloc _ _)
  have HDA : Hid (∀ d ∈ a, d < 65536) := hda
  have HDB : Hid (∀ d ∈ b, d < 65536) := hdb
  clear hda hdb hA0 hb1
  go_enter Tryz.func63, Tryz.ntmps63
  go_wp2
  go_loopw [5] (fun i wr => ∃ (k : Nat) (z : Int), k ≤ 16 ∧ z = (k : Int) - 1 ∧ i = .int .i64 z ∧ Hid (a.drop k = b.drop k) ∧ NAt wr w.heap.size a ∧ NAt wr (w.heap.size + 1) b ∧ Below w.heap.size w wr) (fun i _ => (intOf i + 1).toNat)
  case atStart => exact ⟨16, 15, Nat.le_refl _, rfl, rfl, (by unfold Hid; rw [List.drop_of_length_le (by omega), List.drop_of_length_le (by omega)]), hA2, hA1, hb2⟩
  case round =>
    obtain ⟨k, z, hk, hz, rfl, HE, hNa, hNb, hbw⟩ := hrel
    clear hA1 hA2 hb2
    rcases k with _ | j
    · obtain rfl : z = -1 := by omega
      clear hz
      have d0 : decide ((-1 : Int) ≥ 0) = false := by decide
      go_wp2
      go_ret
      refine ⟨?_, hbw⟩
      have : a = b := HE.out
      subst this
      simp
    · obtain rfl : z = (j : Int) := by omega
      clear hz
      have hj : j < 16 := by omega
      have ca := hNa.cell j (by simp; omega)
      have cb := hNb.cell j (by simp; omega)
      rw [u64s_get] at ca cb
      have hiff := valN_less_iff a b (by omega) HDA.out HDB.out j (by omega) HE.out
      have hcons : a[j] = b[j] → a.drop j = b.drop j := fun e => by
        rw [List.drop_eq_getElem_cons (l := a) (i := j) (by omega), List.drop_eq_getElem_cons (l := b) (i := j) (by omega), e, HE.out]
      generalize a[j] = x at *
      generalize b[j] = y at *
      have j0 : (0 : Int) ≤ (j : Int) := by omega
      have j1 : (j : Int) < 16 := by omega
      by_cases hxy : x = y
      · have d1 : ((x : Int) != (y : Int)) = false := by simp [hxy]
        have HC := Lib.hid (hcons hxy)
        clear hiff hcons hxy
        go_wp2_with fail
        go_quiet (fail)
        go_wp2_with fail
        go_roundw
        case rel => exact ⟨j, (j : Int) - 1, by omega, rfl, by go_num, HC.out, hNa, hNb, ⟨hbw.os, hbw.tape, hbw.output, hbw.size, hbw.block⟩⟩
        case measure => simp [intOf]
      · have d1 : ((x : Int) != (y : Int)) = true := by rw [bne_iff_ne]; omega
        have HI := Lib.hid (hiff hxy)
        clear hiff hcons
        go_wp2_with fail
        go_quiet (fail)
        go_wp2_with fail
        go_quiet (fail)
        go_wp2_with fail
        go_ret
        refine ⟨?_, ⟨hbw.os, hbw.tape, hbw.output, hbw.size, hbw.block⟩⟩
        show Ending.returned (Value.bool (decide (x < y))) = _
        rw [decide_eq_decide.2 HI.out]
end Go.Proofs.YthjminkkmljjhaaGreatDoor

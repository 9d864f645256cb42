/- Element.Swap. Condition: two blocks. (Printed by wip/genfin.py.) -/
import Derived.Test.YthjminkkmljjhaaGreatDoorFin
namespace Go.Proofs.YthjminkkmljjhaaGreatDoor
open Go.RowKit

/-- All blocks but two are as they were. -/
structure Grown2 (w w' : World) (v u : Nat) : Prop where
  os : w'.os = w.os
  tape : w'.tape = w.tape
  output : w'.output = w.output
  size : w.heap.size ≤ w'.heap.size
  block : ∀ k, k < w.heap.size → k ≠ v → k ≠ u → w'.heap[k]? = w.heap[k]?
theorem Grown2.setV {w w' : World} {v u : Nat} (h : Grown2 w w' v u) (i : Nat) (x : Value) : Grown2 w (w'.setCell ⟨v, i, none⟩ x) v u :=
  ⟨h.os, h.tape, h.output, by have := h.size; simpa [World.setCell] using this, fun k hk h1 h2 => by rw [Below.heap_setCell _ _ _ _ (fun e => h1 (by rw [e]))]; exact h.block k hk h1 h2⟩
theorem Grown2.setU {w w' : World} {v u : Nat} (h : Grown2 w w' v u) (i : Nat) (x : Value) : Grown2 w (w'.setCell ⟨u, i, none⟩ x) v u :=
  ⟨h.os, h.tape, h.output, by have := h.size; simpa [World.setCell] using this, fun k hk h1 h2 => by rw [Below.heap_setCell _ _ _ _ (fun e => h2 (by rw [e]))]; exact h.block k hk h1 h2⟩
theorem FeAt.otherSet {w : World} {g k i : Nat} {x : L5} {u : Value} (h : FeAt w g x) (hne : g ≠ k) : FeAt (w.setCell ⟨k, i, none⟩ u) g x := by
  unfold FeAt at h ⊢; rw [Below.heap_setCell _ _ _ _ hne]; exact h
theorem FeO.kept2 {w w' : World} {g v u : Nat} {o : Option Nat} (h : FeO w g o) (hg : Grown2 w w' v u) (h1 : g ≠ v) (h2 : g ≠ u) : FeO w' g o := by
  cases o with
  | none => obtain ⟨x, hx⟩ := h; exact ⟨x, (hg.block g hx.lt h1 h2).trans hx⟩
  | some m => obtain ⟨x, hx, ho⟩ := h; exact ⟨x, (hg.block g hx.lt h1 h2).trans hx, ho⟩
theorem Lad.step2 {w w' : World} {B : Nat} {l : List (Option Nat)} (h : Lad w B l) (i j m n : Nat) (hij : i ≠ j) (hm : FeM w' (B + i) m) (hn : FeM w' (B + j) n) (hg : Grown2 w w' (B + i) (B + j)) : Lad w' B ((l.set i (some m)).set j (some n)) := by
  intro k hk
  have hk' : k < l.length := by simpa using hk
  by_cases e : k = j
  · subst e; rw [List.getElem_set_self]; exact hn
  · rw [List.getElem_set_ne (fun h => e h.symm)]
    by_cases e2 : k = i
    · subst e2; rw [List.getElem_set_self]; exact hm
    · rw [List.getElem_set_ne (fun h => e2 h.symm)]; exact (h k hk').kept2 hg (by omega) (by omega)

set_option maxRecDepth 100000 in
set_option maxHeartbeats 2000000 in
theorem mask0_any (w : World) : Calls Tryz.prog 85 #[.int .i64 0] w fun e w' => e = .returned (.int .u64 0) ∧ w' = w := by
  go_enter Tryz.func85, Tryz.ntmps85
  go_wp2
  go_ret
  exact ⟨by first | rfl | (simp; decide), rfl⟩
set_option maxRecDepth 100000 in
set_option maxHeartbeats 2000000 in
theorem mask1_any (w : World) : Calls Tryz.prog 85 #[.int .i64 1] w fun e w' => e = .returned (.int .u64 18446744073709551615) ∧ w' = w := by
  go_enter Tryz.func85, Tryz.ntmps85
  go_wp2
  go_ret
  exact ⟨by first | rfl | (simp; decide), rfl⟩

theorem xor_back (x y : Nat) : x ^^^ (x ^^^ y) = y := by rw [← Nat.xor_assoc, Nat.xor_self, Nat.zero_xor]
theorem xor_back2 (x y : Nat) : y ^^^ (x ^^^ y) = x := by rw [Nat.xor_comm x y, ← Nat.xor_assoc, Nat.xor_self, Nat.zero_xor]
set_option maxRecDepth 100000 in
set_option maxHeartbeats 2000000 in
theorem swap0_at (w : World) (v u x0 x1 x2 x3 x4 y0 y1 y2 y3 y4 : Nat) (hne : v ≠ u) (hv : FeAt w v ⟨x0, x1, x2, x3, x4⟩) (hu : FeAt w u ⟨y0, y1, y2, y3, y4⟩) (hx : x0 < 4503599627370496 ∧ x1 < 4503599627370496 ∧ x2 < 4503599627370496 ∧ x3 < 4503599627370496 ∧ x4 < 4503599627370496) (hy : y0 < 4503599627370496 ∧ y1 < 4503599627370496 ∧ y2 < 4503599627370496 ∧ y3 < 4503599627370496 ∧ y4 < 4503599627370496) :
    Calls Tryz.prog 73 #[.pointer (some ⟨v, 0, none⟩), .pointer (some ⟨u, 0, none⟩), .int .i64 0] w fun e w' => e = .returned (.tuple #[]) ∧ FeAt w' v ⟨x0, x1, x2, x3, x4⟩ ∧ FeAt w' u ⟨y0, y1, y2, y3, y4⟩ ∧ Grown2 w w' v u := by
  have HX := Lib.hid hx
  have HY := Lib.hid hy
  have hne2 := Ne.symm hne
  clear hx hy
  have gg : Grown2 w w v u := ⟨rfl, rfl, rfl, Nat.le_refl _, fun _ _ _ _ => rfl⟩
  go_enter Tryz.func73, Tryz.ntmps73
  go_wp2_with (go_at_call 85; refine (mask0_any _).mono ?_; rintro e wq ⟨rfl, hwq⟩; rw [hwq])
  have cv0 : w.cell? ⟨v, 0, none⟩ = some (.int .u64 (x0 : Int)) := hv.c0
  have cu0 : w.cell? ⟨u, 0, none⟩ = some (.int .u64 (y0 : Int)) := hu.c0
  have ex0 : bits .xor .u64 (x0 : Int) (y0 : Int) = ((x0 ^^^ y0 : Nat) : Int) := u64_xor_nat _ _ (by have := HX.out; omega) (by have := HY.out; omega)
  have hl0 : x0 ^^^ y0 < 18446744073709551616 := Nat.xor_lt_two_pow (n := 64) (by have := HX.out; omega) (by have := HY.out; omega)
  have em0 : bits .and .u64 0 ((x0 ^^^ y0 : Nat) : Int) = 0 := by
    rw [show (0 : Int) = ((0 : Nat) : Int) from rfl, u64_and_nat 0 _ (by decide) hl0, Nat.zero_and]
  have ev0 : bits .xor .u64 (x0 : Int) 0 = (x0 : Int) := by
    rw [show (0 : Int) = ((0 : Nat) : Int) from rfl, u64_xor_nat _ 0 (by have := HX.out; omega) (by decide), Nat.xor_zero]
  have eu0 : bits .xor .u64 (y0 : Int) 0 = (y0 : Int) := by
    rw [show (0 : Int) = ((0 : Nat) : Int) from rfl, u64_xor_nat _ 0 (by have := HY.out; omega) (by decide), Nat.xor_zero]
  go_quiet (fail)
  have fv0 : (w.drewN nq).frozen? ⟨v, 0, none⟩ = false := hv.fr 0
  have fu0 : (w.drewN nq).frozen? ⟨u, 0, none⟩ = false := hu.fr 0
  have hv' : FeAt (((w.drewN nq).setCell ⟨v, 0, none⟩ (.int .u64 (x0 : Int))).setCell ⟨u, 0, none⟩ (.int .u64 (y0 : Int))) v ⟨x0, x1, x2, x3, x4⟩ := FeAt.otherSet (FeAt.s0 (show FeAt (w.drewN nq) v _ from hv) x0) hne
  have hu' : FeAt (((w.drewN nq).setCell ⟨v, 0, none⟩ (.int .u64 (x0 : Int))).setCell ⟨u, 0, none⟩ (.int .u64 (y0 : Int))) u ⟨y0, y1, y2, y3, y4⟩ := FeAt.s0 (FeAt.otherSet (show FeAt (w.drewN nq) u _ from hu) hne2) y0
  have gg' : Grown2 w (((w.drewN nq).setCell ⟨v, 0, none⟩ (.int .u64 (x0 : Int))).setCell ⟨u, 0, none⟩ (.int .u64 (y0 : Int))) v u := Grown2.setU (Grown2.setV (show Grown2 w (w.drewN nq) v u from ⟨gg.os, gg.tape, gg.output, gg.size, gg.block⟩) _ _) _ _
  have HV' := Lib.hid hv'
  have HU' := Lib.hid hu'
  have GG' := Lib.hid gg'
  have cuu : ((w.drewN nq).setCell ⟨v, 0, none⟩ (.int .u64 (x0 : Int))).cell? ⟨u, 0, none⟩ = some (.int .u64 (y0 : Int)) := FeAt.c0 (FeAt.otherSet (show FeAt (w.drewN nq) u _ from hu) hne2)
  have fuu : ((w.drewN nq).setCell ⟨v, 0, none⟩ (.int .u64 (x0 : Int))).frozen? ⟨u, 0, none⟩ = false := FeAt.fr (FeAt.otherSet (show FeAt (w.drewN nq) u _ from hu) hne2) 0
  clear hv' hu' gg'
  go_wp2_with fail
  clear cuu fuu cv0 cu0 fv0 fu0 ex0 em0 ev0 eu0 hl0
  generalize ((w.drewN nq).setCell ⟨v, 0, none⟩ (.int .u64 (x0 : Int))).setCell ⟨u, 0, none⟩ (.int .u64 (y0 : Int)) = w1 at *
  have hv := HV'.out
  have hu := HU'.out
  have gg := GG'.out
  clear HV' HU' GG'
  have cv1 : w1.cell? ⟨v, 1, none⟩ = some (.int .u64 (x1 : Int)) := hv.c1
  have cu1 : w1.cell? ⟨u, 1, none⟩ = some (.int .u64 (y1 : Int)) := hu.c1
  have ex1 : bits .xor .u64 (x1 : Int) (y1 : Int) = ((x1 ^^^ y1 : Nat) : Int) := u64_xor_nat _ _ (by have := HX.out; omega) (by have := HY.out; omega)
  have hl1 : x1 ^^^ y1 < 18446744073709551616 := Nat.xor_lt_two_pow (n := 64) (by have := HX.out; omega) (by have := HY.out; omega)
  have em1 : bits .and .u64 0 ((x1 ^^^ y1 : Nat) : Int) = 0 := by
    rw [show (0 : Int) = ((0 : Nat) : Int) from rfl, u64_and_nat 0 _ (by decide) hl1, Nat.zero_and]
  have ev1 : bits .xor .u64 (x1 : Int) 0 = (x1 : Int) := by
    rw [show (0 : Int) = ((0 : Nat) : Int) from rfl, u64_xor_nat _ 0 (by have := HX.out; omega) (by decide), Nat.xor_zero]
  have eu1 : bits .xor .u64 (y1 : Int) 0 = (y1 : Int) := by
    rw [show (0 : Int) = ((0 : Nat) : Int) from rfl, u64_xor_nat _ 0 (by have := HY.out; omega) (by decide), Nat.xor_zero]
  go_quiet (fail)
  have fv1 : (w1.drewN nq).frozen? ⟨v, 1, none⟩ = false := hv.fr 1
  have fu1 : (w1.drewN nq).frozen? ⟨u, 1, none⟩ = false := hu.fr 1
  have hv' : FeAt (((w1.drewN nq).setCell ⟨v, 1, none⟩ (.int .u64 (x1 : Int))).setCell ⟨u, 1, none⟩ (.int .u64 (y1 : Int))) v ⟨x0, x1, x2, x3, x4⟩ := FeAt.otherSet (FeAt.s1 (show FeAt (w1.drewN nq) v _ from hv) x1) hne
  have hu' : FeAt (((w1.drewN nq).setCell ⟨v, 1, none⟩ (.int .u64 (x1 : Int))).setCell ⟨u, 1, none⟩ (.int .u64 (y1 : Int))) u ⟨y0, y1, y2, y3, y4⟩ := FeAt.s1 (FeAt.otherSet (show FeAt (w1.drewN nq) u _ from hu) hne2) y1
  have gg' : Grown2 w (((w1.drewN nq).setCell ⟨v, 1, none⟩ (.int .u64 (x1 : Int))).setCell ⟨u, 1, none⟩ (.int .u64 (y1 : Int))) v u := Grown2.setU (Grown2.setV (show Grown2 w (w1.drewN nq) v u from ⟨gg.os, gg.tape, gg.output, gg.size, gg.block⟩) _ _) _ _
  have HV' := Lib.hid hv'
  have HU' := Lib.hid hu'
  have GG' := Lib.hid gg'
  have cuu : ((w1.drewN nq).setCell ⟨v, 1, none⟩ (.int .u64 (x1 : Int))).cell? ⟨u, 1, none⟩ = some (.int .u64 (y1 : Int)) := FeAt.c1 (FeAt.otherSet (show FeAt (w1.drewN nq) u _ from hu) hne2)
  have fuu : ((w1.drewN nq).setCell ⟨v, 1, none⟩ (.int .u64 (x1 : Int))).frozen? ⟨u, 1, none⟩ = false := FeAt.fr (FeAt.otherSet (show FeAt (w1.drewN nq) u _ from hu) hne2) 1
  clear hv' hu' gg'
  go_wp2_with fail
  clear cuu fuu cv1 cu1 fv1 fu1 ex1 em1 ev1 eu1 hl1
  generalize ((w1.drewN nq).setCell ⟨v, 1, none⟩ (.int .u64 (x1 : Int))).setCell ⟨u, 1, none⟩ (.int .u64 (y1 : Int)) = w2 at *
  have hv := HV'.out
  have hu := HU'.out
  have gg := GG'.out
  clear HV' HU' GG'
  have cv2 : w2.cell? ⟨v, 2, none⟩ = some (.int .u64 (x2 : Int)) := hv.c2
  have cu2 : w2.cell? ⟨u, 2, none⟩ = some (.int .u64 (y2 : Int)) := hu.c2
  have ex2 : bits .xor .u64 (x2 : Int) (y2 : Int) = ((x2 ^^^ y2 : Nat) : Int) := u64_xor_nat _ _ (by have := HX.out; omega) (by have := HY.out; omega)
  have hl2 : x2 ^^^ y2 < 18446744073709551616 := Nat.xor_lt_two_pow (n := 64) (by have := HX.out; omega) (by have := HY.out; omega)
  have em2 : bits .and .u64 0 ((x2 ^^^ y2 : Nat) : Int) = 0 := by
    rw [show (0 : Int) = ((0 : Nat) : Int) from rfl, u64_and_nat 0 _ (by decide) hl2, Nat.zero_and]
  have ev2 : bits .xor .u64 (x2 : Int) 0 = (x2 : Int) := by
    rw [show (0 : Int) = ((0 : Nat) : Int) from rfl, u64_xor_nat _ 0 (by have := HX.out; omega) (by decide), Nat.xor_zero]
  have eu2 : bits .xor .u64 (y2 : Int) 0 = (y2 : Int) := by
    rw [show (0 : Int) = ((0 : Nat) : Int) from rfl, u64_xor_nat _ 0 (by have := HY.out; omega) (by decide), Nat.xor_zero]
  go_quiet (fail)
  have fv2 : (w2.drewN nq).frozen? ⟨v, 2, none⟩ = false := hv.fr 2
  have fu2 : (w2.drewN nq).frozen? ⟨u, 2, none⟩ = false := hu.fr 2
  have hv' : FeAt (((w2.drewN nq).setCell ⟨v, 2, none⟩ (.int .u64 (x2 : Int))).setCell ⟨u, 2, none⟩ (.int .u64 (y2 : Int))) v ⟨x0, x1, x2, x3, x4⟩ := FeAt.otherSet (FeAt.s2 (show FeAt (w2.drewN nq) v _ from hv) x2) hne
  have hu' : FeAt (((w2.drewN nq).setCell ⟨v, 2, none⟩ (.int .u64 (x2 : Int))).setCell ⟨u, 2, none⟩ (.int .u64 (y2 : Int))) u ⟨y0, y1, y2, y3, y4⟩ := FeAt.s2 (FeAt.otherSet (show FeAt (w2.drewN nq) u _ from hu) hne2) y2
  have gg' : Grown2 w (((w2.drewN nq).setCell ⟨v, 2, none⟩ (.int .u64 (x2 : Int))).setCell ⟨u, 2, none⟩ (.int .u64 (y2 : Int))) v u := Grown2.setU (Grown2.setV (show Grown2 w (w2.drewN nq) v u from ⟨gg.os, gg.tape, gg.output, gg.size, gg.block⟩) _ _) _ _
  have HV' := Lib.hid hv'
  have HU' := Lib.hid hu'
  have GG' := Lib.hid gg'
  have cuu : ((w2.drewN nq).setCell ⟨v, 2, none⟩ (.int .u64 (x2 : Int))).cell? ⟨u, 2, none⟩ = some (.int .u64 (y2 : Int)) := FeAt.c2 (FeAt.otherSet (show FeAt (w2.drewN nq) u _ from hu) hne2)
  have fuu : ((w2.drewN nq).setCell ⟨v, 2, none⟩ (.int .u64 (x2 : Int))).frozen? ⟨u, 2, none⟩ = false := FeAt.fr (FeAt.otherSet (show FeAt (w2.drewN nq) u _ from hu) hne2) 2
  clear hv' hu' gg'
  go_wp2_with fail
  clear cuu fuu cv2 cu2 fv2 fu2 ex2 em2 ev2 eu2 hl2
  generalize ((w2.drewN nq).setCell ⟨v, 2, none⟩ (.int .u64 (x2 : Int))).setCell ⟨u, 2, none⟩ (.int .u64 (y2 : Int)) = w3 at *
  have hv := HV'.out
  have hu := HU'.out
  have gg := GG'.out
  clear HV' HU' GG'
  have cv3 : w3.cell? ⟨v, 3, none⟩ = some (.int .u64 (x3 : Int)) := hv.c3
  have cu3 : w3.cell? ⟨u, 3, none⟩ = some (.int .u64 (y3 : Int)) := hu.c3
  have ex3 : bits .xor .u64 (x3 : Int) (y3 : Int) = ((x3 ^^^ y3 : Nat) : Int) := u64_xor_nat _ _ (by have := HX.out; omega) (by have := HY.out; omega)
  have hl3 : x3 ^^^ y3 < 18446744073709551616 := Nat.xor_lt_two_pow (n := 64) (by have := HX.out; omega) (by have := HY.out; omega)
  have em3 : bits .and .u64 0 ((x3 ^^^ y3 : Nat) : Int) = 0 := by
    rw [show (0 : Int) = ((0 : Nat) : Int) from rfl, u64_and_nat 0 _ (by decide) hl3, Nat.zero_and]
  have ev3 : bits .xor .u64 (x3 : Int) 0 = (x3 : Int) := by
    rw [show (0 : Int) = ((0 : Nat) : Int) from rfl, u64_xor_nat _ 0 (by have := HX.out; omega) (by decide), Nat.xor_zero]
  have eu3 : bits .xor .u64 (y3 : Int) 0 = (y3 : Int) := by
    rw [show (0 : Int) = ((0 : Nat) : Int) from rfl, u64_xor_nat _ 0 (by have := HY.out; omega) (by decide), Nat.xor_zero]
  go_quiet (fail)
  have fv3 : (w3.drewN nq).frozen? ⟨v, 3, none⟩ = false := hv.fr 3
  have fu3 : (w3.drewN nq).frozen? ⟨u, 3, none⟩ = false := hu.fr 3
  have hv' : FeAt (((w3.drewN nq).setCell ⟨v, 3, none⟩ (.int .u64 (x3 : Int))).setCell ⟨u, 3, none⟩ (.int .u64 (y3 : Int))) v ⟨x0, x1, x2, x3, x4⟩ := FeAt.otherSet (FeAt.s3 (show FeAt (w3.drewN nq) v _ from hv) x3) hne
  have hu' : FeAt (((w3.drewN nq).setCell ⟨v, 3, none⟩ (.int .u64 (x3 : Int))).setCell ⟨u, 3, none⟩ (.int .u64 (y3 : Int))) u ⟨y0, y1, y2, y3, y4⟩ := FeAt.s3 (FeAt.otherSet (show FeAt (w3.drewN nq) u _ from hu) hne2) y3
  have gg' : Grown2 w (((w3.drewN nq).setCell ⟨v, 3, none⟩ (.int .u64 (x3 : Int))).setCell ⟨u, 3, none⟩ (.int .u64 (y3 : Int))) v u := Grown2.setU (Grown2.setV (show Grown2 w (w3.drewN nq) v u from ⟨gg.os, gg.tape, gg.output, gg.size, gg.block⟩) _ _) _ _
  have HV' := Lib.hid hv'
  have HU' := Lib.hid hu'
  have GG' := Lib.hid gg'
  have cuu : ((w3.drewN nq).setCell ⟨v, 3, none⟩ (.int .u64 (x3 : Int))).cell? ⟨u, 3, none⟩ = some (.int .u64 (y3 : Int)) := FeAt.c3 (FeAt.otherSet (show FeAt (w3.drewN nq) u _ from hu) hne2)
  have fuu : ((w3.drewN nq).setCell ⟨v, 3, none⟩ (.int .u64 (x3 : Int))).frozen? ⟨u, 3, none⟩ = false := FeAt.fr (FeAt.otherSet (show FeAt (w3.drewN nq) u _ from hu) hne2) 3
  clear hv' hu' gg'
  go_wp2_with fail
  clear cuu fuu cv3 cu3 fv3 fu3 ex3 em3 ev3 eu3 hl3
  generalize ((w3.drewN nq).setCell ⟨v, 3, none⟩ (.int .u64 (x3 : Int))).setCell ⟨u, 3, none⟩ (.int .u64 (y3 : Int)) = w4 at *
  have hv := HV'.out
  have hu := HU'.out
  have gg := GG'.out
  clear HV' HU' GG'
  have cv4 : w4.cell? ⟨v, 4, none⟩ = some (.int .u64 (x4 : Int)) := hv.c4
  have cu4 : w4.cell? ⟨u, 4, none⟩ = some (.int .u64 (y4 : Int)) := hu.c4
  have ex4 : bits .xor .u64 (x4 : Int) (y4 : Int) = ((x4 ^^^ y4 : Nat) : Int) := u64_xor_nat _ _ (by have := HX.out; omega) (by have := HY.out; omega)
  have hl4 : x4 ^^^ y4 < 18446744073709551616 := Nat.xor_lt_two_pow (n := 64) (by have := HX.out; omega) (by have := HY.out; omega)
  have em4 : bits .and .u64 0 ((x4 ^^^ y4 : Nat) : Int) = 0 := by
    rw [show (0 : Int) = ((0 : Nat) : Int) from rfl, u64_and_nat 0 _ (by decide) hl4, Nat.zero_and]
  have ev4 : bits .xor .u64 (x4 : Int) 0 = (x4 : Int) := by
    rw [show (0 : Int) = ((0 : Nat) : Int) from rfl, u64_xor_nat _ 0 (by have := HX.out; omega) (by decide), Nat.xor_zero]
  have eu4 : bits .xor .u64 (y4 : Int) 0 = (y4 : Int) := by
    rw [show (0 : Int) = ((0 : Nat) : Int) from rfl, u64_xor_nat _ 0 (by have := HY.out; omega) (by decide), Nat.xor_zero]
  go_quiet (fail)
  have fv4 : (w4.drewN nq).frozen? ⟨v, 4, none⟩ = false := hv.fr 4
  have fu4 : (w4.drewN nq).frozen? ⟨u, 4, none⟩ = false := hu.fr 4
  have hv' : FeAt (((w4.drewN nq).setCell ⟨v, 4, none⟩ (.int .u64 (x4 : Int))).setCell ⟨u, 4, none⟩ (.int .u64 (y4 : Int))) v ⟨x0, x1, x2, x3, x4⟩ := FeAt.otherSet (FeAt.s4 (show FeAt (w4.drewN nq) v _ from hv) x4) hne
  have hu' : FeAt (((w4.drewN nq).setCell ⟨v, 4, none⟩ (.int .u64 (x4 : Int))).setCell ⟨u, 4, none⟩ (.int .u64 (y4 : Int))) u ⟨y0, y1, y2, y3, y4⟩ := FeAt.s4 (FeAt.otherSet (show FeAt (w4.drewN nq) u _ from hu) hne2) y4
  have gg' : Grown2 w (((w4.drewN nq).setCell ⟨v, 4, none⟩ (.int .u64 (x4 : Int))).setCell ⟨u, 4, none⟩ (.int .u64 (y4 : Int))) v u := Grown2.setU (Grown2.setV (show Grown2 w (w4.drewN nq) v u from ⟨gg.os, gg.tape, gg.output, gg.size, gg.block⟩) _ _) _ _
  have HV' := Lib.hid hv'
  have HU' := Lib.hid hu'
  have GG' := Lib.hid gg'
  have cuu : ((w4.drewN nq).setCell ⟨v, 4, none⟩ (.int .u64 (x4 : Int))).cell? ⟨u, 4, none⟩ = some (.int .u64 (y4 : Int)) := FeAt.c4 (FeAt.otherSet (show FeAt (w4.drewN nq) u _ from hu) hne2)
  have fuu : ((w4.drewN nq).setCell ⟨v, 4, none⟩ (.int .u64 (x4 : Int))).frozen? ⟨u, 4, none⟩ = false := FeAt.fr (FeAt.otherSet (show FeAt (w4.drewN nq) u _ from hu) hne2) 4
  clear hv' hu' gg'
  go_wp2_with fail
  clear cuu fuu cv4 cu4 fv4 fu4 ex4 em4 ev4 eu4 hl4
  go_end0
  exact ⟨rfl, HV'.out, HU'.out, GG'.out⟩

set_option maxRecDepth 100000 in
set_option maxHeartbeats 2000000 in
theorem swap1_at (w : World) (v u x0 x1 x2 x3 x4 y0 y1 y2 y3 y4 : Nat) (hne : v ≠ u) (hv : FeAt w v ⟨x0, x1, x2, x3, x4⟩) (hu : FeAt w u ⟨y0, y1, y2, y3, y4⟩) (hx : x0 < 4503599627370496 ∧ x1 < 4503599627370496 ∧ x2 < 4503599627370496 ∧ x3 < 4503599627370496 ∧ x4 < 4503599627370496) (hy : y0 < 4503599627370496 ∧ y1 < 4503599627370496 ∧ y2 < 4503599627370496 ∧ y3 < 4503599627370496 ∧ y4 < 4503599627370496) :
    Calls Tryz.prog 73 #[.pointer (some ⟨v, 0, none⟩), .pointer (some ⟨u, 0, none⟩), .int .i64 1] w fun e w' => e = .returned (.tuple #[]) ∧ FeAt w' v ⟨y0, y1, y2, y3, y4⟩ ∧ FeAt w' u ⟨x0, x1, x2, x3, x4⟩ ∧ Grown2 w w' v u := by
  have HX := Lib.hid hx
  have HY := Lib.hid hy
  have hne2 := Ne.symm hne
  clear hx hy
  have gg : Grown2 w w v u := ⟨rfl, rfl, rfl, Nat.le_refl _, fun _ _ _ _ => rfl⟩
  go_enter Tryz.func73, Tryz.ntmps73
  go_wp2_with (go_at_call 85; refine (mask1_any _).mono ?_; rintro e wq ⟨rfl, hwq⟩; rw [hwq])
  have cv0 : w.cell? ⟨v, 0, none⟩ = some (.int .u64 (x0 : Int)) := hv.c0
  have cu0 : w.cell? ⟨u, 0, none⟩ = some (.int .u64 (y0 : Int)) := hu.c0
  have ex0 : bits .xor .u64 (x0 : Int) (y0 : Int) = ((x0 ^^^ y0 : Nat) : Int) := u64_xor_nat _ _ (by have := HX.out; omega) (by have := HY.out; omega)
  have hl0 : x0 ^^^ y0 < 18446744073709551616 := Nat.xor_lt_two_pow (n := 64) (by have := HX.out; omega) (by have := HY.out; omega)
  have em0 : bits .and .u64 18446744073709551615 ((x0 ^^^ y0 : Nat) : Int) = ((x0 ^^^ y0 : Nat) : Int) := by
    rw [show (18446744073709551615 : Int) = ((18446744073709551615 : Nat) : Int) from rfl, u64_and_nat _ _ (by decide) hl0, Nat.and_comm, Nat.and_two_pow_sub_one_eq_mod _ 64, Nat.mod_eq_of_lt hl0]
  have ev0 : bits .xor .u64 (x0 : Int) ((x0 ^^^ y0 : Nat) : Int) = (y0 : Int) := by
    rw [u64_xor_nat _ _ (by have := HX.out; omega) hl0, xor_back]
  have eu0 : bits .xor .u64 (y0 : Int) ((x0 ^^^ y0 : Nat) : Int) = (x0 : Int) := by
    rw [u64_xor_nat _ _ (by have := HY.out; omega) hl0, xor_back2]
  generalize x0 ^^^ y0 = t0 at *
  go_quiet (fail)
  have fv0 : (w.drewN nq).frozen? ⟨v, 0, none⟩ = false := hv.fr 0
  have fu0 : (w.drewN nq).frozen? ⟨u, 0, none⟩ = false := hu.fr 0
  have hv' : FeAt (((w.drewN nq).setCell ⟨v, 0, none⟩ (.int .u64 (y0 : Int))).setCell ⟨u, 0, none⟩ (.int .u64 (x0 : Int))) v ⟨y0, x1, x2, x3, x4⟩ := FeAt.otherSet (FeAt.s0 (show FeAt (w.drewN nq) v _ from hv) y0) hne
  have hu' : FeAt (((w.drewN nq).setCell ⟨v, 0, none⟩ (.int .u64 (y0 : Int))).setCell ⟨u, 0, none⟩ (.int .u64 (x0 : Int))) u ⟨x0, y1, y2, y3, y4⟩ := FeAt.s0 (FeAt.otherSet (show FeAt (w.drewN nq) u _ from hu) hne2) x0
  have gg' : Grown2 w (((w.drewN nq).setCell ⟨v, 0, none⟩ (.int .u64 (y0 : Int))).setCell ⟨u, 0, none⟩ (.int .u64 (x0 : Int))) v u := Grown2.setU (Grown2.setV (show Grown2 w (w.drewN nq) v u from ⟨gg.os, gg.tape, gg.output, gg.size, gg.block⟩) _ _) _ _
  have HV' := Lib.hid hv'
  have HU' := Lib.hid hu'
  have GG' := Lib.hid gg'
  have cuu : ((w.drewN nq).setCell ⟨v, 0, none⟩ (.int .u64 (y0 : Int))).cell? ⟨u, 0, none⟩ = some (.int .u64 (y0 : Int)) := FeAt.c0 (FeAt.otherSet (show FeAt (w.drewN nq) u _ from hu) hne2)
  have fuu : ((w.drewN nq).setCell ⟨v, 0, none⟩ (.int .u64 (y0 : Int))).frozen? ⟨u, 0, none⟩ = false := FeAt.fr (FeAt.otherSet (show FeAt (w.drewN nq) u _ from hu) hne2) 0
  clear hv' hu' gg'
  go_wp2_with fail
  clear cuu fuu cv0 cu0 fv0 fu0 ex0 em0 ev0 eu0 hl0
  generalize ((w.drewN nq).setCell ⟨v, 0, none⟩ (.int .u64 (y0 : Int))).setCell ⟨u, 0, none⟩ (.int .u64 (x0 : Int)) = w1 at *
  have hv := HV'.out
  have hu := HU'.out
  have gg := GG'.out
  clear HV' HU' GG'
  have cv1 : w1.cell? ⟨v, 1, none⟩ = some (.int .u64 (x1 : Int)) := hv.c1
  have cu1 : w1.cell? ⟨u, 1, none⟩ = some (.int .u64 (y1 : Int)) := hu.c1
  have ex1 : bits .xor .u64 (x1 : Int) (y1 : Int) = ((x1 ^^^ y1 : Nat) : Int) := u64_xor_nat _ _ (by have := HX.out; omega) (by have := HY.out; omega)
  have hl1 : x1 ^^^ y1 < 18446744073709551616 := Nat.xor_lt_two_pow (n := 64) (by have := HX.out; omega) (by have := HY.out; omega)
  have em1 : bits .and .u64 18446744073709551615 ((x1 ^^^ y1 : Nat) : Int) = ((x1 ^^^ y1 : Nat) : Int) := by
    rw [show (18446744073709551615 : Int) = ((18446744073709551615 : Nat) : Int) from rfl, u64_and_nat _ _ (by decide) hl1, Nat.and_comm, Nat.and_two_pow_sub_one_eq_mod _ 64, Nat.mod_eq_of_lt hl1]
  have ev1 : bits .xor .u64 (x1 : Int) ((x1 ^^^ y1 : Nat) : Int) = (y1 : Int) := by
    rw [u64_xor_nat _ _ (by have := HX.out; omega) hl1, xor_back]
  have eu1 : bits .xor .u64 (y1 : Int) ((x1 ^^^ y1 : Nat) : Int) = (x1 : Int) := by
    rw [u64_xor_nat _ _ (by have := HY.out; omega) hl1, xor_back2]
  generalize x1 ^^^ y1 = t1 at *
  go_quiet (fail)
  have fv1 : (w1.drewN nq).frozen? ⟨v, 1, none⟩ = false := hv.fr 1
  have fu1 : (w1.drewN nq).frozen? ⟨u, 1, none⟩ = false := hu.fr 1
  have hv' : FeAt (((w1.drewN nq).setCell ⟨v, 1, none⟩ (.int .u64 (y1 : Int))).setCell ⟨u, 1, none⟩ (.int .u64 (x1 : Int))) v ⟨y0, y1, x2, x3, x4⟩ := FeAt.otherSet (FeAt.s1 (show FeAt (w1.drewN nq) v _ from hv) y1) hne
  have hu' : FeAt (((w1.drewN nq).setCell ⟨v, 1, none⟩ (.int .u64 (y1 : Int))).setCell ⟨u, 1, none⟩ (.int .u64 (x1 : Int))) u ⟨x0, x1, y2, y3, y4⟩ := FeAt.s1 (FeAt.otherSet (show FeAt (w1.drewN nq) u _ from hu) hne2) x1
  have gg' : Grown2 w (((w1.drewN nq).setCell ⟨v, 1, none⟩ (.int .u64 (y1 : Int))).setCell ⟨u, 1, none⟩ (.int .u64 (x1 : Int))) v u := Grown2.setU (Grown2.setV (show Grown2 w (w1.drewN nq) v u from ⟨gg.os, gg.tape, gg.output, gg.size, gg.block⟩) _ _) _ _
  have HV' := Lib.hid hv'
  have HU' := Lib.hid hu'
  have GG' := Lib.hid gg'
  have cuu : ((w1.drewN nq).setCell ⟨v, 1, none⟩ (.int .u64 (y1 : Int))).cell? ⟨u, 1, none⟩ = some (.int .u64 (y1 : Int)) := FeAt.c1 (FeAt.otherSet (show FeAt (w1.drewN nq) u _ from hu) hne2)
  have fuu : ((w1.drewN nq).setCell ⟨v, 1, none⟩ (.int .u64 (y1 : Int))).frozen? ⟨u, 1, none⟩ = false := FeAt.fr (FeAt.otherSet (show FeAt (w1.drewN nq) u _ from hu) hne2) 1
  clear hv' hu' gg'
  go_wp2_with fail
  clear cuu fuu cv1 cu1 fv1 fu1 ex1 em1 ev1 eu1 hl1
  generalize ((w1.drewN nq).setCell ⟨v, 1, none⟩ (.int .u64 (y1 : Int))).setCell ⟨u, 1, none⟩ (.int .u64 (x1 : Int)) = w2 at *
  have hv := HV'.out
  have hu := HU'.out
  have gg := GG'.out
  clear HV' HU' GG'
  have cv2 : w2.cell? ⟨v, 2, none⟩ = some (.int .u64 (x2 : Int)) := hv.c2
  have cu2 : w2.cell? ⟨u, 2, none⟩ = some (.int .u64 (y2 : Int)) := hu.c2
  have ex2 : bits .xor .u64 (x2 : Int) (y2 : Int) = ((x2 ^^^ y2 : Nat) : Int) := u64_xor_nat _ _ (by have := HX.out; omega) (by have := HY.out; omega)
  have hl2 : x2 ^^^ y2 < 18446744073709551616 := Nat.xor_lt_two_pow (n := 64) (by have := HX.out; omega) (by have := HY.out; omega)
  have em2 : bits .and .u64 18446744073709551615 ((x2 ^^^ y2 : Nat) : Int) = ((x2 ^^^ y2 : Nat) : Int) := by
    rw [show (18446744073709551615 : Int) = ((18446744073709551615 : Nat) : Int) from rfl, u64_and_nat _ _ (by decide) hl2, Nat.and_comm, Nat.and_two_pow_sub_one_eq_mod _ 64, Nat.mod_eq_of_lt hl2]
  have ev2 : bits .xor .u64 (x2 : Int) ((x2 ^^^ y2 : Nat) : Int) = (y2 : Int) := by
    rw [u64_xor_nat _ _ (by have := HX.out; omega) hl2, xor_back]
  have eu2 : bits .xor .u64 (y2 : Int) ((x2 ^^^ y2 : Nat) : Int) = (x2 : Int) := by
    rw [u64_xor_nat _ _ (by have := HY.out; omega) hl2, xor_back2]
  generalize x2 ^^^ y2 = t2 at *
  go_quiet (fail)
  have fv2 : (w2.drewN nq).frozen? ⟨v, 2, none⟩ = false := hv.fr 2
  have fu2 : (w2.drewN nq).frozen? ⟨u, 2, none⟩ = false := hu.fr 2
  have hv' : FeAt (((w2.drewN nq).setCell ⟨v, 2, none⟩ (.int .u64 (y2 : Int))).setCell ⟨u, 2, none⟩ (.int .u64 (x2 : Int))) v ⟨y0, y1, y2, x3, x4⟩ := FeAt.otherSet (FeAt.s2 (show FeAt (w2.drewN nq) v _ from hv) y2) hne
  have hu' : FeAt (((w2.drewN nq).setCell ⟨v, 2, none⟩ (.int .u64 (y2 : Int))).setCell ⟨u, 2, none⟩ (.int .u64 (x2 : Int))) u ⟨x0, x1, x2, y3, y4⟩ := FeAt.s2 (FeAt.otherSet (show FeAt (w2.drewN nq) u _ from hu) hne2) x2
  have gg' : Grown2 w (((w2.drewN nq).setCell ⟨v, 2, none⟩ (.int .u64 (y2 : Int))).setCell ⟨u, 2, none⟩ (.int .u64 (x2 : Int))) v u := Grown2.setU (Grown2.setV (show Grown2 w (w2.drewN nq) v u from ⟨gg.os, gg.tape, gg.output, gg.size, gg.block⟩) _ _) _ _
  have HV' := Lib.hid hv'
  have HU' := Lib.hid hu'
  have GG' := Lib.hid gg'
  have cuu : ((w2.drewN nq).setCell ⟨v, 2, none⟩ (.int .u64 (y2 : Int))).cell? ⟨u, 2, none⟩ = some (.int .u64 (y2 : Int)) := FeAt.c2 (FeAt.otherSet (show FeAt (w2.drewN nq) u _ from hu) hne2)
  have fuu : ((w2.drewN nq).setCell ⟨v, 2, none⟩ (.int .u64 (y2 : Int))).frozen? ⟨u, 2, none⟩ = false := FeAt.fr (FeAt.otherSet (show FeAt (w2.drewN nq) u _ from hu) hne2) 2
  clear hv' hu' gg'
  go_wp2_with fail
  clear cuu fuu cv2 cu2 fv2 fu2 ex2 em2 ev2 eu2 hl2
  generalize ((w2.drewN nq).setCell ⟨v, 2, none⟩ (.int .u64 (y2 : Int))).setCell ⟨u, 2, none⟩ (.int .u64 (x2 : Int)) = w3 at *
  have hv := HV'.out
  have hu := HU'.out
  have gg := GG'.out
  clear HV' HU' GG'
  have cv3 : w3.cell? ⟨v, 3, none⟩ = some (.int .u64 (x3 : Int)) := hv.c3
  have cu3 : w3.cell? ⟨u, 3, none⟩ = some (.int .u64 (y3 : Int)) := hu.c3
  have ex3 : bits .xor .u64 (x3 : Int) (y3 : Int) = ((x3 ^^^ y3 : Nat) : Int) := u64_xor_nat _ _ (by have := HX.out; omega) (by have := HY.out; omega)
  have hl3 : x3 ^^^ y3 < 18446744073709551616 := Nat.xor_lt_two_pow (n := 64) (by have := HX.out; omega) (by have := HY.out; omega)
  have em3 : bits .and .u64 18446744073709551615 ((x3 ^^^ y3 : Nat) : Int) = ((x3 ^^^ y3 : Nat) : Int) := by
    rw [show (18446744073709551615 : Int) = ((18446744073709551615 : Nat) : Int) from rfl, u64_and_nat _ _ (by decide) hl3, Nat.and_comm, Nat.and_two_pow_sub_one_eq_mod _ 64, Nat.mod_eq_of_lt hl3]
  have ev3 : bits .xor .u64 (x3 : Int) ((x3 ^^^ y3 : Nat) : Int) = (y3 : Int) := by
    rw [u64_xor_nat _ _ (by have := HX.out; omega) hl3, xor_back]
  have eu3 : bits .xor .u64 (y3 : Int) ((x3 ^^^ y3 : Nat) : Int) = (x3 : Int) := by
    rw [u64_xor_nat _ _ (by have := HY.out; omega) hl3, xor_back2]
  generalize x3 ^^^ y3 = t3 at *
  go_quiet (fail)
  have fv3 : (w3.drewN nq).frozen? ⟨v, 3, none⟩ = false := hv.fr 3
  have fu3 : (w3.drewN nq).frozen? ⟨u, 3, none⟩ = false := hu.fr 3
  have hv' : FeAt (((w3.drewN nq).setCell ⟨v, 3, none⟩ (.int .u64 (y3 : Int))).setCell ⟨u, 3, none⟩ (.int .u64 (x3 : Int))) v ⟨y0, y1, y2, y3, x4⟩ := FeAt.otherSet (FeAt.s3 (show FeAt (w3.drewN nq) v _ from hv) y3) hne
  have hu' : FeAt (((w3.drewN nq).setCell ⟨v, 3, none⟩ (.int .u64 (y3 : Int))).setCell ⟨u, 3, none⟩ (.int .u64 (x3 : Int))) u ⟨x0, x1, x2, x3, y4⟩ := FeAt.s3 (FeAt.otherSet (show FeAt (w3.drewN nq) u _ from hu) hne2) x3
  have gg' : Grown2 w (((w3.drewN nq).setCell ⟨v, 3, none⟩ (.int .u64 (y3 : Int))).setCell ⟨u, 3, none⟩ (.int .u64 (x3 : Int))) v u := Grown2.setU (Grown2.setV (show Grown2 w (w3.drewN nq) v u from ⟨gg.os, gg.tape, gg.output, gg.size, gg.block⟩) _ _) _ _
  have HV' := Lib.hid hv'
  have HU' := Lib.hid hu'
  have GG' := Lib.hid gg'
  have cuu : ((w3.drewN nq).setCell ⟨v, 3, none⟩ (.int .u64 (y3 : Int))).cell? ⟨u, 3, none⟩ = some (.int .u64 (y3 : Int)) := FeAt.c3 (FeAt.otherSet (show FeAt (w3.drewN nq) u _ from hu) hne2)
  have fuu : ((w3.drewN nq).setCell ⟨v, 3, none⟩ (.int .u64 (y3 : Int))).frozen? ⟨u, 3, none⟩ = false := FeAt.fr (FeAt.otherSet (show FeAt (w3.drewN nq) u _ from hu) hne2) 3
  clear hv' hu' gg'
  go_wp2_with fail
  clear cuu fuu cv3 cu3 fv3 fu3 ex3 em3 ev3 eu3 hl3
  generalize ((w3.drewN nq).setCell ⟨v, 3, none⟩ (.int .u64 (y3 : Int))).setCell ⟨u, 3, none⟩ (.int .u64 (x3 : Int)) = w4 at *
  have hv := HV'.out
  have hu := HU'.out
  have gg := GG'.out
  clear HV' HU' GG'
  have cv4 : w4.cell? ⟨v, 4, none⟩ = some (.int .u64 (x4 : Int)) := hv.c4
  have cu4 : w4.cell? ⟨u, 4, none⟩ = some (.int .u64 (y4 : Int)) := hu.c4
  have ex4 : bits .xor .u64 (x4 : Int) (y4 : Int) = ((x4 ^^^ y4 : Nat) : Int) := u64_xor_nat _ _ (by have := HX.out; omega) (by have := HY.out; omega)
  have hl4 : x4 ^^^ y4 < 18446744073709551616 := Nat.xor_lt_two_pow (n := 64) (by have := HX.out; omega) (by have := HY.out; omega)
  have em4 : bits .and .u64 18446744073709551615 ((x4 ^^^ y4 : Nat) : Int) = ((x4 ^^^ y4 : Nat) : Int) := by
    rw [show (18446744073709551615 : Int) = ((18446744073709551615 : Nat) : Int) from rfl, u64_and_nat _ _ (by decide) hl4, Nat.and_comm, Nat.and_two_pow_sub_one_eq_mod _ 64, Nat.mod_eq_of_lt hl4]
  have ev4 : bits .xor .u64 (x4 : Int) ((x4 ^^^ y4 : Nat) : Int) = (y4 : Int) := by
    rw [u64_xor_nat _ _ (by have := HX.out; omega) hl4, xor_back]
  have eu4 : bits .xor .u64 (y4 : Int) ((x4 ^^^ y4 : Nat) : Int) = (x4 : Int) := by
    rw [u64_xor_nat _ _ (by have := HY.out; omega) hl4, xor_back2]
  generalize x4 ^^^ y4 = t4 at *
  go_quiet (fail)
  have fv4 : (w4.drewN nq).frozen? ⟨v, 4, none⟩ = false := hv.fr 4
  have fu4 : (w4.drewN nq).frozen? ⟨u, 4, none⟩ = false := hu.fr 4
  have hv' : FeAt (((w4.drewN nq).setCell ⟨v, 4, none⟩ (.int .u64 (y4 : Int))).setCell ⟨u, 4, none⟩ (.int .u64 (x4 : Int))) v ⟨y0, y1, y2, y3, y4⟩ := FeAt.otherSet (FeAt.s4 (show FeAt (w4.drewN nq) v _ from hv) y4) hne
  have hu' : FeAt (((w4.drewN nq).setCell ⟨v, 4, none⟩ (.int .u64 (y4 : Int))).setCell ⟨u, 4, none⟩ (.int .u64 (x4 : Int))) u ⟨x0, x1, x2, x3, x4⟩ := FeAt.s4 (FeAt.otherSet (show FeAt (w4.drewN nq) u _ from hu) hne2) x4
  have gg' : Grown2 w (((w4.drewN nq).setCell ⟨v, 4, none⟩ (.int .u64 (y4 : Int))).setCell ⟨u, 4, none⟩ (.int .u64 (x4 : Int))) v u := Grown2.setU (Grown2.setV (show Grown2 w (w4.drewN nq) v u from ⟨gg.os, gg.tape, gg.output, gg.size, gg.block⟩) _ _) _ _
  have HV' := Lib.hid hv'
  have HU' := Lib.hid hu'
  have GG' := Lib.hid gg'
  have cuu : ((w4.drewN nq).setCell ⟨v, 4, none⟩ (.int .u64 (y4 : Int))).cell? ⟨u, 4, none⟩ = some (.int .u64 (y4 : Int)) := FeAt.c4 (FeAt.otherSet (show FeAt (w4.drewN nq) u _ from hu) hne2)
  have fuu : ((w4.drewN nq).setCell ⟨v, 4, none⟩ (.int .u64 (y4 : Int))).frozen? ⟨u, 4, none⟩ = false := FeAt.fr (FeAt.otherSet (show FeAt (w4.drewN nq) u _ from hu) hne2) 4
  clear hv' hu' gg'
  go_wp2_with fail
  clear cuu fuu cv4 cu4 fv4 fu4 ex4 em4 ev4 eu4 hl4
  go_end0
  exact ⟨rfl, HV'.out, HU'.out, GG'.out⟩

theorem swap_M (w : World) (v u m n c : Nat) (hc : c < 2) (hne : v ≠ u) (hv : FeM w v m) (hu : FeM w u n) :
    Calls Tryz.prog 73 #[.pointer (some ⟨v, 0, none⟩), .pointer (some ⟨u, 0, none⟩), .int .i64 (c : Int)] w fun e w' => e = .returned (.tuple #[]) ∧ FeM w' v (if c = 1 then n else m) ∧ FeM w' u (if c = 1 then m else n) ∧ Grown2 w w' v u := by
  obtain ⟨x, hx, ox, rfl⟩ := hv
  obtain ⟨y, hy, oy, rfl⟩ := hu
  obtain ⟨x0, x1, x2, x3, x4⟩ := x
  obtain ⟨y0, y1, y2, y3, y4⟩ := y
  rcases (by omega : c = 0 ∨ c = 1) with rfl | rfl
  · refine (swap0_at w v u x0 x1 x2 x3 x4 y0 y1 y2 y3 y4 hne hx hy ox.lim oy.lim).mono ?_
    rintro e w' ⟨rfl, h1, h2, h3⟩
    exact ⟨rfl, ⟨_, h1, ox, rfl⟩, ⟨_, h2, oy, rfl⟩, h3⟩
  · refine (swap1_at w v u x0 x1 x2 x3 x4 y0 y1 y2 y3 y4 hne hx hy ox.lim oy.lim).mono ?_
    rintro e w' ⟨rfl, h1, h2, h3⟩
    exact ⟨rfl, ⟨_, h1, oy, rfl⟩, ⟨_, h2, ox, rfl⟩, h3⟩
end Go.Proofs.YthjminkkmljjhaaGreatDoor

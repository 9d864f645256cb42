/- ChaCha20's quarter round in the reference: on an array of 16 words. Conditions: words below 2^32; four different places. (Printed by wip/genhs.py.) -/
import Derived.Test.YtkocgogpbammaaaDoorHq
import Derived.BigRegion
import Derived.Deep.RegionWith
import Derived.Deep.DeepCutAuto
set_option linter.unusedVariables false
set_option linter.unusedSimpArgs false
namespace Go.Proofs.YtkocgogpbammaaaDoor
open Go.RowKit

def u32s (l : List Nat) : List Value := l.map fun n : Nat => .int .u32 (n : Int)
@[simp] theorem u32s_length (l : List Nat) : (u32s l).length = l.length := by simp [u32s]
theorem u32s_get (l : List Nat) (j : Nat) (h : j < (u32s l).length) : (u32s l)[j] = .int .u32 ((l[j]'(by simpa using h) : Nat) : Int) := by simp [u32s]
theorem u32s_set (l : List Nat) (j n : Nat) : u32s (l.set j n) = (u32s l).set j (.int .u32 (n : Int)) := by simp [u32s, List.map_set]
theorem u32s_oneCell (l : List Nat) : ∀ u ∈ u32s l, u.oneCell' = true := by intro u hu; simp only [u32s, List.mem_map] at hu; obtain ⟨x, _, rfl⟩ := hu; rfl
theorem u32s_app (a b : List Nat) : u32s (a ++ b) = u32s a ++ u32s b := by simp [u32s]
theorem grown_set0 {w0 wx : World} {v : Nat} (h : w0.grownBy wx (some v)) (k : Nat) (x : Value) : w0.grownBy (wx.setCell ⟨v, k, none⟩ x) (some v) :=
  ⟨h.os, h.tape, h.output, by simpa [World.setCell] using h.size, fun i hi hne => by rw [Below.heap_setCell _ _ _ _ (fun e => hne (by rw [e]))]; exact h.block i hi hne⟩
theorem grown_drewN {w0 wx : World} {v : Nat} (h : w0.grownBy wx (some v)) (n : Nat) : w0.grownBy (wx.drewN n) (some v) := ⟨h.os, h.tape, h.output, h.size, h.block⟩
/-- Four places of a list hold these words. -/
def put4 (l : List Nat) (a b c d va vb vc vd : Nat) : List Nat := (((l.set a va).set b vb).set c vc).set d vd
theorem put4_self (l : List Nat) (a b c d : Nat) (ha : a < l.length) (hb : b < l.length) (hc : c < l.length) (hd : d < l.length) : put4 l a b c d l[a] l[b] l[c] l[d] = l := by
  unfold put4
  rw [List.set_getElem_self, List.set_getElem_self, List.set_getElem_self, List.set_getElem_self]
section
variable {l : List Nat} {a b c d va vb vc vd : Nat} (hab : a ≠ b) (hac : a ≠ c) (had : a ≠ d) (hbc : b ≠ c) (hbd : b ≠ d) (hcd : c ≠ d)
include hab hac had hbc hbd hcd
omit hbc hbd hcd in
theorem put4_a (x : Nat) : (put4 l a b c d va vb vc vd).set a x = put4 l a b c d x vb vc vd := by
  unfold put4
  rw [List.set_comm _ _ had.symm, List.set_comm _ _ hac.symm, List.set_comm _ _ hab.symm, List.set_set]
omit hab hac had hcd in
theorem put4_b (x : Nat) : (put4 l a b c d va vb vc vd).set b x = put4 l a b c d va x vc vd := by
  unfold put4
  rw [List.set_comm _ _ hbd.symm, List.set_comm _ _ hbc.symm, List.set_set]
omit hab hac had hbc hbd in
theorem put4_c (x : Nat) : (put4 l a b c d va vb vc vd).set c x = put4 l a b c d va vb x vd := by
  unfold put4
  rw [List.set_comm _ _ hcd.symm, List.set_set]
omit hab hac had hbc hbd hcd in
theorem put4_d (x : Nat) : (put4 l a b c d va vb vc vd).set d x = put4 l a b c d va vb vc x := by
  unfold put4
  rw [List.set_set]
theorem put4_get (ha : a < l.length) (hb : b < l.length) (hc : c < l.length) (hd : d < l.length) :
    (put4 l a b c d va vb vc vd)[a]? = some va ∧ (put4 l a b c d va vb vc vd)[b]? = some vb ∧ (put4 l a b c d va vb vc vd)[c]? = some vc ∧ (put4 l a b c d va vb vc vd)[d]? = some vd := by
  unfold put4
  refine ⟨?_, ?_, ?_, ?_⟩ <;> simp [List.getElem?_set, *, hab.symm, hac.symm, had.symm, hbc.symm, hbd.symm, hcd.symm]
end
/-- What the quarter round lays into the list. -/
def qat (l : List Nat) (a b c d : Nat) : List Nat :=
  let q := qr (l.getD a 0) (l.getD b 0) (l.getD c 0) (l.getD d 0)
  put4 l a b c d q.1 q.2.1 q.2.2.1 q.2.2.2
@[simp] theorem put4_length (l : List Nat) (a b c d va vb vc vd : Nat) : (put4 l a b c d va vb vc vd).length = l.length := by simp [put4]
@[simp] theorem qat_length (l : List Nat) (a b c d : Nat) : (qat l a b c d).length = l.length := by simp [qat]
/-- The array holds the list with four words at their places; all else is as it was. -/
def QS (w0 wx : World) (g : Nat) (l : List Nat) (a b c d va vb vc vd : Nat) : Prop :=
  Arr wx g 78 (u32s (put4 l a b c d va vb vc vd)) ∧ w0.grownBy wx (some g)
theorem u32_cell {w : World} {g : Nat} {t : TypeId} {l : List Nat} (h : Arr w g t (u32s l)) {j v : Nat} (hj : l[j]? = some v) : w.cell? ⟨g, j, none⟩ = some (.int .u32 (v : Int)) := by
  obtain ⟨hl, rfl⟩ := List.getElem?_eq_some_iff.1 hj
  have := h.cell j (by simpa using hl)
  rwa [u32s_get] at this
theorem u32_arr_set {w : World} {g : Nat} {t : TypeId} {l : List Nat} (h : Arr w g t (u32s l)) (j v : Nat) (hj : j < l.length) : Arr (w.setCell ⟨g, j, none⟩ (.int .u32 (v : Int))) g t (u32s (l.set j v)) := by
  rw [u32s_set]; exact Arr.set h j _ (by simpa using hj)

set_option maxRecDepth 100000 in
set_option maxHeartbeats 16000000 in
theorem quarter_any (w : World) (g : Nat) (l : List Nat) (a b c d : Nat) (hl : l.length = 16) (hlt : ∀ x ∈ l, x < 4294967296) (hA : Arr w g 78 (u32s l))
    (ha : a < 16) (hb : b < 16) (hc : c < 16) (hd : d < 16) (hab : a ≠ b) (hac : a ≠ c) (had : a ≠ d) (hbc : b ≠ c) (hbd : b ≠ d) (hcd : c ≠ d) :
    Calls Tryd.prog 32 #[.pointer (some ⟨g, 0, none⟩), .int .i64 (a : Int), .int .i64 (b : Int), .int .i64 (c : Int), .int .i64 (d : Int)] w fun e w' => e = .returned (.tuple #[]) ∧ Arr w' g 78 (u32s (qat l a b c d)) ∧ w.grownBy w' (some g) := by
  obtain ⟨va, eva⟩ : ∃ x, x = l[a]'(by omega) := ⟨_, rfl⟩
  obtain ⟨vb, evb⟩ : ∃ x, x = l[b]'(by omega) := ⟨_, rfl⟩
  obtain ⟨vc, evc⟩ : ∃ x, x = l[c]'(by omega) := ⟨_, rfl⟩
  obtain ⟨vd, evd⟩ : ∃ x, x = l[d]'(by omega) := ⟨_, rfl⟩
  have lva : va < 4294967296 := by rw [eva]; exact hlt _ (List.getElem_mem _)
  have lvb : vb < 4294967296 := by rw [evb]; exact hlt _ (List.getElem_mem _)
  have lvc : vc < 4294967296 := by rw [evc]; exact hlt _ (List.getElem_mem _)
  have lvd : vd < 4294967296 := by rw [evd]; exact hlt _ (List.getElem_mem _)
  have hq0 : QS w w g l a b c d va vb vc vd := ⟨by rw [eva, evb, evc, evd, put4_self]; exact hA, World.grownBy.refl _ _⟩
  have hGA : l.getD a 0 = va := by rw [eva]; simp [List.getD_eq_getElem?_getD, hl, ha]
  have hGB : l.getD b 0 = vb := by rw [evb]; simp [List.getD_eq_getElem?_getD, hl, hb]
  have hGC : l.getD c 0 = vc := by rw [evc]; simp [List.getD_eq_getElem?_getD, hl, hc]
  have hGD : l.getD d 0 = vd := by rw [evd]; simp [List.getD_eq_getElem?_getD, hl, hd]
  obtain ⟨a1, ea1⟩ : ∃ x, x = ad va vb := ⟨_, rfl⟩
  obtain ⟨d0, ed0⟩ : ∃ x, x = vd ^^^ a1 := ⟨_, rfl⟩
  obtain ⟨d1, ed1⟩ : ∃ x, x = rl 16 d0 := ⟨_, rfl⟩
  obtain ⟨c1, ec1⟩ : ∃ x, x = ad vc d1 := ⟨_, rfl⟩
  obtain ⟨b0, eb0⟩ : ∃ x, x = vb ^^^ c1 := ⟨_, rfl⟩
  obtain ⟨b1, eb1⟩ : ∃ x, x = rl 12 b0 := ⟨_, rfl⟩
  obtain ⟨a2, ea2⟩ : ∃ x, x = ad a1 b1 := ⟨_, rfl⟩
  obtain ⟨d3, ed3⟩ : ∃ x, x = d1 ^^^ a2 := ⟨_, rfl⟩
  obtain ⟨d2, ed2⟩ : ∃ x, x = rl 8 d3 := ⟨_, rfl⟩
  obtain ⟨c2, ec2⟩ : ∃ x, x = ad c1 d2 := ⟨_, rfl⟩
  obtain ⟨b3, eb3⟩ : ∃ x, x = b1 ^^^ c2 := ⟨_, rfl⟩
  obtain ⟨b2, eb2⟩ : ∃ x, x = rl 7 b3 := ⟨_, rfl⟩
  have e : qat l a b c d = put4 l a b c d a2 b2 c2 d2 := by unfold qat; rw [hGA, hGB, hGC, hGD]; unfold qr; subst ea1 ed0 ed1 ec1 eb0 eb1 ea2 ed3 ed2 ec2 eb3 eb2; rfl
  rw [e]
  have la1 : a1 < 4294967296 := by rw [ea1]; exact ad_lt _ _
  have ld0 : d0 < 4294967296 := by rw [ed0]; exact xor_lt32 lvd la1
  have ld1 : d1 < 4294967296 := by rw [ed1]; exact rl_lt _ _ ld0
  have lc1 : c1 < 4294967296 := by rw [ec1]; exact ad_lt _ _
  have lb0 : b0 < 4294967296 := by rw [eb0]; exact xor_lt32 lvb lc1
  have lb1 : b1 < 4294967296 := by rw [eb1]; exact rl_lt _ _ lb0
  have la2 : a2 < 4294967296 := by rw [ea2]; exact ad_lt _ _
  have ld3 : d3 < 4294967296 := by rw [ed3]; exact xor_lt32 ld1 la2
  have ld2 : d2 < 4294967296 := by rw [ed2]; exact rl_lt _ _ ld3
  have lc2 : c2 < 4294967296 := by rw [ec2]; exact ad_lt _ _
  have lb3 : b3 < 4294967296 := by rw [eb3]; exact xor_lt32 lb1 lc2
  have fa1 : IntKind.u32.wrap ((va : Int) + (vb : Int)) = (a1 : Int) := by rw [ea1]; rfl
  have fd0 : bits .xor .u32 (vd : Int) (a1 : Int) = (d0 : Int) := by rw [ed0]; exact u32_xor_nat vd a1 lvd la1
  have fc1 : IntKind.u32.wrap ((vc : Int) + (d1 : Int)) = (c1 : Int) := by rw [ec1]; rfl
  have fb0 : bits .xor .u32 (vb : Int) (c1 : Int) = (b0 : Int) := by rw [eb0]; exact u32_xor_nat vb c1 lvb lc1
  have fa2 : IntKind.u32.wrap ((a1 : Int) + (b1 : Int)) = (a2 : Int) := by rw [ea2]; rfl
  have fd3 : bits .xor .u32 (d1 : Int) (a2 : Int) = (d3 : Int) := by rw [ed3]; exact u32_xor_nat d1 a2 ld1 la2
  have fc2 : IntKind.u32.wrap ((c1 : Int) + (d2 : Int)) = (c2 : Int) := by rw [ec2]; rfl
  have fb3 : bits .xor .u32 (b1 : Int) (c2 : Int) = (b3 : Int) := by rw [eb3]; exact u32_xor_nat b1 c2 lb1 lc2
  have hr1 := fun w => left16_any w d0 ld0
  have hr2 := fun w => left12_any w b0 lb0
  have hr3 := fun w => left8_any w d3 ld3
  have hr4 := fun w => left7_any w b3 lb3
  rw [← ed1] at hr1
  rw [← eb1] at hr2
  rw [← ed2] at hr3
  rw [← eb2] at hr4
  clear e ea1 ed0 ed1 ec1 eb0 eb1 ea2 ed3 ed2 ec2 eb3 eb2 eva evb evc evd hGA hGB hGC hGD hA hlt lva lvb lvc lvd
  have R1 := Lib.hid hr1
  have R2 := Lib.hid hr2
  have R3 := Lib.hid hr3
  have R4 := Lib.hid hr4
  clear hr1 hr2 hr3 hr4
  have GET := Lib.hid (fun va vb vc vd => put4_get (l := l) (va := va) (vb := vb) (vc := vc) (vd := vd) hab hac had hbc hbd hcd (by omega) (by omega) (by omega) (by omega))
  have HL := Lib.hid hl
  clear hl
  go_enter Tryd.func32, Tryd.ntmps32
  go_upto_region 0 with fail
  go_cut [] (fun wx => QS w wx g l a b c d a1 vb vc vd)
  case first =>
    have cx : w.cell? ⟨g, a, none⟩ = some (.int .u32 (va : Int)) := u32_cell hq0.1 (GET.out va vb vc vd).1
    have cy : w.cell? ⟨g, b, none⟩ = some (.int .u32 (vb : Int)) := u32_cell hq0.1 (GET.out va vb vc vd).2.1
    have fx : w.frozen? ⟨g, a, none⟩ = false := hq0.1.fr a
    go_region
    all_goals (go_wp2_with fail; go_meet)
    all_goals refine ⟨?_, grown_drewN (grown_set0 hq0.2 a _) 1⟩
    all_goals (have h9 := (u32_arr_set hq0.1 a a1 (by rw [put4_length, HL.out]; omega)).drew; rw [put4_a hab hac had] at h9; exact h9)
  have hq1 := hcut
  go_upto_region 1 with fail
  go_cut [] (fun wx => QS w wx g l a b c d a1 vb vc d1)
  case first =>
    have cx : wc.cell? ⟨g, d, none⟩ = some (.int .u32 (vd : Int)) := u32_cell hq1.1 (GET.out a1 vb vc vd).2.2.2
    have cy : wc.cell? ⟨g, a, none⟩ = some (.int .u32 (a1 : Int)) := u32_cell hq1.1 (GET.out a1 vb vc vd).1
    have fx : wc.frozen? ⟨g, d, none⟩ = false := hq1.1.fr d
    go_region_with (go_at_call 37; refine (R1.out _).mono ?_; rintro e w9 ⟨rfl, k9, rfl⟩)
    all_goals (go_wp2_with fail; go_meet)
    all_goals refine ⟨?_, grown_set0 (grown_drewN hq1.2 _) d _⟩
    all_goals (have h8 := fun n => u32_arr_set (w := wc.drewN n) (show Arr (wc.drewN n) g _ _ from hq1.1) d d1 (by rw [put4_length, HL.out]; omega); rw [put4_d] at h8; exact h8 _)
  have hq2 := hcut
  go_upto_region 2 with fail
  go_cut [] (fun wx => QS w wx g l a b c d a1 vb c1 d1)
  case first =>
    have cx : wc.cell? ⟨g, c, none⟩ = some (.int .u32 (vc : Int)) := u32_cell hq2.1 (GET.out a1 vb vc d1).2.2.1
    have cy : wc.cell? ⟨g, d, none⟩ = some (.int .u32 (d1 : Int)) := u32_cell hq2.1 (GET.out a1 vb vc d1).2.2.2
    have fx : wc.frozen? ⟨g, c, none⟩ = false := hq2.1.fr c
    go_region
    all_goals (go_wp2_with fail; go_meet)
    all_goals refine ⟨?_, grown_drewN (grown_set0 hq2.2 c _) 1⟩
    all_goals (have h9 := (u32_arr_set hq2.1 c c1 (by rw [put4_length, HL.out]; omega)).drew; rw [put4_c hcd] at h9; exact h9)
  have hq3 := hcut
  go_upto_region 3 with fail
  go_cut [] (fun wx => QS w wx g l a b c d a1 b1 c1 d1)
  case first =>
    have cx : wc.cell? ⟨g, b, none⟩ = some (.int .u32 (vb : Int)) := u32_cell hq3.1 (GET.out a1 vb c1 d1).2.1
    have cy : wc.cell? ⟨g, c, none⟩ = some (.int .u32 (c1 : Int)) := u32_cell hq3.1 (GET.out a1 vb c1 d1).2.2.1
    have fx : wc.frozen? ⟨g, b, none⟩ = false := hq3.1.fr b
    go_region_with (go_at_call 37; refine (R2.out _).mono ?_; rintro e w9 ⟨rfl, k9, rfl⟩)
    all_goals (go_wp2_with fail; go_meet)
    all_goals refine ⟨?_, grown_set0 (grown_drewN hq3.2 _) b _⟩
    all_goals (have h8 := fun n => u32_arr_set (w := wc.drewN n) (show Arr (wc.drewN n) g _ _ from hq3.1) b b1 (by rw [put4_length, HL.out]; omega); rw [put4_b hbc hbd] at h8; exact h8 _)
  have hq4 := hcut
  go_upto_region 4 with fail
  go_cut [] (fun wx => QS w wx g l a b c d a2 b1 c1 d1)
  case first =>
    have cx : wc.cell? ⟨g, a, none⟩ = some (.int .u32 (a1 : Int)) := u32_cell hq4.1 (GET.out a1 b1 c1 d1).1
    have cy : wc.cell? ⟨g, b, none⟩ = some (.int .u32 (b1 : Int)) := u32_cell hq4.1 (GET.out a1 b1 c1 d1).2.1
    have fx : wc.frozen? ⟨g, a, none⟩ = false := hq4.1.fr a
    go_region
    all_goals (go_wp2_with fail; go_meet)
    all_goals refine ⟨?_, grown_drewN (grown_set0 hq4.2 a _) 1⟩
    all_goals (have h9 := (u32_arr_set hq4.1 a a2 (by rw [put4_length, HL.out]; omega)).drew; rw [put4_a hab hac had] at h9; exact h9)
  have hq5 := hcut
  go_upto_region 5 with fail
  go_cut [] (fun wx => QS w wx g l a b c d a2 b1 c1 d2)
  case first =>
    have cx : wc.cell? ⟨g, d, none⟩ = some (.int .u32 (d1 : Int)) := u32_cell hq5.1 (GET.out a2 b1 c1 d1).2.2.2
    have cy : wc.cell? ⟨g, a, none⟩ = some (.int .u32 (a2 : Int)) := u32_cell hq5.1 (GET.out a2 b1 c1 d1).1
    have fx : wc.frozen? ⟨g, d, none⟩ = false := hq5.1.fr d
    go_region_with (go_at_call 37; refine (R3.out _).mono ?_; rintro e w9 ⟨rfl, k9, rfl⟩)
    all_goals (go_wp2_with fail; go_meet)
    all_goals refine ⟨?_, grown_set0 (grown_drewN hq5.2 _) d _⟩
    all_goals (have h8 := fun n => u32_arr_set (w := wc.drewN n) (show Arr (wc.drewN n) g _ _ from hq5.1) d d2 (by rw [put4_length, HL.out]; omega); rw [put4_d] at h8; exact h8 _)
  have hq6 := hcut
  go_upto_region 6 with fail
  go_cut [] (fun wx => QS w wx g l a b c d a2 b1 c2 d2)
  case first =>
    have cx : wc.cell? ⟨g, c, none⟩ = some (.int .u32 (c1 : Int)) := u32_cell hq6.1 (GET.out a2 b1 c1 d2).2.2.1
    have cy : wc.cell? ⟨g, d, none⟩ = some (.int .u32 (d2 : Int)) := u32_cell hq6.1 (GET.out a2 b1 c1 d2).2.2.2
    have fx : wc.frozen? ⟨g, c, none⟩ = false := hq6.1.fr c
    go_region
    all_goals (go_wp2_with fail; go_meet)
    all_goals refine ⟨?_, grown_drewN (grown_set0 hq6.2 c _) 1⟩
    all_goals (have h9 := (u32_arr_set hq6.1 c c2 (by rw [put4_length, HL.out]; omega)).drew; rw [put4_c hcd] at h9; exact h9)
  have hq7 := hcut
  go_upto_region 7 with fail
  have cx : wc.cell? ⟨g, b, none⟩ = some (.int .u32 (b1 : Int)) := u32_cell hq7.1 (GET.out a2 b1 c2 d2).2.1
  have cy : wc.cell? ⟨g, c, none⟩ = some (.int .u32 (c2 : Int)) := u32_cell hq7.1 (GET.out a2 b1 c2 d2).2.2.1
  have fx : wc.frozen? ⟨g, b, none⟩ = false := hq7.1.fr b
  go_region_with (go_at_call 37; refine (R4.out _).mono ?_; rintro e w9 ⟨rfl, k9, rfl⟩)
  all_goals (go_wp2_with fail; go_returns)
  all_goals refine ⟨rfl, ?_, grown_set0 (grown_drewN hq7.2 _) b _⟩
  all_goals (have h8 := fun n => u32_arr_set (w := wc.drewN n) (show Arr (wc.drewN n) g _ _ from hq7.1) b b2 (by rw [put4_length, HL.out]; omega); rw [put4_b hbc hbd] at h8; exact h8 _)
end Go.Proofs.YtkocgogpbammaaaDoor

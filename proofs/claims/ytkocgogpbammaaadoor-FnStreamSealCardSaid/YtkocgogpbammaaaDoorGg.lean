/- bytes.Buffer in a block of its own or of another struct, its row named: Len, Bytes, Reset, grow, Grow, Write. Conditions: as each states. -/
import Derived.Test.YtkocgogpbammaaaDoorShelf
import Derived.Test.YtkocgogpbammaaaDoorPy
import Derived.Lib.BufferAt
import Derived.Lib.BufferWrite
import Derived.Lib.BufferGrow
import Derived.Lib.Hide
import Derived.Laws.MakeOwn
import Derived.RegionTactic
import Derived.Deep.RegionWith
import Derived.Deep.Draws
import Derived.BigQuiet
set_option linter.unusedVariables false
set_option linter.unusedSimpArgs false
namespace Go.Proofs.YtkocgogpbammaaaDoor
open Go.RowKit

def RB (w : World) (b o : Nat) (T : TypeId) (R : Nat → Option Value) (g cap l : Nat) (X : List Value) : Prop :=
  g ≠ b ∧ l ≤ cap ∧ X.length = cap ∧ cap ≤ maxLen ∧ Arr w g 5 X ∧ ∃ lr : Int, LibA.Three w b o T R (.slice (some ⟨g, 0, none⟩) l cap) (.int .i64 0) (.int .i8 lr)
def NB (w : World) (b o : Nat) (T : TypeId) (R : Nat → Option Value) : Prop := ∃ lr : Int, LibA.Three w b o T R (.slice none 0 0) (.int .i64 0) (.int .i8 lr)

theorem run_upto (w : World) (K : IntKind) (g o n c k : Nat) (hk : k ≤ c) :
    (Instr.sliceAt 23 (.slice (some ⟨g, o, none⟩) n c) none (some (.int K (k : Int))) none).run Tryd.prog w = .ok (.slice (some ⟨g, o, none⟩) k c) w := by
  rw [run_sliceAt_slice w _ _ _ _ _ bs_und, run_slice_h w _ _ _ _ bs_und K (k : Int) (by omega) (by omega)]
  simp only [bs_one, Result.andThen, sliced, Int.toNat_natCast, Nat.sub_zero]
  split <;> rfl

set_option maxRecDepth 100000 in
set_option maxHeartbeats 2000000 in
theorem blen_any (w : World) (b o : Nat) (T : TypeId) (R : Nat → Option Value) (v : Option Addr) (l c : Nat) (lr : Int) (h : LibA.Three w b o T R (.slice v l c) (.int .i64 0) (.int .i8 lr)) (hl : l ≤ maxLen) :
    Calls Tryd.prog 16 #[.pointer (some ⟨b, o, none⟩)] w fun e w' => e = .returned (.int .i64 (l : Int)) ∧ ∃ k, w' = w.drewN k := by
  have c0 := h.c0
  have c1 := h.c1
  unfold maxLen at hl
  have ew : IntKind.i64.wrap (l : Int) = (l : Int) := IntWalk.i64_in _ (by omega)
  have ew0 : IntKind.i64.wrap ((l : Int) - 0) = (l : Int) := (IntWalk.i64_in _ (by omega)).trans (by omega)
  go_enter Tryd.func16, Tryd.ntmps16
  go_wp2_with fail
  go_quiet (fail)
  go_wp2_with fail
  go_ret
  exact ⟨rfl, _, rfl⟩

set_option maxRecDepth 100000 in
set_option maxHeartbeats 2000000 in
theorem bbytes_any (w : World) (b o : Nat) (T : TypeId) (R : Nat → Option Value) (g cap l : Nat) (X : List Value) (h : RB w b o T R g cap l X) :
    Calls Tryd.prog 12 #[.pointer (some ⟨b, o, none⟩)] w fun e w' => e = .returned (.slice (some ⟨g, 0, none⟩) l cap) ∧ ∃ k, w' = w.drewN k := by
  obtain ⟨hgb, hlc, hX, hcm, hA, lr, h3⟩ := h
  have c0 := h3.c0
  have c1 := h3.c1
  have sl : ∀ W, (Instr.sliceAt 23 (.slice (some ⟨g, 0, none⟩) l cap) (some (.int .i64 0)) none none).run Tryd.prog W = .ok (.slice (some ⟨g, 0, none⟩) l cap) W := fun W => by
    have h := run_from W .i64 g 0 l cap 0 (Nat.zero_le _) hlc
    rw [show fromO 0 cap 0 = 0 by unfold fromO; split <;> rfl] at h
    exact h
  go_enter Tryd.func12, Tryd.ntmps12
  go_wp2_with fail
  go_quiet (fail)
  go_wp2_with fail
  go_ret
  exact ⟨rfl, _, rfl⟩

theorem Keeps.drew {w w1 : World} {S : Nat → Prop} (h : Keeps w w1 S) : Keeps w w1.drew S := ⟨h.os, h.tape, h.output, h.size, h.block⟩
theorem Arr.setO {w : World} {g b i : Nat} {t : TypeId} {vs : List Value} {v : Value} (h : Arr w g t vs) (hne : g ≠ b) : Arr (w.setCell ⟨b, i, none⟩ v) g t vs := h.other hne

set_option maxRecDepth 100000 in
set_option maxHeartbeats 2000000 in
theorem breset_any (w : World) (b o : Nat) (T : TypeId) (R : Nat → Option Value) (g cap l : Nat) (X : List Value) (h : RB w b o T R g cap l X) :
    Calls Tryd.prog 30 #[.pointer (some ⟨b, o, none⟩)] w fun e w' => e = .returned (.tuple #[]) ∧ RB w' b o T R g cap 0 X ∧ Keeps w w' (fun k => k = b) := by
  obtain ⟨hgb, hlc, hX, hcm, hA, lr, h3⟩ := h
  have c0 := h3.c0
  have f0 := h3.f o
  have h31 := h3.set0 (.slice (some ⟨g, 0, none⟩) 0 cap)
  have c1 := h31.c1
  have f1 := h31.f (o + 1)
  have h32 := h31.set1 (.int .i64 0)
  have c2 := h32.c2
  have f2 := h32.f (o + 2)
  have h33 := h32.set2 (.int .i8 0)
  have sl : ∀ W, (Instr.sliceAt 23 (.slice (some ⟨g, 0, none⟩) l cap) none (some (.int .i64 0)) none).run Tryd.prog W = .ok (.slice (some ⟨g, 0, none⟩) 0 cap) W := fun W => run_upto W .i64 g 0 l cap 0 (Nat.zero_le _)
  go_enter Tryd.func30, Tryd.ntmps30
  go_wp2_with fail
  go_end0
  exact ⟨rfl, ⟨hgb, Nat.zero_le _, hX, hcm, ((hA.setO hgb).setO hgb).setO hgb, 0, h33⟩, (((Keeps.refl w (fun k => k = b)).set b _ _ rfl).set b _ _ rfl).set b _ _ rfl⟩
end Go.Proofs.YtkocgogpbammaaaDoor

/- bytes.Buffer's grow and Grow, the row named. Conditions: as each states. (Printed by wip/gengg.py.) -/

namespace Go.Proofs.YtkocgogpbammaaaDoor
open Go.RowKit

set_option maxRecDepth 100000 in
set_option maxHeartbeats 12800000 in
theorem growR0 (w : World) (b o : Nat) (T : TypeId) (R : Nat → Option Value) (g cap l n : Nat) (X : List Value) (hz : ((l : Int) == 0) = true) (h : RB w b o T R g cap l X) (h1 : ∀ v ∈ X.take l, v.oneCell' = true) (hn : 1 ≤ n) (hroom : cap - l < n) (hlim : l + n ≤ 140737488355328) :
    Calls Tryd.prog 26 #[.pointer (some ⟨b, o, none⟩), .int .i64 (n : Int)] w fun e w' => e = .returned (.int .i64 (l : Int)) ∧ ∃ g' cap' X', w.heap.size ≤ g' ∧ RB w' b o T R g' cap' (l + n) X' ∧ X'.take l = X.take l ∧ Keeps w w' (fun k => k = b) := by
  obtain ⟨hgb, hlc, hX, hcm, hA, lr, h3⟩ := h
  unfold maxLen at hcm
  have hbW := h3.lt
  have hnil : ∀ W, (binOp .eql 23 (.slice (some ⟨g, 0, none⟩) l cap) (.slice none 0 0)).run Tryd.prog W = .ok (.bool false) W := fun W => Lib.run_eql_slice_some_nil W _ _ _ Tryd.underlying23
  have hc2 : cap ≤ 140737488355328 := by omega
  have hwn : IntKind.i64.wrap (n : Int) = n := IntWalk.i64_in _ (by omega)
  obtain ⟨m, hm⟩ : ∃ m, m = l + n := ⟨_, rfl⟩
  have hwm : IntKind.i64.wrap ((l : Int) + (n : Int)) = (m : Int) := (IntWalk.i64_in _ (by omega)).trans (by omega)
  obtain ⟨hf, hhf⟩ : ∃ hf : Int, hf = (cap : Int).tdiv 2 - l := ⟨_, rfl⟩
  have e2 : (cap : Int).tdiv 2 = (cap : Int) / 2 := Int.tdiv_eq_ediv_of_nonneg (by omega)
  have d1 : decide ((n : Int) ≤ hf) = false := decide_eq_false (by omega)
  have hwq : IntKind.i64.wrap ((cap : Int).tdiv 2) = (cap : Int).tdiv 2 := IntWalk.i64_in _ (by omega)
  have hwf : IntKind.i64.wrap ((cap : Int).tdiv 2 - l) = hf := (IntWalk.i64_in _ (by omega)).trans (by omega)
  obtain ⟨my, hmy⟩ : ∃ my : Int, my = 9223372036854775807 - (cap : Int) := ⟨_, rfl⟩
  obtain ⟨mx, hmx⟩ : ∃ mx : Int, mx = my - n := ⟨_, rfl⟩
  have hwx : IntKind.i64.wrap (9223372036854775807 - (cap : Int)) = my := (IntWalk.i64_in _ (by omega)).trans (by omega)
  have hwy : IntKind.i64.wrap (my - n) = mx := (IntWalk.i64_in _ (by omega)).trans (by omega)
  have d2 : decide ((cap : Int) > mx) = false := decide_eq_false (by omega)
  have d3 : decide (mx < (cap : Int)) = false := decide_eq_false (by omega)
  have h1' : ∀ v ∈ X.toArray.toList.take l, v.oneCell' = true := by simpa using h1
  have hxs : X.toArray.size = cap := by simpa using hX
  have sl : ∀ W, (Instr.sliceAt 23 (.slice (some ⟨g, 0, none⟩) l cap) (some (.int .i64 0)) none none).run Tryd.prog W = .ok (.slice (some ⟨g, 0, none⟩) l cap) W := fun W => by
    have h := run_from W .i64 g 0 l cap 0 (Nat.zero_le _) hlc
    rw [show fromO 0 cap 0 = 0 by unfold fromO; split <;> rfl] at h
    exact h
  have su : ∀ (g c m : Nat), m ≤ c → ∀ W, (Instr.sliceAt 23 (.slice (some ⟨g, 0, none⟩) l c) none (some (.int .i64 (m : Int))) none).run Tryd.prog W = .ok (.slice (some ⟨g, 0, none⟩) m c) W := fun g c m hm W => run_upto W .i64 g 0 l c m hm
  have HM := Lib.hid hm
  have HH := Lib.hid hhf
  have H1 := Lib.hid hmx
  have H2 := Lib.hid hmy
  have HSU := Lib.hid su
  clear hm hhf hmx hmy e2 su
  go_enter Tryd.func26, Tryd.ntmps26
  go_wp2_with fail
  refine (blen_any _ b o T R _ l cap lr h3 (by unfold maxLen; omega)).mono ?_
  rintro e W0 ⟨rfl, k, hW0⟩
  have q3 : LibA.Three W0 b o T R (.slice (some ⟨g, 0, none⟩) l cap) (.int .i64 0) (.int .i8 lr) := by rw [hW0]; exact h3
  have qA : Arr W0 g 5 X := by rw [hW0]; exact hA
  have hsz : W0.heap.size = w.heap.size := by rw [hW0]; rfl
  have hk0 : Keeps w W0 (fun k => k = b) := by rw [hW0]; exact (Keeps.refl w (fun k => k = b)).drewN k
  clear hW0 h3 hA
  have c0 := q3.c0
  have c1 := q3.c1
  have f0 := q3.f o
  have f1 := q3.f (o + 1)
  have HK0 := Lib.hid hk0
  have HSZ := Lib.hid hsz
  clear hk0 hsz
  go_wp2_with fail
  refine (Tryd.Buffer_tryGrow_none_at b o _ l cap n _ c0 hlc (by unfold maxLen; omega) hroom).mono ?_
  rintro e w2 ⟨rfl, rfl⟩
  have hbW := q3.lt
  go_wp2_with fail
  have mixed : Tryd.prog.follows Departure.mixedOrders = true := by kernel_rfl
  go_region_with_o (
      go_at_call 36
      refine (Tryd.bytes_growSlice_row g l cap n X.toArray _ ?_ hxs hlc hn hlim hc2 h1').mono ?_
      exact qA
      rintro e w3 ⟨cap2, cells, rfl, hN, hcsz, htk, hcap2, hcm2, hbel⟩
      have hbk2 : LibA.Three w3 b o T R (.slice (some ⟨g, 0, none⟩) l cap) (.int .i64 0) (.int .i8 lr) := q3.of_heap (hbel.block b hbW)
      have d0 : w3.cell? ⟨b, o, none⟩ = some (.slice (some ⟨g, 0, none⟩) l cap) := hbk2.c0
      have d1 : w3.cell? ⟨b, o + 1, none⟩ = some (.int .i64 0) := hbk2.c1
      have e0 : w3.frozen? ⟨b, o, none⟩ = false := hbk2.f o
      have e1 : w3.frozen? ⟨b, o + 1, none⟩ = false := hbk2.f (o + 1))
  all_goals (
    have hm2 : m ≤ cap2 := by rw [HM.out]; exact hcap2
    have su := HSU.out w2.heap.size cap2 m hm2
    have hk4 := (((hbk2.set0 (.slice (some ⟨w2.heap.size, 0, none⟩) l cap2)).set1 (.int .i64 0)).set0 (.slice (some ⟨w2.heap.size, 0, none⟩) m cap2))
    go_wp2_with fail
    go_ret
    have hlt : w2.heap.size ≠ b := by omega
    have hAN : Arr w3 w2.heap.size 5 cells.toList := by unfold Arr; simpa using hN
    refine ⟨rfl, w2.heap.size, cap2, cells.toList, by rw [HSZ.out]; exact Nat.le_refl _, ⟨hlt, by rw [← HM.out]; exact hm2, by simpa using hcsz, hcm2, ((hAN.setO hlt).setO hlt).setO hlt, lr, ?_⟩, by simpa using htk, ?_⟩
    · rw [← HM.out]; exact hk4
    · exact (((HK0.out.drew.trans (Keeps.of_below (w := w2.drew) (w1 := w3) hbel _)).set b _ _ rfl).set b _ _ rfl).set b _ _ rfl)

set_option maxRecDepth 100000 in
set_option maxHeartbeats 12800000 in
theorem growR1 (w : World) (b o : Nat) (T : TypeId) (R : Nat → Option Value) (g cap l n : Nat) (X : List Value) (hz : ((l : Int) == 0) = false) (h : RB w b o T R g cap l X) (h1 : ∀ v ∈ X.take l, v.oneCell' = true) (hn : 1 ≤ n) (hroom : cap - l < n) (hlim : l + n ≤ 140737488355328) :
    Calls Tryd.prog 26 #[.pointer (some ⟨b, o, none⟩), .int .i64 (n : Int)] w fun e w' => e = .returned (.int .i64 (l : Int)) ∧ ∃ g' cap' X', w.heap.size ≤ g' ∧ RB w' b o T R g' cap' (l + n) X' ∧ X'.take l = X.take l ∧ Keeps w w' (fun k => k = b) := by
  obtain ⟨hgb, hlc, hX, hcm, hA, lr, h3⟩ := h
  unfold maxLen at hcm
  have hbW := h3.lt
  have hnil : ∀ W, (binOp .eql 23 (.slice (some ⟨g, 0, none⟩) l cap) (.slice none 0 0)).run Tryd.prog W = .ok (.bool false) W := fun W => Lib.run_eql_slice_some_nil W _ _ _ Tryd.underlying23
  have hc2 : cap ≤ 140737488355328 := by omega
  have hwn : IntKind.i64.wrap (n : Int) = n := IntWalk.i64_in _ (by omega)
  obtain ⟨m, hm⟩ : ∃ m, m = l + n := ⟨_, rfl⟩
  have hwm : IntKind.i64.wrap ((l : Int) + (n : Int)) = (m : Int) := (IntWalk.i64_in _ (by omega)).trans (by omega)
  obtain ⟨hf, hhf⟩ : ∃ hf : Int, hf = (cap : Int).tdiv 2 - l := ⟨_, rfl⟩
  have e2 : (cap : Int).tdiv 2 = (cap : Int) / 2 := Int.tdiv_eq_ediv_of_nonneg (by omega)
  have d1 : decide ((n : Int) ≤ hf) = false := decide_eq_false (by omega)
  have hwq : IntKind.i64.wrap ((cap : Int).tdiv 2) = (cap : Int).tdiv 2 := IntWalk.i64_in _ (by omega)
  have hwf : IntKind.i64.wrap ((cap : Int).tdiv 2 - l) = hf := (IntWalk.i64_in _ (by omega)).trans (by omega)
  obtain ⟨my, hmy⟩ : ∃ my : Int, my = 9223372036854775807 - (cap : Int) := ⟨_, rfl⟩
  obtain ⟨mx, hmx⟩ : ∃ mx : Int, mx = my - n := ⟨_, rfl⟩
  have hwx : IntKind.i64.wrap (9223372036854775807 - (cap : Int)) = my := (IntWalk.i64_in _ (by omega)).trans (by omega)
  have hwy : IntKind.i64.wrap (my - n) = mx := (IntWalk.i64_in _ (by omega)).trans (by omega)
  have d2 : decide ((cap : Int) > mx) = false := decide_eq_false (by omega)
  have d3 : decide (mx < (cap : Int)) = false := decide_eq_false (by omega)
  have h1' : ∀ v ∈ X.toArray.toList.take l, v.oneCell' = true := by simpa using h1
  have hxs : X.toArray.size = cap := by simpa using hX
  have sl : ∀ W, (Instr.sliceAt 23 (.slice (some ⟨g, 0, none⟩) l cap) (some (.int .i64 0)) none none).run Tryd.prog W = .ok (.slice (some ⟨g, 0, none⟩) l cap) W := fun W => by
    have h := run_from W .i64 g 0 l cap 0 (Nat.zero_le _) hlc
    rw [show fromO 0 cap 0 = 0 by unfold fromO; split <;> rfl] at h
    exact h
  have su : ∀ (g c m : Nat), m ≤ c → ∀ W, (Instr.sliceAt 23 (.slice (some ⟨g, 0, none⟩) l c) none (some (.int .i64 (m : Int))) none).run Tryd.prog W = .ok (.slice (some ⟨g, 0, none⟩) m c) W := fun g c m hm W => run_upto W .i64 g 0 l c m hm
  have HM := Lib.hid hm
  have HH := Lib.hid hhf
  have H1 := Lib.hid hmx
  have H2 := Lib.hid hmy
  have HSU := Lib.hid su
  clear hm hhf hmx hmy e2 su
  go_enter Tryd.func26, Tryd.ntmps26
  go_wp2_with fail
  refine (blen_any _ b o T R _ l cap lr h3 (by unfold maxLen; omega)).mono ?_
  rintro e W0 ⟨rfl, k, hW0⟩
  have q3 : LibA.Three W0 b o T R (.slice (some ⟨g, 0, none⟩) l cap) (.int .i64 0) (.int .i8 lr) := by rw [hW0]; exact h3
  have qA : Arr W0 g 5 X := by rw [hW0]; exact hA
  have hsz : W0.heap.size = w.heap.size := by rw [hW0]; rfl
  have hk0 : Keeps w W0 (fun k => k = b) := by rw [hW0]; exact (Keeps.refl w (fun k => k = b)).drewN k
  clear hW0 h3 hA
  have c0 := q3.c0
  have c1 := q3.c1
  have f0 := q3.f o
  have f1 := q3.f (o + 1)
  have HK0 := Lib.hid hk0
  have HSZ := Lib.hid hsz
  clear hk0 hsz
  go_wp2_with fail
  refine (Tryd.Buffer_tryGrow_none_at b o _ l cap n _ c0 hlc (by unfold maxLen; omega) hroom).mono ?_
  rintro e w2 ⟨rfl, rfl⟩
  have hbW := q3.lt
  go_wp2_with fail
  have mixed : Tryd.prog.follows Departure.mixedOrders = true := by kernel_rfl
  go_region_with_o (
      go_at_call 36
      refine (Tryd.bytes_growSlice_row g l cap n X.toArray _ ?_ hxs hlc hn hlim hc2 h1').mono ?_
      exact qA
      rintro e w3 ⟨cap2, cells, rfl, hN, hcsz, htk, hcap2, hcm2, hbel⟩
      have hbk2 : LibA.Three w3 b o T R (.slice (some ⟨g, 0, none⟩) l cap) (.int .i64 0) (.int .i8 lr) := q3.of_heap (hbel.block b hbW)
      have d0 : w3.cell? ⟨b, o, none⟩ = some (.slice (some ⟨g, 0, none⟩) l cap) := hbk2.c0
      have d1 : w3.cell? ⟨b, o + 1, none⟩ = some (.int .i64 0) := hbk2.c1
      have e0 : w3.frozen? ⟨b, o, none⟩ = false := hbk2.f o
      have e1 : w3.frozen? ⟨b, o + 1, none⟩ = false := hbk2.f (o + 1))
  all_goals (
    have hm2 : m ≤ cap2 := by rw [HM.out]; exact hcap2
    have su := HSU.out w2.heap.size cap2 m hm2
    have hk4 := (((hbk2.set0 (.slice (some ⟨w2.heap.size, 0, none⟩) l cap2)).set1 (.int .i64 0)).set0 (.slice (some ⟨w2.heap.size, 0, none⟩) m cap2))
    go_wp2_with fail
    go_ret
    have hlt : w2.heap.size ≠ b := by omega
    have hAN : Arr w3 w2.heap.size 5 cells.toList := by unfold Arr; simpa using hN
    refine ⟨rfl, w2.heap.size, cap2, cells.toList, by rw [HSZ.out]; exact Nat.le_refl _, ⟨hlt, by rw [← HM.out]; exact hm2, by simpa using hcsz, hcm2, ((hAN.setO hlt).setO hlt).setO hlt, lr, ?_⟩, by simpa using htk, ?_⟩
    · rw [← HM.out]; exact hk4
    · exact (((HK0.out.drew.trans (Keeps.of_below (w := w2.drew) (w1 := w3) hbel _)).set b _ _ rfl).set b _ _ rfl).set b _ _ rfl)

theorem growR_any (w : World) (b o : Nat) (T : TypeId) (R : Nat → Option Value) (g cap l n : Nat) (X : List Value) (h : RB w b o T R g cap l X) (h1 : ∀ v ∈ X.take l, v.oneCell' = true) (hn : 1 ≤ n) (hroom : cap - l < n) (hlim : l + n ≤ 140737488355328) :
    Calls Tryd.prog 26 #[.pointer (some ⟨b, o, none⟩), .int .i64 (n : Int)] w fun e w' => e = .returned (.int .i64 (l : Int)) ∧ ∃ g' cap' X', w.heap.size ≤ g' ∧ RB w' b o T R g' cap' (l + n) X' ∧ X'.take l = X.take l ∧ Keeps w w' (fun k => k = b) := by
  cases hz : ((l : Int) == 0) with
  | true => exact growR0 w b o T R g cap l n X hz h h1 hn hroom hlim
  | false => exact growR1 w b o T R g cap l n X hz h h1 hn hroom hlim

set_option maxRecDepth 100000 in
set_option maxHeartbeats 12800000 in
theorem growN_small (w : World) (b o : Nat) (T : TypeId) (R : Nat → Option Value) (n : Nat) (h : NB w b o T R) (hn : 1 ≤ n) (h64 : n ≤ 64) :
    Calls Tryd.prog 26 #[.pointer (some ⟨b, o, none⟩), .int .i64 (n : Int)] w fun e w' => e = .returned (.int .i64 0) ∧ ∃ g' cap' X', w.heap.size ≤ g' ∧ RB w' b o T R g' cap' n X' ∧ Keeps w w' (fun k => k = b) := by
  obtain ⟨lr, h3⟩ := h
  have hnil : ∀ W, (binOp .eql 23 (.slice none 0 0) (.slice none 0 0)).run Tryd.prog W = .ok (.bool true) W := fun W => Lib.run_eql_slice_nil_nil W _ _ Tryd.underlying23
  have dn : decide ((n : Int) ≤ 64) = true := decide_eq_true (by omega)
  obtain ⟨i0, hi0, hz0, hz1, hz2⟩ := info_parts (P := Tryd.prog) (e := 5) (z := .int .u8 0) (size := 1) (bytes := 1) (by kernel_rfl)
  have mk : ∀ W : World, (Instr.makeSlice 23 (.int .i64 (n : Int)) (.int .i64 64)).run Tryd.prog W = .ok (.slice (some ⟨W.heap.size, 0, none⟩) n 64) (W.alloc (.cells (u8s (List.replicate 64 0)).toArray 5)) := fun W => by
    have hh := run_makeSlice (P := Tryd.prog) W 23 5 _ (.int .u8 0) Tryd.underlying23 hi0 hz0 .i64 .i64 (n : Int) 64 (by omega) (by omega) (by rw [hz1]; decide) (by rw [hz2]; decide) (by decide)
    have e1 : madeCells (Value.int .u8 0).cells ((64 : Int).toNat * i0.size) = (u8s (List.replicate 64 0)).toArray := by rw [hz1]; kernel_rfl
    rw [e1] at hh
    simpa using hh
  go_enter Tryd.func26, Tryd.ntmps26
  go_wp2_with fail
  refine (blen_any _ b o T R _ 0 0 lr h3 (by unfold maxLen; omega)).mono ?_
  rintro e W0 ⟨rfl, k, hW0⟩
  have q3 : LibA.Three W0 b o T R (.slice none 0 0) (.int .i64 0) (.int .i8 lr) := by rw [hW0]; exact h3
  have hsz : W0.heap.size = w.heap.size := by rw [hW0]; rfl
  have hk0 : Keeps w W0 (fun k => k = b) := by rw [hW0]; exact (Keeps.refl w (fun k => k = b)).drewN k
  clear hW0 h3
  have c0 := q3.c0
  have c1 := q3.c1
  have f0 := q3.f o
  have f1 := q3.f (o + 1)
  have HK0 := Lib.hid hk0
  have HSZ := Lib.hid hsz
  clear hk0 hsz
  go_wp2_with fail
  refine (Tryd.Buffer_tryGrow_none_at b o _ 0 0 n _ c0 (Nat.le_refl _) (by unfold maxLen; omega) (by omega)).mono ?_
  rintro e w2 ⟨rfl, rfl⟩
  have hbW := q3.lt
  have q4 := q3.set0 (.slice (some ⟨w2.heap.size, 0, none⟩) n 64)
  have hsz4 : (w2.setCell ⟨b, o, none⟩ (.slice (some ⟨w2.heap.size, 0, none⟩) n 64)).heap.size = w2.heap.size := by simp [World.setCell]
  have hb4 := below_alloc (w2.setCell ⟨b, o, none⟩ (.slice (some ⟨w2.heap.size, 0, none⟩) n 64)) (.cells (u8s (List.replicate 64 0)).toArray 5)
  have hN := arr_new (w2.setCell ⟨b, o, none⟩ (.slice (some ⟨w2.heap.size, 0, none⟩) n 64)) (u8s (List.replicate 64 0)) 5
  rw [hsz4] at hN
  have hk4 := q4.of_heap (hb4.block b (by rw [hsz4]; exact hbW))
  have c0a : ∀ x, (w2.alloc x).cell? ⟨b, o, none⟩ = some (.slice none 0 0) := fun x => (World.cell?_of_block (a := ⟨b, o, none⟩) (Below.heap_alloc w2 x b hbW)).trans c0
  have f0a : ∀ x, (w2.alloc x).frozen? ⟨b, o, none⟩ = false := fun x => (World.frozen?_of_block (a := ⟨b, o, none⟩) (Below.heap_alloc w2 x b hbW)).trans f0
  go_wp2_with fail
  go_ret
  have hlt : w2.heap.size ≠ b := by omega
  exact ⟨rfl, w2.heap.size, 64, u8s (List.replicate 64 0), by rw [HSZ.out]; exact Nat.le_refl _, ⟨hlt, h64, by simp, by unfold maxLen; omega, hN, lr, hk4⟩, (HK0.out.set b _ _ rfl).trans (Keeps.of_below hb4 _)⟩

set_option maxRecDepth 100000 in
set_option maxHeartbeats 12800000 in
theorem growN_big (w : World) (b o : Nat) (T : TypeId) (R : Nat → Option Value) (n : Nat) (h : NB w b o T R) (h64 : 64 < n) (hlim : n ≤ 140737488355328) :
    Calls Tryd.prog 26 #[.pointer (some ⟨b, o, none⟩), .int .i64 (n : Int)] w fun e w' => e = .returned (.int .i64 0) ∧ ∃ g' cap' X', w.heap.size ≤ g' ∧ RB w' b o T R g' cap' n X' ∧ Keeps w w' (fun k => k = b) := by
  obtain ⟨lr, h3⟩ := h
  have hnil : ∀ W, (binOp .eql 23 (.slice none 0 0) (.slice none 0 0)).run Tryd.prog W = .ok (.bool true) W := fun W => Lib.run_eql_slice_nil_nil W _ _ Tryd.underlying23
  have dn : decide ((n : Int) ≤ 64) = false := decide_eq_false (by omega)
  have dn0 : decide ((n : Int) ≤ 0) = false := decide_eq_false (by omega)
  have hwn : IntKind.i64.wrap (n : Int) = n := IntWalk.i64_in _ (by omega)
  obtain ⟨mx, hmx⟩ : ∃ mx : Int, mx = 9223372036854775807 - n := ⟨_, rfl⟩
  have hwy : IntKind.i64.wrap (9223372036854775807 - n) = mx := (IntWalk.i64_in _ (by omega)).trans (by omega)
  have d2 : decide (0 > mx) = false := decide_eq_false (by omega)
  have d3 : decide (mx < 0) = false := decide_eq_false (by omega)
  have su : ∀ (g c m : Nat), m ≤ c → ∀ W, (Instr.sliceAt 23 (.slice (some ⟨g, 0, none⟩) 0 c) none (some (.int .i64 (m : Int))) none).run Tryd.prog W = .ok (.slice (some ⟨g, 0, none⟩) m c) W := fun g c m hm W => run_upto W .i64 g 0 0 c m hm
  have H1 := Lib.hid hmx
  have HSU := Lib.hid su
  clear hmx su
  go_enter Tryd.func26, Tryd.ntmps26
  go_wp2_with fail
  refine (blen_any _ b o T R _ 0 0 lr h3 (by unfold maxLen; omega)).mono ?_
  rintro e W0 ⟨rfl, k, hW0⟩
  have q3 : LibA.Three W0 b o T R (.slice none 0 0) (.int .i64 0) (.int .i8 lr) := by rw [hW0]; exact h3
  have hsz : W0.heap.size = w.heap.size := by rw [hW0]; rfl
  have hk0 : Keeps w W0 (fun k => k = b) := by rw [hW0]; exact (Keeps.refl w (fun k => k = b)).drewN k
  clear hW0 h3
  have c0 := q3.c0
  have c1 := q3.c1
  have f0 := q3.f o
  have f1 := q3.f (o + 1)
  have HK0 := Lib.hid hk0
  have HSZ := Lib.hid hsz
  clear hk0 hsz
  go_wp2_with fail
  refine (Tryd.Buffer_tryGrow_none_at b o _ 0 0 n _ c0 (Nat.le_refl _) (by unfold maxLen; omega) (by omega)).mono ?_
  rintro e w2 ⟨rfl, rfl⟩
  have hbW := q3.lt
  go_wp2_with fail
  have mixed : Tryd.prog.follows Departure.mixedOrders = true := by kernel_rfl
  go_region_with_o (
      go_at_call 36
      refine (Tryd.bytes_growSlice_nil n _ (by omega) hlim).mono ?_
      rintro e w3 ⟨cap2, cells, rfl, hN, hcsz, hcap2, hcm2, hbel⟩
      have hbk2 : LibA.Three w3 b o T R (.slice none 0 0) (.int .i64 0) (.int .i8 lr) := q3.of_heap (hbel.block b hbW)
      have d0 : w3.cell? ⟨b, o, none⟩ = some (.slice none 0 0) := hbk2.c0
      have d1 : w3.cell? ⟨b, o + 1, none⟩ = some (.int .i64 0) := hbk2.c1
      have e0 : w3.frozen? ⟨b, o, none⟩ = false := hbk2.f o
      have e1 : w3.frozen? ⟨b, o + 1, none⟩ = false := hbk2.f (o + 1))
  all_goals (
    have su := HSU.out w2.heap.size cap2 n hcap2
    have hk4 := (((hbk2.set0 (.slice (some ⟨w2.heap.size, 0, none⟩) 0 cap2)).set1 (.int .i64 0)).set0 (.slice (some ⟨w2.heap.size, 0, none⟩) n cap2))
    go_wp2_with fail
    go_ret
    have hlt : w2.heap.size ≠ b := by omega
    have hAN : Arr w3 w2.heap.size 5 cells.toList := by unfold Arr; simpa using hN
    refine ⟨rfl, w2.heap.size, cap2, cells.toList, by rw [HSZ.out]; exact Nat.le_refl _, ⟨hlt, hcap2, by simpa using hcsz, hcm2, ((hAN.setO hlt).setO hlt).setO hlt, lr, hk4⟩, ?_⟩
    exact (((HK0.out.drew.trans (Keeps.of_below (w := w2.drew) (w1 := w3) hbel _)).set b _ _ rfl).set b _ _ rfl).set b _ _ rfl)

theorem growN_any (w : World) (b o : Nat) (T : TypeId) (R : Nat → Option Value) (n : Nat) (h : NB w b o T R) (hn : 1 ≤ n) (hlim : n ≤ 140737488355328) :
    Calls Tryd.prog 26 #[.pointer (some ⟨b, o, none⟩), .int .i64 (n : Int)] w fun e w' => e = .returned (.int .i64 0) ∧ ∃ g' cap' X', w.heap.size ≤ g' ∧ RB w' b o T R g' cap' n X' ∧ Keeps w w' (fun k => k = b) := by
  by_cases h64 : n ≤ 64
  · exact growN_small w b o T R n h hn h64
  · exact growN_big w b o T R n h (by omega) hlim
end Go.Proofs.YtkocgogpbammaaaDoor

/- The cipher's SetCounter (from 1 to 1) and an empty text. Conditions: as each states. -/
import Derived.Test.YtkocgogpbammaaaDoorCi
set_option linter.unusedVariables false
set_option linter.unusedSimpArgs false
namespace Go.Proofs.YtkocgogpbammaaaDoor
open Go.RowKit

set_option maxRecDepth 100000 in
set_option maxHeartbeats 2000000 in
theorem setCtr_any (w : World) (gc : Nat) (kw nw ps : List Nat) (buf : List UInt8) (len : Nat) (pd : Bool) (hk : kw.length = 8) (hn : nw.length = 3) (hb : buf.length = 64) (hl : len < 64)
    (hA : Arr w gc 123 (cphC kw 1 nw buf len pd ps)) :
    Calls Tryd.prog 63 #[.pointer (some ⟨gc, 0, none⟩), .int .u32 1] w fun e w' => e = .returned (.tuple #[]) ∧
      Arr w' gc 123 (cphC kw 1 nw buf 0 pd ps) ∧ w.grownBy w' (some gc) := by
  have c8 := hA.cellE (cph_cnt kw nw ps 1 len pd buf hk)
  have c76 := hA.cellE (cph_tail kw nw ps 1 len pd buf hk hn hb 0 _ rfl)
  have c77 := hA.cellE (cph_tail kw nw ps 1 len pd buf hk hn hb 1 _ rfl)
  have f8 := hA.fr 8
  have f76 := hA.fr 76
  have f77 := hA.fr 77
  simp only [Nat.add_zero, Nat.reduceAdd, Int.natCast_one] at c8 c76 c77
  have hlen := cph_length kw nw ps 1 len pd buf hk hn hb
  have eq0 : (len : Int).tdiv 64 = 0 := by rw [Int.tdiv_eq_ediv_of_nonneg (by omega)]; omega
  have ec : IntKind.u32.wrap (len : Int) = (len : Int) := IntWalk.u32_in _ (by omega)
  have hA1 := hA.set 8 (.int .u32 (1 : Nat)) (by rw [hlen]; omega)
  rw [cph_setCnt kw nw ps 1 len pd buf hk] at hA1
  have hg1 := grown_set0 (World.grownBy.refl w (some gc)) 8 (.int .u32 (1 : Nat))
  have hA2 := hA1.set 76 (.int .i64 (0 : Nat)) (by rw [hlen]; omega)
  rw [cph_setLen kw nw ps 1 len pd buf hk hn hb] at hA2
  have hg2 := grown_set0 hg1 76 (.int .i64 (0 : Nat))
  have g76 := hA1.fr 76
  have d76 := hA1.cellE (cph_tail kw nw ps 1 len pd buf hk hn hb 0 _ rfl)
  simp only [Int.natCast_zero, Int.natCast_one, Nat.add_zero] at hA1 hg1 hA2 hg2 g76 d76
  go_enter Tryd.func63, Tryd.ntmps63
  go_wp2_with fail
  go_region
  go_wp2_with fail
  go_end0
  exact ⟨rfl, hA2, grown_drewN hg2 1⟩

set_option maxRecDepth 100000 in
set_option maxHeartbeats 2000000 in
theorem xks0_any (w : World) (p d : Value) (q : Option Addr) (c : Nat) :
    Calls Tryd.prog 62 #[p, d, .slice q 0 c] w fun e w' => e = .returned (.tuple #[]) ∧ w' = w := by
  go_enter Tryd.func62, Tryd.ntmps62
  go_wp2_with fail
  refine bodyPost_ret (results_none rfl _ _ _) rfl ?_
  exact ⟨rfl, rfl⟩
end Go.Proofs.YtkocgogpbammaaaDoor

/- sliceForAppend on an empty slice that has room. Conditions: room. -/

namespace Go.Proofs.YtkocgogpbammaaaDoor
open Go.RowKit

set_option maxRecDepth 100000 in
set_option maxHeartbeats 2000000 in
theorem sfa_any (w : World) (g o m c : Nat) (hm : m ≤ c) (hc : c ≤ 9223372036854775807) :
    Calls Tryd.prog 60 #[.slice (some ⟨g, o, none⟩) 0 c, .int .i64 (m : Int)] w fun e w' => e = .returned (.tuple #[.slice (some ⟨g, o, none⟩) m c, .slice (some ⟨g, o, none⟩) m c]) ∧ w' = w := by
  have i1 : (m : Int) ≤ (c : Int) := by omega
  have i0 : (0 : Int) ≤ (m : Int) := by omega
  have d1 : decide ((c : Int) ≥ (m : Int)) = true := decide_eq_true (by omega)
  have d2 : decide (m ≤ c) = true := decide_eq_true hm
  have em : IntKind.i64.wrap (m : Int) = (m : Int) := IntWalk.i64_in _ (by omega)
  have sl : ∀ W, (Instr.sliceAt 23 (.slice (some ⟨g, o, none⟩) m c) (some (.int .i64 0)) none none).run Tryd.prog W = .ok (.slice (some ⟨g, o, none⟩) m c) W := fun W => by
    have h := run_from W .i64 g o m c 0 (Nat.zero_le _) hm
    rw [show fromO o c 0 = o by unfold fromO; split <;> rfl] at h
    exact h
  go_enter Tryd.func60, Tryd.ntmps60
  go_wp2_with fail
  go_ret2
  exact ⟨rfl, rfl⟩
end Go.Proofs.YtkocgogpbammaaaDoor

/- The stream writer's nonce: its last flag, its count. Conditions: a count below 255. -/

namespace Go.Proofs.YtkocgogpbammaaaDoor
open Go.RowKit

set_option maxRecDepth 100000 in
set_option maxHeartbeats 2000000 in
theorem slf_any (w : World) (g o : Nat) (t : TypeId) (vs : List Value) (hA : Arr w g t vs) (b : Nat) (hb : vs[o + 11]? = some (.int .u8 b)) :
    Calls Tryd.prog 27 #[.pointer (some ⟨g, o, none⟩)] w fun e w' => e = .returned (.tuple #[]) ∧
      Arr w' g t (vs.set (o + 11) (.int .u8 1)) ∧ w.grownBy w' (some g) := by
  have c := hA.cellE hb
  have f := hA.fr (o + 11)
  have hs := hA.set (o + 11) (.int .u8 1) (List.getElem?_eq_some_iff.1 hb).1
  have hg := grown_set0 (World.grownBy.refl w (some g)) (o + 11) (.int .u8 1)
  go_enter Tryd.func27, Tryd.ntmps27
  go_wp2_with fail
  go_end0
  exact ⟨rfl, hs, hg⟩
set_option maxRecDepth 100000 in
set_option maxHeartbeats 2000000 in
theorem incN_any (w : World) (g o : Nat) (t : TypeId) (vs : List Value) (hA : Arr w g t vs) (b : Nat) (hb : vs[o + 10]? = some (.int .u8 (b : Int))) (hlt : b < 255) :
    Calls Tryd.prog 29 #[.pointer (some ⟨g, o, none⟩)] w fun e w' => e = .returned (.tuple #[]) ∧
      Arr w' g t (vs.set (o + 10) (.int .u8 ((b + 1 : Nat) : Int))) ∧ w.grownBy w' (some g) := by
  have hl := (List.getElem?_eq_some_iff.1 hb).1
  have c := hA.cellE hb
  have f := hA.fr (o + 10)
  obtain ⟨b1, hb1⟩ : ∃ x, x = b + 1 := ⟨_, rfl⟩
  have ew : IntKind.u8.wrap ((b : Int) + 1) = (b1 : Int) := (IntWalk.u8_in _ (by omega)).trans (by omega)
  have dn : ((b1 : Int) == 0) = false := by simp; omega
  have dn2 : ((b1 : Int) != 0) = true := by simp; omega
  have hs := hA.set (o + 10) (.int .u8 (b1 : Int)) hl
  have hg := grown_drewN (grown_set0 (World.grownBy.refl w (some g)) (o + 10) (.int .u8 (b1 : Int))) 1
  have c2 := hs.cellE (k := o + 10) (v := .int .u8 (b1 : Int)) (by simp [hl])
  rw [← hb1]
  clear hb1
  go_enter Tryd.func29, Tryd.ntmps29
  go_wp2_with fail
  go_loopw [2] (fun iv wr => iv = .int .i64 10 ∧ wr = w) (fun _ _ => 0)
  case atStart => exact ⟨rfl, rfl⟩
  case round =>
    obtain ⟨rfl, rfl⟩ := hrel
    go_wp2_with fail
    go_region
    go_wp2_with fail
    refine bodyPost_ret (results_none rfl _ _ _) rfl ?_
    exact ⟨rfl, hs, hg⟩
end Go.Proofs.YtkocgogpbammaaaDoor

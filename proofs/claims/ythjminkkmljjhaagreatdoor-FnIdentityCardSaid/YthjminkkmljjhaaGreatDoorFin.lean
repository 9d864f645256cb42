/- Element.Invert: the power by the prime less two. (Printed by wip/genfin.py.) -/
import Derived.Test.YthjminkkmljjhaaGreatDoorFop
namespace Go.Proofs.YthjminkkmljjhaaGreatDoor
open Go.RowKit

theorem below_then {w w1 w2 : World} {v : Nat} (hb : Below w.heap.size w w1) (hg : w1.grownBy w2 (some v)) : w.grownBy w2 (some v) :=
  ⟨hg.os.trans hb.os, hg.tape.trans hb.tape, hg.output.trans hb.output, Nat.le_trans hb.size hg.size, fun k hk hne => (hg.block k (Nat.lt_of_lt_of_le hk hb.size) hne).trans (hb.block k hk)⟩
abbrev objE : Obj := .cells (L5.cells ⟨0, 0, 0, 0, 0⟩) 109
theorem fe_new (w : World) : FeB (w.alloc objE) w.heap.size := ⟨⟨0, 0, 0, 0, 0⟩, heap_alloc_new w _⟩
theorem Lad.nil (w : World) (B : Nat) : Lad w B [] := fun i h => absurd h (by simp)
theorem Lad.snoc {w w' : World} {B : Nat} {l : List (Option Nat)} (h : Lad w B l) (hb : Below w.heap.size w w') (hn : FeB w' (B + l.length)) : Lad w' B (l ++ [none]) := by
  intro i hi
  by_cases hl : i < l.length
  · rw [List.getElem_append_left hl]; exact (h i hl).below hb
  · have : i = l.length := by simp at hi; omega
    subst this
    rw [List.getElem_append_right (Nat.le_refl _)]
    have e : [none][l.length - l.length]'(by simp) = (none : Option Nat) := by simp
    rw [e]; exact hn
theorem Lad.more {w : World} {B : Nat} {l : List (Option Nat)} (h : Lad w B l) (hB : w.heap.size = B + l.length) : Lad (w.alloc objE) B (l ++ [none]) ∧ (w.alloc objE).heap.size = B + (l ++ [none]).length := by
  refine ⟨h.snoc (below_alloc _ _) ?_, by simp [hB]; omega⟩
  rw [← hB]; exact fe_new w

set_option maxRecDepth 100000 in
set_option maxHeartbeats 2000000 in
theorem invert_M (w : World) (v z m : Nat) (hv : FeB w v) (hz : FeM w z m) :
    Calls Tryz.prog 79 #[.pointer (some ⟨v, 0, none⟩), .pointer (some ⟨z, 0, none⟩)] w fun e w' => e = .returned (.pointer (some ⟨v, 0, none⟩)) ∧ FeM w' v (invm m) ∧ w.grownBy w' (some v) := by
  have hm := hz.mod
  have hlv := hv.lt
  have hlz := hz.lt
  have a1 := Lad.more (Lad.nil w w.heap.size) (by simp)
  have a2 := Lad.more a1.1 a1.2
  have a3 := Lad.more a2.1 a2.2
  have a4 := Lad.more a3.1 a3.2
  have a5 := Lad.more a4.1 a4.2
  obtain ⟨hL, hsz⟩ := a5
  obtain ⟨w0, hw0⟩ : ∃ x, x = (((((w.alloc objE).alloc objE).alloc objE).alloc objE).alloc objE) := ⟨_, rfl⟩
  have hb : Below w.heap.size w w0 := by
    rw [hw0]
    exact Below.alloc (Below.alloc (Below.alloc (Below.alloc (below_alloc _ _) (below_alloc _ _).size _) (by simp; omega) _) (by simp; omega) _) (by simp; omega) _
  rw [← hw0] at hL
  have hL : Lad w0 w.heap.size [none, none, none, none, none] := hL
  have hz : FeM w0 z (pw m 1) := by rw [pw_one hm]; exact hz.below hb
  have hv := hv.below hb
  clear a1 a2 a3 a4 hsz
  go_enter Tryz.func79, Tryz.ntmps79
  go_upto_region 2 with fail
  show Code.wp _ _ _ _ (((((w.alloc objE).alloc objE).alloc objE).alloc objE).alloc objE)
  rw [← hw0]
  clear hw0
  go_wp2_with fail
  refine (sq_M _ (w.heap.size + 2) z (pw m 1) (hL.b 2 (by simp)) hz).mono ?_
  rintro e w1 ⟨rfl, h1, g1⟩
  rw [((mulm_pw m 1 1).trans (congrArg (pw m) (by decide : 1 + 1 = 2)))] at h1
  have hL : Lad w1 w.heap.size [none, none, some (pw m 2), none, none] := hL.step 2 _ h1 g1
  have hz := hz.kept g1 (by omega)
  have hv := hv.kept g1 (by omega)
  have hb := bkept hb g1 (by omega) hb.size
  clear h1 g1
  go_wp2_with fail
  refine (sq_M _ (w.heap.size + 4) (w.heap.size + 2) (pw m 2) (hL.b 4 (by simp)) (hL.m 2 _ rfl)).mono ?_
  rintro e w2 ⟨rfl, h1, g1⟩
  rw [((mulm_pw m 2 2).trans (congrArg (pw m) (by decide : 2 + 2 = 4)))] at h1
  have hL : Lad w2 w.heap.size [none, none, some (pw m 2), none, some (pw m 4)] := hL.step 4 _ h1 g1
  have hz := hz.kept g1 (by omega)
  have hv := hv.kept g1 (by omega)
  have hb := bkept hb g1 (by omega) hb.size
  clear h1 g1
  go_wp2_with fail
  refine (sq_M _ (w.heap.size + 4) (w.heap.size + 4) (pw m 4) (hL.b 4 (by simp)) (hL.m 4 _ rfl)).mono ?_
  rintro e w3 ⟨rfl, h1, g1⟩
  rw [((mulm_pw m 4 4).trans (congrArg (pw m) (by decide : 4 + 4 = 8)))] at h1
  have hL : Lad w3 w.heap.size [none, none, some (pw m 2), none, some (pw m 8)] := hL.step 4 _ h1 g1
  have hz := hz.kept g1 (by omega)
  have hv := hv.kept g1 (by omega)
  have hb := bkept hb g1 (by omega) hb.size
  clear h1 g1
  go_wp2_with fail
  refine (mul_M _ (w.heap.size + 3) (w.heap.size + 4) z (pw m 8) (pw m 1) (hL.b 3 (by simp)) (hL.m 4 _ rfl) hz).mono ?_
  rintro e w4 ⟨rfl, h1, g1⟩
  rw [((mulm_pw m 8 1).trans (congrArg (pw m) (by decide : 8 + 1 = 9)))] at h1
  have hL : Lad w4 w.heap.size [none, none, some (pw m 2), some (pw m 9), some (pw m 8)] := hL.step 3 _ h1 g1
  have hz := hz.kept g1 (by omega)
  have hv := hv.kept g1 (by omega)
  have hb := bkept hb g1 (by omega) hb.size
  clear h1 g1
  go_wp2_with fail
  refine (mul_M _ (w.heap.size + 0) (w.heap.size + 3) (w.heap.size + 2) (pw m 9) (pw m 2) (hL.b 0 (by simp)) (hL.m 3 _ rfl) (hL.m 2 _ rfl)).mono ?_
  rintro e w5 ⟨rfl, h1, g1⟩
  rw [((mulm_pw m 9 2).trans (congrArg (pw m) (by decide : 9 + 2 = 11)))] at h1
  have hL : Lad w5 w.heap.size [some (pw m 11), none, some (pw m 2), some (pw m 9), some (pw m 8)] := hL.step 0 _ h1 g1
  have hz := hz.kept g1 (by omega)
  have hv := hv.kept g1 (by omega)
  have hb := bkept hb g1 (by omega) hb.size
  clear h1 g1
  go_wp2_with fail
  refine (sq_M _ (w.heap.size + 4) (w.heap.size + 0) (pw m 11) (hL.b 4 (by simp)) (hL.m 0 _ rfl)).mono ?_
  rintro e w6 ⟨rfl, h1, g1⟩
  rw [((mulm_pw m 11 11).trans (congrArg (pw m) (by decide : 11 + 11 = 22)))] at h1
  have hL : Lad w6 w.heap.size [some (pw m 11), none, some (pw m 2), some (pw m 9), some (pw m 22)] := hL.step 4 _ h1 g1
  have hz := hz.kept g1 (by omega)
  have hv := hv.kept g1 (by omega)
  have hb := bkept hb g1 (by omega) hb.size
  clear h1 g1
  go_wp2_with fail
  refine (mul_M _ (w.heap.size + 1) (w.heap.size + 4) (w.heap.size + 3) (pw m 22) (pw m 9) (hL.b 1 (by simp)) (hL.m 4 _ rfl) (hL.m 3 _ rfl)).mono ?_
  rintro e w7 ⟨rfl, h1, g1⟩
  rw [((mulm_pw m 22 9).trans (congrArg (pw m) (by decide : 22 + 9 = 31)))] at h1
  have hL : Lad w7 w.heap.size [some (pw m 11), some (pw m 31), some (pw m 2), some (pw m 9), some (pw m 22)] := hL.step 1 _ h1 g1
  have hz := hz.kept g1 (by omega)
  have hv := hv.kept g1 (by omega)
  have hb := bkept hb g1 (by omega) hb.size
  clear h1 g1
  go_wp2_with fail
  refine (sqn_M _ (w.heap.size + 4) (w.heap.size + 1) (pw m 31) 5 (by decide) (hL.b 4 (by simp)) (hL.m 1 _ rfl)).mono ?_
  rintro e w8 ⟨rfl, h1, g1⟩
  rw [((sqm_pw 5 m 31).trans (congrArg (pw m) (by decide : 31 * 2 ^ 5 = 992)))] at h1
  have hL : Lad w8 w.heap.size [some (pw m 11), some (pw m 31), some (pw m 2), some (pw m 9), some (pw m 992)] := hL.step 4 _ h1 g1
  have hz := hz.kept g1 (by omega)
  have hv := hv.kept g1 (by omega)
  have hb := bkept hb g1 (by omega) hb.size
  clear h1 g1
  go_wp2_with fail
  refine (mul_M _ (w.heap.size + 3) (w.heap.size + 4) (w.heap.size + 1) (pw m 992) (pw m 31) (hL.b 3 (by simp)) (hL.m 4 _ rfl) (hL.m 1 _ rfl)).mono ?_
  rintro e w9 ⟨rfl, h1, g1⟩
  rw [((mulm_pw m 992 31).trans (congrArg (pw m) (by decide : 992 + 31 = 1023)))] at h1
  have hL : Lad w9 w.heap.size [some (pw m 11), some (pw m 31), some (pw m 2), some (pw m 1023), some (pw m 992)] := hL.step 3 _ h1 g1
  have hz := hz.kept g1 (by omega)
  have hv := hv.kept g1 (by omega)
  have hb := bkept hb g1 (by omega) hb.size
  clear h1 g1
  go_wp2_with fail
  refine (sqn_M _ (w.heap.size + 4) (w.heap.size + 3) (pw m 1023) 5 (by decide) (hL.b 4 (by simp)) (hL.m 3 _ rfl)).mono ?_
  rintro e w10 ⟨rfl, h1, g1⟩
  rw [((sqm_pw 5 m 1023).trans (congrArg (pw m) (by decide : 1023 * 2 ^ 5 = 32736)))] at h1
  have hL : Lad w10 w.heap.size [some (pw m 11), some (pw m 31), some (pw m 2), some (pw m 1023), some (pw m 32736)] := hL.step 4 _ h1 g1
  have hz := hz.kept g1 (by omega)
  have hv := hv.kept g1 (by omega)
  have hb := bkept hb g1 (by omega) hb.size
  clear h1 g1
  go_wp2_with fail
  refine (mul_M _ (w.heap.size + 1) (w.heap.size + 4) (w.heap.size + 1) (pw m 32736) (pw m 31) (hL.b 1 (by simp)) (hL.m 4 _ rfl) (hL.m 1 _ rfl)).mono ?_
  rintro e w11 ⟨rfl, h1, g1⟩
  rw [((mulm_pw m 32736 31).trans (congrArg (pw m) (by decide : 32736 + 31 = 32767)))] at h1
  have hL : Lad w11 w.heap.size [some (pw m 11), some (pw m 32767), some (pw m 2), some (pw m 1023), some (pw m 32736)] := hL.step 1 _ h1 g1
  have hz := hz.kept g1 (by omega)
  have hv := hv.kept g1 (by omega)
  have hb := bkept hb g1 (by omega) hb.size
  clear h1 g1
  go_wp2_with fail
  refine (sqn_M _ (w.heap.size + 4) (w.heap.size + 1) (pw m 32767) 15 (by decide) (hL.b 4 (by simp)) (hL.m 1 _ rfl)).mono ?_
  rintro e w12 ⟨rfl, h1, g1⟩
  rw [((sqm_pw 15 m 32767).trans (congrArg (pw m) (by decide : 32767 * 2 ^ 15 = 1073709056)))] at h1
  have hL : Lad w12 w.heap.size [some (pw m 11), some (pw m 32767), some (pw m 2), some (pw m 1023), some (pw m 1073709056)] := hL.step 4 _ h1 g1
  have hz := hz.kept g1 (by omega)
  have hv := hv.kept g1 (by omega)
  have hb := bkept hb g1 (by omega) hb.size
  clear h1 g1
  go_wp2_with fail
  refine (mul_M _ (w.heap.size + 2) (w.heap.size + 4) (w.heap.size + 1) (pw m 1073709056) (pw m 32767) (hL.b 2 (by simp)) (hL.m 4 _ rfl) (hL.m 1 _ rfl)).mono ?_
  rintro e w13 ⟨rfl, h1, g1⟩
  rw [((mulm_pw m 1073709056 32767).trans (congrArg (pw m) (by decide : 1073709056 + 32767 = 1073741823)))] at h1
  have hL : Lad w13 w.heap.size [some (pw m 11), some (pw m 32767), some (pw m 1073741823), some (pw m 1023), some (pw m 1073709056)] := hL.step 2 _ h1 g1
  have hz := hz.kept g1 (by omega)
  have hv := hv.kept g1 (by omega)
  have hb := bkept hb g1 (by omega) hb.size
  clear h1 g1
  go_wp2_with fail
  refine (sqn_M _ (w.heap.size + 4) (w.heap.size + 2) (pw m 1073741823) 30 (by decide) (hL.b 4 (by simp)) (hL.m 2 _ rfl)).mono ?_
  rintro e w14 ⟨rfl, h1, g1⟩
  rw [((sqm_pw 30 m 1073741823).trans (congrArg (pw m) (by decide : 1073741823 * 2 ^ 30 = 1152921503533105152)))] at h1
  have hL : Lad w14 w.heap.size [some (pw m 11), some (pw m 32767), some (pw m 1073741823), some (pw m 1023), some (pw m 1152921503533105152)] := hL.step 4 _ h1 g1
  have hz := hz.kept g1 (by omega)
  have hv := hv.kept g1 (by omega)
  have hb := bkept hb g1 (by omega) hb.size
  clear h1 g1
  go_wp2_with fail
  refine (mul_M _ (w.heap.size + 1) (w.heap.size + 4) (w.heap.size + 2) (pw m 1152921503533105152) (pw m 1073741823) (hL.b 1 (by simp)) (hL.m 4 _ rfl) (hL.m 2 _ rfl)).mono ?_
  rintro e w15 ⟨rfl, h1, g1⟩
  rw [((mulm_pw m 1152921503533105152 1073741823).trans (congrArg (pw m) (by decide : 1152921503533105152 + 1073741823 = 1152921504606846975)))] at h1
  have hL : Lad w15 w.heap.size [some (pw m 11), some (pw m 1152921504606846975), some (pw m 1073741823), some (pw m 1023), some (pw m 1152921503533105152)] := hL.step 1 _ h1 g1
  have hz := hz.kept g1 (by omega)
  have hv := hv.kept g1 (by omega)
  have hb := bkept hb g1 (by omega) hb.size
  clear h1 g1
  go_wp2_with fail
  refine (sqn_M _ (w.heap.size + 4) (w.heap.size + 1) (pw m 1152921504606846975) 60 (by decide) (hL.b 4 (by simp)) (hL.m 1 _ rfl)).mono ?_
  rintro e w16 ⟨rfl, h1, g1⟩
  rw [((sqm_pw 60 m 1152921504606846975).trans (congrArg (pw m) (by decide : 1152921504606846975 * 2 ^ 60 = 1329227995784915871750885555673497600)))] at h1
  have hL : Lad w16 w.heap.size [some (pw m 11), some (pw m 1152921504606846975), some (pw m 1073741823), some (pw m 1023), some (pw m 1329227995784915871750885555673497600)] := hL.step 4 _ h1 g1
  have hz := hz.kept g1 (by omega)
  have hv := hv.kept g1 (by omega)
  have hb := bkept hb g1 (by omega) hb.size
  clear h1 g1
  go_wp2_with fail
  refine (mul_M _ (w.heap.size + 2) (w.heap.size + 4) (w.heap.size + 1) (pw m 1329227995784915871750885555673497600) (pw m 1152921504606846975) (hL.b 2 (by simp)) (hL.m 4 _ rfl) (hL.m 1 _ rfl)).mono ?_
  rintro e w17 ⟨rfl, h1, g1⟩
  rw [((mulm_pw m 1329227995784915871750885555673497600 1152921504606846975).trans (congrArg (pw m) (by decide : 1329227995784915871750885555673497600 + 1152921504606846975 = 1329227995784915872903807060280344575)))] at h1
  have hL : Lad w17 w.heap.size [some (pw m 11), some (pw m 1152921504606846975), some (pw m 1329227995784915872903807060280344575), some (pw m 1023), some (pw m 1329227995784915871750885555673497600)] := hL.step 2 _ h1 g1
  have hz := hz.kept g1 (by omega)
  have hv := hv.kept g1 (by omega)
  have hb := bkept hb g1 (by omega) hb.size
  clear h1 g1
  go_wp2_with fail
  refine (sqn_M _ (w.heap.size + 4) (w.heap.size + 2) (pw m 1329227995784915872903807060280344575) 120 (by decide) (hL.b 4 (by simp)) (hL.m 2 _ rfl)).mono ?_
  rintro e w18 ⟨rfl, h1, g1⟩
  rw [((sqm_pw 120 m 1329227995784915872903807060280344575).trans (congrArg (pw m) (by decide : 1329227995784915872903807060280344575 * 2 ^ 120 = 1766847064778384329583297500742918514498255901090703085217799141012275200)))] at h1
  have hL : Lad w18 w.heap.size [some (pw m 11), some (pw m 1152921504606846975), some (pw m 1329227995784915872903807060280344575), some (pw m 1023), some (pw m 1766847064778384329583297500742918514498255901090703085217799141012275200)] := hL.step 4 _ h1 g1
  have hz := hz.kept g1 (by omega)
  have hv := hv.kept g1 (by omega)
  have hb := bkept hb g1 (by omega) hb.size
  clear h1 g1
  go_wp2_with fail
  refine (mul_M _ (w.heap.size + 4) (w.heap.size + 4) (w.heap.size + 2) (pw m 1766847064778384329583297500742918514498255901090703085217799141012275200) (pw m 1329227995784915872903807060280344575) (hL.b 4 (by simp)) (hL.m 4 _ rfl) (hL.m 2 _ rfl)).mono ?_
  rintro e w19 ⟨rfl, h1, g1⟩
  rw [((mulm_pw m 1766847064778384329583297500742918514498255901090703085217799141012275200 1329227995784915872903807060280344575).trans (congrArg (pw m) (by decide : 1766847064778384329583297500742918514498255901090703085217799141012275200 + 1329227995784915872903807060280344575 = 1766847064778384329583297500742918515827483896875618958121606201292619775)))] at h1
  have hL : Lad w19 w.heap.size [some (pw m 11), some (pw m 1152921504606846975), some (pw m 1329227995784915872903807060280344575), some (pw m 1023), some (pw m 1766847064778384329583297500742918515827483896875618958121606201292619775)] := hL.step 4 _ h1 g1
  have hz := hz.kept g1 (by omega)
  have hv := hv.kept g1 (by omega)
  have hb := bkept hb g1 (by omega) hb.size
  clear h1 g1
  go_wp2_with fail
  refine (sqn_M _ (w.heap.size + 4) (w.heap.size + 4) (pw m 1766847064778384329583297500742918515827483896875618958121606201292619775) 10 (by decide) (hL.b 4 (by simp)) (hL.m 4 _ rfl)).mono ?_
  rintro e w20 ⟨rfl, h1, g1⟩
  rw [((sqm_pw 10 m 1766847064778384329583297500742918515827483896875618958121606201292619775).trans (congrArg (pw m) (by decide : 1766847064778384329583297500742918515827483896875618958121606201292619775 * 2 ^ 10 = 1809251394333065553493296640760748560207343510400633813116524750123642649600)))] at h1
  have hL : Lad w20 w.heap.size [some (pw m 11), some (pw m 1152921504606846975), some (pw m 1329227995784915872903807060280344575), some (pw m 1023), some (pw m 1809251394333065553493296640760748560207343510400633813116524750123642649600)] := hL.step 4 _ h1 g1
  have hz := hz.kept g1 (by omega)
  have hv := hv.kept g1 (by omega)
  have hb := bkept hb g1 (by omega) hb.size
  clear h1 g1
  go_wp2_with fail
  refine (mul_M _ (w.heap.size + 4) (w.heap.size + 4) (w.heap.size + 3) (pw m 1809251394333065553493296640760748560207343510400633813116524750123642649600) (pw m 1023) (hL.b 4 (by simp)) (hL.m 4 _ rfl) (hL.m 3 _ rfl)).mono ?_
  rintro e w21 ⟨rfl, h1, g1⟩
  rw [((mulm_pw m 1809251394333065553493296640760748560207343510400633813116524750123642649600 1023).trans (congrArg (pw m) (by decide : 1809251394333065553493296640760748560207343510400633813116524750123642649600 + 1023 = 1809251394333065553493296640760748560207343510400633813116524750123642650623)))] at h1
  have hL : Lad w21 w.heap.size [some (pw m 11), some (pw m 1152921504606846975), some (pw m 1329227995784915872903807060280344575), some (pw m 1023), some (pw m 1809251394333065553493296640760748560207343510400633813116524750123642650623)] := hL.step 4 _ h1 g1
  have hz := hz.kept g1 (by omega)
  have hv := hv.kept g1 (by omega)
  have hb := bkept hb g1 (by omega) hb.size
  clear h1 g1
  go_wp2_with fail
  refine (sqn_M _ (w.heap.size + 4) (w.heap.size + 4) (pw m 1809251394333065553493296640760748560207343510400633813116524750123642650623) 5 (by decide) (hL.b 4 (by simp)) (hL.m 4 _ rfl)).mono ?_
  rintro e w22 ⟨rfl, h1, g1⟩
  rw [((sqm_pw 5 m 1809251394333065553493296640760748560207343510400633813116524750123642650623).trans (congrArg (pw m) (by decide : 1809251394333065553493296640760748560207343510400633813116524750123642650623 * 2 ^ 5 = 57896044618658097711785492504343953926634992332820282019728792003956564819936)))] at h1
  have hL : Lad w22 w.heap.size [some (pw m 11), some (pw m 1152921504606846975), some (pw m 1329227995784915872903807060280344575), some (pw m 1023), some (pw m 57896044618658097711785492504343953926634992332820282019728792003956564819936)] := hL.step 4 _ h1 g1
  have hz := hz.kept g1 (by omega)
  have hv := hv.kept g1 (by omega)
  have hb := bkept hb g1 (by omega) hb.size
  clear h1 g1
  go_wp2_with fail
  refine (mul_M _ v (w.heap.size + 4) (w.heap.size + 0) (pw m 57896044618658097711785492504343953926634992332820282019728792003956564819936) (pw m 11) hv (hL.m 4 _ rfl) (hL.m 0 _ rfl)).mono ?_
  rintro e w' ⟨rfl, h1, g1⟩
  rw [((mulm_pw m 57896044618658097711785492504343953926634992332820282019728792003956564819936 11).trans (congrArg (pw m) (by decide : 57896044618658097711785492504343953926634992332820282019728792003956564819936 + 11 = em2)))] at h1
  go_wp2_with fail
  go_ret
  exact ⟨rfl, h1, below_then hb g1⟩
end Go.Proofs.YthjminkkmljjhaaGreatDoor

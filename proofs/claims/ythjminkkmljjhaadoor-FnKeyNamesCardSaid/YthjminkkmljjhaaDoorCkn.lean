/- FnKeyNames: the statement and its card. -/
import Derived.Test.YthjminkkmljjhaaDoorKn
import Derived.Test.YthjminkkmljjhaaDoorRowArr
namespace Go.Proofs.YthjminkkmljjhaaDoor.fnKeyNames
open Go.ChangeShapes Go.WideShapes Go.ChangeAt Go.RowKit

set_option maxRecDepth 100000 in
theorem contract (H : Type) (enc : TypeId × Value → H) (W : World) (base : Nat) (args : Array Value) (ds gs : List (DataW H)) (before : List MemPlace)
    (hval : ∀ (j : Nat) t v, Tryd.f6.params[j]? = some t → args[j]? = some v → Value.okWide Tryd.prog W .any base t v)
    (hW : DataW.Whole enc Tryd.prog Tryd.f6.params.toList Rows.fnKeyNamesSpec.vars false W args.toList ds gs before) (hL : laidMetH Tryd.prog Rows.fnKeyNamesRow.laid W) :
    Calls Tryd.prog 6 args W fun e W' => ∃ v, e = .returned v ∧ Rows.fnKeyNamesSpec.post enc Tryd.prog Tryd.f6 false true false false W args v W' := by
  have hW' := hW
  obtain ⟨p, q, hA0, hV, rfl, hfz, hnd⟩ := hW
  have hA : DataW.TrodAll enc Tryd.prog W 0 (fun _ => true) true Tryd.f6.params.toList args.toList ds p := hA0
  rw [Tryd.params6] at hA hval
  obtain ⟨v0, vs0, d0, ds0, p0, q0, hargs, rfl, rfl, h0, r0⟩ := trodAll_cons hA
  obtain ⟨v1, vs1, d1, ds1, p1, q1, rfl, rfl, rfl, h1, r1⟩ := trodAll_cons r0
  obtain ⟨rfl, rfl, rfl⟩ := trodAll_nil r1
  obtain rfl : args = #[v0, v1] := by cases args; simp_all
  have hgs : ∃ g1 g2, gs = [g1, g2] := by
    match gs, hV with
    | [x, y], _ => exact ⟨x, y, rfl⟩
    | [], h => exact h.elim
    | [x], h => obtain ⟨_, _, _, _, _, _, _, _, _, _, h, _⟩ := h; exact h.elim
    | x :: y :: z :: r, h => obtain ⟨_, _, _, _, _, _, _, _, _, _, ⟨_, _, _, _, _, _, _, _, _, _, h, _⟩, _⟩ := h; exact h.elim
  obtain ⟨g1, g2, rfl⟩ := hgs
  obtain ⟨l, rfl, hl⟩ := open_arr8 Tryd.underlying33 Tryd.underlying5 (show Tryd.prog.cellsOf 5 = 1 by kernel_rfl) (show Tryd.prog.cellsOf 33 = 32 by kernel_rfl) (hval 0 33 v0 rfl rfl) h0
  obtain ⟨ad, b, cap, rfl, hat, hbl⟩ := open_bytes Tryd.underlying22 Tryd.underlying5 (show Tryd.prog.cellsOf 5 = 1 by kernel_rfl) (hval 1 22 v1 rfl rfl) h1
  rw [MakeChecks.laidMetH_plain _ _ _ (by kernel_rfl)] at hL
  have hL2 := laidMet.tail (laidMet.tail hL)
  obtain ⟨t, e, g1, g2, g3, g4, g5⟩ := gensT
  obtain ⟨hG, hg0⟩ := gens_of_tab (Lib.tabIs_of_head gGen g1 g2 g3 g4 g5 hL2)
  have walk := fnKeyNames_any W l hl ad cap b hbl hat hG hg0
  refine walk.mono fun e W' ⟨he, hb⟩ => ?_
  subst he
  exact ⟨_, rfl, post_true laidOut hW' hb (by kernel_rfl) (by kernel_rfl) (t := 4) (by kernel_rfl) Tryd.underlying4 rfl⟩

noncomputable abbrev w0 (os : Os) : World := World.laidAll Tryd.prog os Rows.fnKeyNamesRow.laid
abbrev a0 : Array Value := #[.agg (Array.replicate 32 (.int .u8 0)), .slice none 0 0]

theorem laid_met (os : Os) : laidMetH Tryd.prog Rows.fnKeyNamesRow.laid ((w0 os).forCall (fun _ _ => 0) ⟨#[], a0, []⟩).memory := by
  rw [MakeChecks.laidMetH_plain _ _ _ (by kernel_rfl)]
  exact laidMet_laidAll _ (by kernel_rfl) (by kernel_rfl)
theorem shaped (os : Os) : ((w0 os).forCall (fun _ _ => 0) ⟨#[], a0, []⟩).Shaped Tryd.prog := World.shaped_of_ZipB (by kernel_rfl) (by kernel_rfl)
theorem okArgs (os : Os) : Input.okWideB Tryd.prog ((w0 os).forCall (fun _ _ => 0) ⟨#[], a0, []⟩) 6 ⟨#[], a0, []⟩ = true := by kernel_rfl

set_option maxRecDepth 100000 in
theorem lifted (os : Os) (started : os.Started) (H : Type) (enc : TypeId × Value → H) (F : Stop.Interp) :
    ReturnsInHanded {} Tryd.checked os 6 .any ((OpenSpec.ofChange Rows.fnKeyNamesSpec).preRow enc Tryd.prog Tryd.f6 Rows.fnKeyNamesRow.domain false Rows.fnKeyNamesRow.laid) (((OpenSpec.ofChange Rows.fnKeyNamesSpec).at F).post enc Tryd.prog Tryd.f6 false true false false) := by
  refine returnsInHanded_of_row (C := Tryd.checked) (s := OpenSpec.ofChange Rows.fnKeyNamesSpec) own started (by kernel_rfl) Tryd.func6
    (witness_row_shaped (enc := enc) (C := Tryd.checked) (w0 os) a0 (World.laidAll_os _ _ _) (shaped os) (okArgs os)
      (OpenSpec.preRow_of_B rfl 8 (by kernel_rfl) (by kernel_rfl) (laid_met os))) ?_
  intro W base args ds gs before hval hW _ _ _ hL _ _
  exact contract H enc W base args ds gs before hval hW hL

theorem said : Rows.FnKeyNamesSaid :=
  OpenClaim.holds_of_cond 6 Tryd.f6 rfl rfl rfl rfl rfl rfl rfl ⟨rfl, rfl, rfl, rfl, rfl⟩ rfl rfl rfl rfl rfl (by kernel_rfl) Tryd.func6 (by kernel_rfl)
    (of_decide_eq_true (by kernel_rfl)) (by unfold Func.isWrapper; first | (rw [if_pos (by decide +kernel)]; kernel_rfl) | (rw [if_neg (by decide +kernel)]; exact ⟨rfl, rfl⟩))
    (fun os started H enc _ F => by rw [OpenClaim.pre_eq_preRow]; exact lifted os started H enc F)

theorem plain (f : FuncId) (fn : Func) (hf : Tryd.pinned.checked.prog.funcNamed "loop.example/pub-g03048/laws.FnKeyNames" = some f) (hfn : Tryd.pinned.checked.prog.funcs[f]? = some fn) :
    false = Tryd.pinned.checked.prog.looks [] ∧ ∀ (j : Nat) t, fn.params[j]? = some t → Tryd.pinned.checked.prog.wantsStandIn t = false := by
  obtain rfl : f = 6 := Option.some.inj ((show Tryd.prog.funcNamed "loop.example/pub-g03048/laws.FnKeyNames" = some 6 by kernel_rfl).symm.trans hf) |>.symm
  obtain rfl : fn = Tryd.f6 := (Option.some.inj (Tryd.func6.symm.trans hfn)).symm
  refine ⟨by kernel_rfl, fun j t ht => ?_⟩
  rw [Tryd.params6] at ht
  have hm : t ∈ [33, 22] := by simpa using Array.mem_of_getElem? ht
  have hall : ([33, 22].all fun u => !Tryd.prog.wantsStandIn u) = true := by kernel_rfl
  exact (show Tryd.prog.wantsStandIn t = false by simpa using List.all_eq_true.1 hall t hm)

theorem card : Rows.FnKeyNamesCardSaid :=
  Claim7.holds_tied_plain_at .later [] _ _ _ _ said (fun _ h => by cases h) (by kernel_rfl) (fun _ h => by cases h) fnKeyNames_row_tie rfl ⟨rfl, rfl⟩ (by kernel_rfl) rfl plain (by kernel_rfl)
end Go.Proofs.YthjminkkmljjhaaDoor.fnKeyNames

/- FnStreamSeal: the statement and its card. Conditions: none beyond the statement's own. -/
import Derived.Test.YtkocgogpbammaaaDoorLs
import Derived.Test.YtkocgogpbammaaaDoorRowArr
set_option linter.unusedVariables false
set_option linter.unusedSimpArgs false
namespace Go.Proofs.YtkocgogpbammaaaDoor.fnStreamSeal
open Go.ChangeShapes Go.WideShapes Go.ChangeAt Go.RowKit

set_option maxRecDepth 100000 in
theorem contract (H : Type) (enc : TypeId × Value → H) (W : World) (base : Nat) (args : Array Value) (ds gs : List (DataW H)) (before : List MemPlace)
    (hval : ∀ (j : Nat) t v, Tryd.f3.params[j]? = some t → args[j]? = some v → Value.okWide Tryd.prog W .any base t v)
    (hW : DataW.Whole enc Tryd.prog Tryd.f3.params.toList Rows.fnStreamSealSpec.vars false W args.toList ds gs before) (hL : laidMetH Tryd.prog Rows.fnStreamSealRow.laid W) :
    Calls Tryd.prog 3 args W fun e W' => ∃ v, e = .returned v ∧ Rows.fnStreamSealSpec.post enc Tryd.prog Tryd.f3 false true false false W args v W' := by
  have hW' := hW
  obtain ⟨p, q, hA0, hV, rfl, hfz, hnd⟩ := hW
  have hA : DataW.TrodAll enc Tryd.prog W 0 (fun _ => true) true Tryd.f3.params.toList args.toList ds p := hA0
  rw [Tryd.params3] at hA hval
  obtain ⟨v0, vs0, d0, ds0, p0, q0, hargs, rfl, rfl, h0, r0⟩ := trodAll_cons hA
  obtain ⟨v1, vs1, d1, ds1, p1, q1, rfl, rfl, rfl, h1, r1⟩ := trodAll_cons r0
  obtain ⟨v2, vs2, d2, ds2, p2, q2, rfl, rfl, rfl, h2, r2⟩ := trodAll_cons r1
  obtain ⟨rfl, rfl, rfl⟩ := trodAll_nil r2
  obtain rfl : args = #[v0, v1, v2] := by cases args; simp_all
  have hgs : gs = [] := by
    match gs, hV with
    | [], _ => rfl
    | x :: r, h => exact h.elim
  subst hgs
  obtain ⟨l, rfl, hl⟩ := open_arr8 Tryd.underlying22 Tryd.underlying5 (show Tryd.prog.cellsOf 5 = 1 by kernel_rfl) (show Tryd.prog.cellsOf 22 = 32 by kernel_rfl) (hval 0 22 v0 rfl rfl) h0
  obtain ⟨ad, b, cap, rfl, hat, hbl⟩ := open_bytes Tryd.underlying23 Tryd.underlying5 (show Tryd.prog.cellsOf 5 = 1 by kernel_rfl) (hval 1 23 v1 rfl rfl) h1
  obtain ⟨ca, cuts, cc, rfl, hcat, hcr⟩ := open_i64s Tryd.underlying24 Tryd.underlying3 (show Tryd.prog.cellsOf 3 = 1 by kernel_rfl) (hval 2 24 v2 rfl rfl) h2
  have walk := fnSeal_any W l b cuts ad ca cap cc b.length cuts.length hl rfl rfl hat hbl hcat hcr
  refine walk.mono fun e W' ⟨he, hb⟩ => ?_
  subst he
  exact ⟨_, rfl, post_true laidOut hW' hb (by kernel_rfl) (by kernel_rfl) (t := 4) (by kernel_rfl) Tryd.underlying4 rfl⟩

noncomputable abbrev w0 (os : Os) : World := World.laidAll Tryd.prog os Rows.fnStreamSealRow.laid
abbrev a0 : Array Value := #[.agg (Array.replicate 32 (.int .u8 0)), .slice none 0 0, .slice none 0 0]

theorem laid_met (os : Os) : laidMetH Tryd.prog Rows.fnStreamSealRow.laid ((w0 os).forCall (fun _ _ => 0) ⟨#[], a0, []⟩).memory := by
  rw [MakeChecks.laidMetH_plain _ _ _ (by kernel_rfl)]
  exact laidMet_laidAll _ (by kernel_rfl) (by kernel_rfl)
theorem shaped (os : Os) : ((w0 os).forCall (fun _ _ => 0) ⟨#[], a0, []⟩).Shaped Tryd.prog := World.shaped_of_ZipB (by kernel_rfl) (by kernel_rfl)
theorem okArgs (os : Os) : Input.okWideB Tryd.prog ((w0 os).forCall (fun _ _ => 0) ⟨#[], a0, []⟩) 3 ⟨#[], a0, []⟩ = true := by kernel_rfl

set_option maxRecDepth 100000 in
theorem lifted (os : Os) (started : os.Started) (H : Type) (enc : TypeId × Value → H) (F : Stop.Interp) :
    ReturnsInHanded {} Tryd.checked os 3 .any ((OpenSpec.ofChange Rows.fnStreamSealSpec).preRow enc Tryd.prog Tryd.f3 Rows.fnStreamSealRow.domain false Rows.fnStreamSealRow.laid) (((OpenSpec.ofChange Rows.fnStreamSealSpec).at F).post enc Tryd.prog Tryd.f3 false true false false) := by
  refine returnsInHanded_of_row (C := Tryd.checked) (s := OpenSpec.ofChange Rows.fnStreamSealSpec) own started (by kernel_rfl) Tryd.func3
    (witness_row_shaped (enc := enc) (C := Tryd.checked) (w0 os) a0 (World.laidAll_os _ _ _) (shaped os) (okArgs os)
      (OpenSpec.preRow_of_B rfl 8 (by kernel_rfl) (by kernel_rfl) (laid_met os))) ?_
  intro W base args ds gs before hval hW _ _ _ hL _ _
  exact contract H enc W base args ds gs before hval hW hL

theorem said : Rows.FnStreamSealSaid :=
  OpenClaim.holds_of_cond 3 Tryd.f3 rfl rfl rfl rfl rfl rfl rfl ⟨rfl, rfl, rfl, rfl, rfl⟩ rfl rfl rfl rfl rfl (by kernel_rfl) Tryd.func3 (by kernel_rfl)
    (of_decide_eq_true (by kernel_rfl)) (by unfold Func.isWrapper; first | (rw [if_pos (by decide +kernel)]; kernel_rfl) | (rw [if_neg (by decide +kernel)]; exact ⟨rfl, rfl⟩))
    (fun os started H enc _ F => by rw [OpenClaim.pre_eq_preRow]; exact lifted os started H enc F)

theorem plain (f : FuncId) (fn : Func) (hf : Tryd.pinned.checked.prog.funcNamed "loop.example/pub-g03048/laws.FnStreamSeal" = some f) (hfn : Tryd.pinned.checked.prog.funcs[f]? = some fn) :
    false = Tryd.pinned.checked.prog.looks [] ∧ ∀ (j : Nat) t, fn.params[j]? = some t → Tryd.pinned.checked.prog.wantsStandIn t = false := by
  obtain rfl : f = 3 := Option.some.inj ((show Tryd.prog.funcNamed "loop.example/pub-g03048/laws.FnStreamSeal" = some 3 by kernel_rfl).symm.trans hf) |>.symm
  obtain rfl : fn = Tryd.f3 := (Option.some.inj (Tryd.func3.symm.trans hfn)).symm
  refine ⟨by kernel_rfl, fun j t ht => ?_⟩
  rw [Tryd.params3] at ht
  have hm : t ∈ [22, 23, 24] := by simpa using Array.mem_of_getElem? ht
  have hall : ([22, 23, 24].all fun u => !Tryd.prog.wantsStandIn u) = true := by kernel_rfl
  exact (show Tryd.prog.wantsStandIn t = false by simpa using List.all_eq_true.1 hall t hm)

theorem card : Rows.FnStreamSealCardSaid :=
  Claim7.holds_tied_plain_at .later [] _ _ _ _ said (fun _ h => by cases h) (by kernel_rfl) (fun _ h => by cases h) fnStreamSeal_row_tie rfl ⟨rfl, rfl⟩ (by kernel_rfl) rfl plain (by kernel_rfl)
end Go.Proofs.YtkocgogpbammaaaDoor.fnStreamSeal

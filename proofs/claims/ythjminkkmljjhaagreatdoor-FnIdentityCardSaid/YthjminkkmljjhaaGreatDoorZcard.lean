/- FnIdentity: the statement and its card. -/
import Derived.Test.YthjminkkmljjhaaGreatDoorZlaw
import Derived.Test.YthjminkkmljjhaaGreatDoorRowArr
namespace Go.Proofs.YthjminkkmljjhaaGreatDoor.fnIdentity
open Go.ChangeShapes Go.WideShapes Go.ChangeAt Go.RowKit

theorem gOne : Tryz.prog.globalNamed "loop.example/pub-g03048/pub/field.feOne" = some 5 := by kernel_rfl
theorem tOne : ∃ t, (Tryz.prog.globals[5]?).map (·.type) = some t ∧ Tryz.prog.underlying t = some (.pointer 109) := by
  have h : (match (Tryz.prog.globals[5]?).map (·.type) with | some t => (match Tryz.prog.underlying t with | some (.pointer e) => decide (e = 109) | _ => false) | none => false) = true := by kernel_rfl
  split at h
  · rename_i t ht
    refine ⟨t, ht, ?_⟩
    split at h
    · rename_i e he
      rw [he, of_decide_eq_true h]
    · cases h
  · cases h
theorem fieldsE : ∃ fs : Array Field, Tryz.prog.underlying 109 = some (.struct fs) ∧ ∀ i, i < 5 → ∃ f, fs[i]? = some f ∧ f.offset = i ∧ f.type = 54 := by
  have h : (match Tryz.prog.underlying 109 with | some (.struct fs) => (List.range 5).all fun i => (match fs[i]? with | some f => decide (f.offset = i) && decide (f.type = 54) | none => false) | _ => false) = true := by kernel_rfl
  split at h
  · rename_i fs hfs
    refine ⟨fs, hfs, fun i hi => ?_⟩
    have h2 := List.all_eq_true.1 h i (List.mem_range.2 hi)
    split at h2
    · rename_i f hf
      simp only [Bool.and_eq_true, decide_eq_true_eq] at h2
      exact ⟨f, hf, h2.1, h2.2⟩
    · cases h2
  · cases h
theorem feOne_of {W : World} {rest : List (String × DataW Unit)} (h : laidMet Tryz.prog (("loop.example/pub-g03048/pub/field.feOne", Rows.laid_loop_example_pub_g03048_pub_field_feOne) :: rest) W) : FeOne W := by
  obtain ⟨ps, ⟨g', t', cs, fuel, p, q, hg', ht', hvar, hd, _, _⟩, _⟩ := h
  obtain rfl := Option.some.inj (gOne.symm.trans hg')
  obtain ⟨t, ht, hu⟩ := tOne
  obtain rfl := Option.some.inj (ht.symm.trans ht')
  rcases DataW.trod_pointer hu hd with ⟨_, hx⟩ | ⟨a, cs', y, n, _, hcs, hx, hcells, hy⟩
  · cases hx
  · have hy1 : y.1 = .agg [.lit (.int .u64 1), .lit (.int .u64 0), .lit (.int .u64 0), .lit (.int .u64 0), .lit (.int .u64 0)] := by
      have h1 := congrArg Prod.fst hx
      simp only [Rows.laid_loop_example_pub_g03048_pub_field_feOne] at h1
      exact (DataW.ptr.inj h1).symm
    obtain ⟨fs, hfs, hfi⟩ := fieldsE
    obtain ⟨xs, m, _, hyx, hlen, hxl, hf⟩ := DataW.trod_struct hfs hy
    have hxs : xs.map (·.1) = [.lit (.int .u64 1), .lit (.int .u64 0), .lit (.int .u64 0), .lit (.int .u64 0), .lit (.int .u64 0)] := by
      rw [hyx] at hy1; injection hy1
    have hc5 : Tryz.prog.cellsOf 109 = 5 := by kernel_rfl
    have hc1 : Tryz.prog.cellsOf 54 = 1 := by kernel_rfl
    have hu64 : Tryz.prog.underlying 54 = some (.int .u64) := by kernel_rfl
    rw [hc5] at hcells hlen
    obtain ⟨_, _, hcell⟩ := World.cells?_some hcells
    have hval : ∀ i, i < 5 → cs'[i]? = some (.int .u64 ([1, 0, 0, 0, 0].getD i 0 : Int)) := by
      intro i hi
      obtain ⟨f, hfe, ho, hft⟩ := hfi i hi
      have h1 := hf i f hfe
      rw [ho, hft, hc1] at h1
      have h2 : (xs.map (·.1))[i]? = some (.lit (.int .u64 ([1, 0, 0, 0, 0].getD i 0 : Int))) := by
        rw [hxs]
        rcases (show i = 0 ∨ i = 1 ∨ i = 2 ∨ i = 3 ∨ i = 4 by omega) with rfl | rfl | rfl | rfl | rfl <;> rfl
      rw [List.getElem?_map, Option.map_eq_some_iff] at h2
      obtain ⟨x, hx1, hx2⟩ := h2
      rw [hx1] at h1
      obtain ⟨z, hz, hzx, _⟩ := DataW.trod_int hu64 h1
      have h3 : cs'[i]? = some (.int .u64 z) := by
        have := congrArg (·[0]?) hz
        simpa [List.getElem?_take, List.getElem?_drop] using this
      rw [hzx] at hx2
      have hx3 := (Lit.int.inj (DataW.lit.inj hx2)).2
      rw [h3, hx3]
    have hspot : a.spot = none := by
      have h0 := hcell 0 (by decide)
      rw [hval 0 (by decide)] at h0
      have ha : a.add 0 = a := by unfold Addr.add; rw [if_pos rfl]
      rw [ha] at h0
      unfold World.cell? at h0
      split at h0
      · split at h0
        · cases h0
        · rename_i hs; simpa using hs
      · cases h0
    obtain ⟨b, off, sp⟩ := a
    simp only at hspot
    subst hspot
    refine ⟨b, off, ?_, ?_⟩
    · have hv2 := hvar
      have hcs2 : cs = #[.pointer (some ⟨b, off, none⟩)] := by cases cs; simpa using hcs
      rw [hcs2] at hv2
      unfold World.var? at hv2
      rw [gOne] at hv2
      simp only [Option.bind_some] at hv2
      split at hv2
      · rename_i c t2 f2 hblk
        unfold World.cell?
        rw [hblk]
        simp only [Option.some.injEq] at hv2
        rw [hv2]; rfl
      · cases hv2
    · intro j v hj
      have hj5 : j < 5 := by
        have := (List.getElem?_eq_some_iff.1 hj).1
        simpa [L5.cells] using this
      have h1 := hcell j hj5
      rw [Addr.add_mid, hval j hj5] at h1
      rw [h1, ← hj]
      rcases (show j = 0 ∨ j = 1 ∨ j = 2 ∨ j = 3 ∨ j = 4 by omega) with rfl | rfl | rfl | rfl | rfl <;> rfl

set_option maxRecDepth 100000 in
theorem contract (H : Type) (enc : TypeId × Value → H) (W : World) (base : Nat) (args : Array Value) (ds gs : List (DataW H)) (before : List MemPlace)
    (hval : ∀ (j : Nat) t v, Tryz.f3.params[j]? = some t → args[j]? = some v → Value.okWide Tryz.prog W .any base t v)
    (hW : DataW.Whole enc Tryz.prog Tryz.f3.params.toList Rows.fnIdentitySpec.vars false W args.toList ds gs before) (hL : laidMetH Tryz.prog Rows.fnIdentityRow.laid W) :
    Calls Tryz.prog 3 args W fun e W' => ∃ v, e = .returned v ∧ Rows.fnIdentitySpec.post enc Tryz.prog Tryz.f3 false true false false W args v W' := by
  have hW' := hW
  obtain ⟨p, q, hA0, hV, rfl, hfz, hnd⟩ := hW
  have hA : DataW.TrodAll enc Tryz.prog W 0 (fun _ => true) true Tryz.f3.params.toList args.toList ds p := hA0
  rw [Tryz.params3] at hA hval
  obtain ⟨v0, vs0, d0, ds0, p0, q0, hargs, rfl, rfl, h0, r0⟩ := trodAll_cons hA
  obtain ⟨rfl, rfl, rfl⟩ := trodAll_nil r0
  obtain rfl : args = #[v0] := by cases args; simp_all
  have hgs : ∃ g1 g2, gs = [g1, g2] := by
    match gs, hV with
    | [x, y], _ => exact ⟨x, y, rfl⟩
    | [], h => exact h.elim
    | [x], h => obtain ⟨_, _, _, _, _, _, _, _, _, _, h, _⟩ := h; exact h.elim
    | x :: y :: z :: r, h => obtain ⟨_, _, _, _, _, _, _, _, _, _, ⟨_, _, _, _, _, _, _, _, _, _, h, _⟩, _⟩ := h; exact h.elim
  obtain ⟨g1, g2, rfl⟩ := hgs
  obtain ⟨l, rfl, hl⟩ := open_arr8 Tryz.underlying22 Tryz.underlying5 (show Tryz.prog.cellsOf 5 = 1 by kernel_rfl) (show Tryz.prog.cellsOf 22 = 32 by kernel_rfl) (hval 0 22 v0 rfl rfl) h0
  rw [MakeChecks.laidMetH_plain _ _ _ (by kernel_rfl)] at hL
  have hOne := feOne_of (laidMet.tail hL)
  have hL2 := laidMet.tail (laidMet.tail hL)
  obtain ⟨t, e, g1, g2, g3, g4, g5⟩ := gensT
  obtain ⟨hG, hg0⟩ := gens_of_tab (Lib.tabIs_of_head gGen g1 g2 g3 g4 g5 hL2)
  have walk := fnIdentity_any W l hl hG hg0 hOne
  refine walk.mono fun e W' ⟨he, hb⟩ => ?_
  subst he
  exact ⟨_, rfl, post_true laidOut hW' hb (by kernel_rfl) (by kernel_rfl) (t := 4) (by kernel_rfl) Tryz.underlying4 rfl⟩

noncomputable abbrev w0 (os : Os) : World := World.laidAll Tryz.prog os Rows.fnIdentityRow.laid
abbrev a0 : Array Value := #[.agg (Array.replicate 32 (.int .u8 0))]

theorem laid_met (os : Os) : laidMetH Tryz.prog Rows.fnIdentityRow.laid ((w0 os).forCall (fun _ _ => 0) ⟨#[], a0, []⟩).memory := by
  rw [MakeChecks.laidMetH_plain _ _ _ (by kernel_rfl)]
  exact laidMet_laidAll _ (by kernel_rfl) (by kernel_rfl)
theorem shaped (os : Os) : ((w0 os).forCall (fun _ _ => 0) ⟨#[], a0, []⟩).Shaped Tryz.prog := World.shaped_of_ZipB (by kernel_rfl) (by kernel_rfl)
theorem okArgs (os : Os) : Input.okWideB Tryz.prog ((w0 os).forCall (fun _ _ => 0) ⟨#[], a0, []⟩) 3 ⟨#[], a0, []⟩ = true := by kernel_rfl

set_option maxRecDepth 100000 in
theorem lifted (os : Os) (started : os.Started) (H : Type) (enc : TypeId × Value → H) (F : Stop.Interp) :
    ReturnsInHanded {} Tryz.checked os 3 .any ((OpenSpec.ofChange Rows.fnIdentitySpec).preRow enc Tryz.prog Tryz.f3 Rows.fnIdentityRow.domain false Rows.fnIdentityRow.laid) (((OpenSpec.ofChange Rows.fnIdentitySpec).at F).post enc Tryz.prog Tryz.f3 false true false false) := by
  refine returnsInHanded_of_row (C := Tryz.checked) (s := OpenSpec.ofChange Rows.fnIdentitySpec) own started (by kernel_rfl) Tryz.func3
    (witness_row_shaped (enc := enc) (C := Tryz.checked) (w0 os) a0 (World.laidAll_os _ _ _) (shaped os) (okArgs os)
      (OpenSpec.preRow_of_B rfl 8 (by kernel_rfl) (by kernel_rfl) (laid_met os))) ?_
  intro W base args ds gs before hval hW _ _ _ hL _ _
  exact contract H enc W base args ds gs before hval hW hL

theorem said : Rows.FnIdentitySaid :=
  OpenClaim.holds_of_cond 3 Tryz.f3 rfl rfl rfl rfl rfl rfl rfl ⟨rfl, rfl, rfl, rfl, rfl⟩ rfl rfl rfl rfl rfl (by kernel_rfl) Tryz.func3 (by kernel_rfl)
    (of_decide_eq_true (by kernel_rfl)) (by unfold Func.isWrapper; first | (rw [if_pos (by decide +kernel)]; kernel_rfl) | (rw [if_neg (by decide +kernel)]; exact ⟨rfl, rfl⟩))
    (fun os started H enc _ F => by rw [OpenClaim.pre_eq_preRow]; exact lifted os started H enc F)

theorem plain (f : FuncId) (fn : Func) (hf : Tryz.pinned.checked.prog.funcNamed "loop.example/pub-g03048/laws.FnIdentity" = some f) (hfn : Tryz.pinned.checked.prog.funcs[f]? = some fn) :
    false = Tryz.pinned.checked.prog.looks [] ∧ ∀ (j : Nat) t, fn.params[j]? = some t → Tryz.pinned.checked.prog.wantsStandIn t = false := by
  obtain rfl : f = 3 := Option.some.inj ((show Tryz.prog.funcNamed "loop.example/pub-g03048/laws.FnIdentity" = some 3 by kernel_rfl).symm.trans hf) |>.symm
  obtain rfl : fn = Tryz.f3 := (Option.some.inj (Tryz.func3.symm.trans hfn)).symm
  refine ⟨by kernel_rfl, fun j t ht => ?_⟩
  rw [Tryz.params3] at ht
  have hm : t ∈ [22] := by simpa using Array.mem_of_getElem? ht
  have hall : ([22].all fun u => !Tryz.prog.wantsStandIn u) = true := by kernel_rfl
  exact (show Tryz.prog.wantsStandIn t = false by simpa using List.all_eq_true.1 hall t hm)

theorem card : Rows.FnIdentityCardSaid :=
  Claim7.holds_tied_plain_at .later [] _ _ _ _ said (fun _ h => by cases h) (by kernel_rfl) (fun _ h => by cases h) fnIdentity_row_tie rfl ⟨rfl, rfl⟩ (by kernel_rfl) rfl plain (by kernel_rfl)
end Go.Proofs.YthjminkkmljjhaaGreatDoor.fnIdentity

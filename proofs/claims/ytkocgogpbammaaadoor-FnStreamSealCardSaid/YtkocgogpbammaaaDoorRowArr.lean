/- From a row's hypotheses to a walk's: how an argument opens, the argument read behind the call, the witness. No conditions beyond those each lemma states. -/
import Derived.Test.YtkocgogpbammaaaDoorCards
import Derived.Test.YtkocgogpbammaaaDoorTie
import Derived.Test.YtkocgogpbammaaaDoorFacts
import Derived.ProofKit
import Derived.OpenShut
import Derived.OpenVars
import Derived.Deep.DeepHandedRow
import Derived.Stop.LaidErr
import Derived.Lay
import Derived.MakeChecks
import Derived.ChangeMaps5
set_option linter.unusedVariables false
set_option linter.unusedSimpArgs false
namespace Go.Proofs.YtkocgogpbammaaaDoor
open Go.RowKit Go.ChangeShapes Go.WideShapes Go.ChangeAt

theorem laidOut : laidOutB Tryd.prog = true := by kernel_rfl
theorem own : ownKnob Tryd.prog.godebug = none := by kernel_rfl

section
variable {H : Type} {enc : TypeId × Value → H} {P : Program}

theorem below_trodAll (hl : laidOutB P = true) {W W' : World} (hb : Below W.heap.size W W') : ∀ {ts : List TypeId} {vs : List Value} {ds : List (DataW H)} {ps : List MemPlace},
    (ts.all fun t => P.readableRec t && decide (t < P.types.size)) = true → DataW.TrodAll enc P W 0 (fun _ => true) true ts vs ds ps → (∀ x ∈ ps, x.block < W.heap.size) →
    DataW.TrodAll enc P W' 0 (fun b => decide (b < W.heap.size)) true ts vs ds ps
  | [], vs, ds, ps, _, h, _ => by
    obtain ⟨rfl, rfl, rfl⟩ := trodAll_nil h
    exact trodAll_mk0
  | t :: ts, vs, ds, ps, ht, h, hlt => by
    obtain ⟨v0, vs0, d0, ds0, p0, q0, rfl, rfl, rfl, h0, r0⟩ := trodAll_cons h
    simp only [List.all_cons, Bool.and_eq_true, decide_eq_true_eq] at ht
    exact trodAll_cons_mk (Below.trod hl ht.1.1 ht.1.2 h0 hb fun x hx => hlt x (by simp [hx])) (below_trodAll hl hb ht.2 r0 fun x hx => hlt x (by simp [hx]))

/-- True, and all as it was. -/
theorem post_true {f : Func} {s : ChangeSpec} {apart fresh handsOn : Bool} {W W' : World} {args : Array Value} {ds gs : List (DataW H)} {before : List MemPlace} (hl : laidOutB P = true)
    (hW : DataW.Whole enc P f.params.toList s.vars apart W args.toList ds gs before) (hb : Below W.heap.size W W')
    (hts : (f.params.toList.all fun t => P.readableRec t && decide (t < P.types.size)) = true) (hvs : varsRowed P s.vars = true) {t : TypeId} (hrt : f.resultTypes = #[t]) (hut : P.underlying t = some .bool)
    (hfn : s.fn H (ds ++ gs) = { results := [.lit (.bool true)], args := ds, vars := gs }) :
    s.post enc P f apart fresh handsOn false W args (.bool true) W' := by
  obtain ⟨p, q, hA, hV, hpq, h5, h6⟩ := hW
  have hW' : DataW.Whole enc P f.params.toList s.vars apart W args.toList ds gs before := ⟨p, q, hA, hV, hpq, h5, h6⟩
  have hlt : ∀ x ∈ p, x.block < W.heap.size := fun x hx => by simpa using hW'.lt x (by rw [hpq]; simp [hx])
  refine ⟨ds, gs, before, [], p, q, hW', ?_, ?_, ?_, hb.frame _, fun h => by cases h⟩
  · rw [hfn, hrt]; exact trodAll_mk1 (shut_bool hut _)
  · rw [hfn]; exact below_trodAll hl hb hts hA hlt
  · rw [hfn]; exact Below.trodVars hl hb hvs hV

theorem open_bytes {W : World} {b0 : Nat} {t e : TypeId} {v : Value} {d : DataW H} {ps : List MemPlace} (ht : P.underlying t = some (.slice e)) (he : P.underlying e = some (.int .u8)) (hc : P.cellsOf e = 1)
    (hval : Value.okWide P W .any b0 t v) (h : DataW.Trod enc P W 0 (fun _ => true) true t v d ps) : ∃ (ad : Option Addr) (l : List UInt8) (cap : Nat), v = .slice ad l.length cap ∧ At W ad (u8s l) ∧ l.length ≤ cap := by
  obtain ⟨a0, len, cap, rfl⟩ := okWide_slice ht hval
  obtain ⟨fuel, hf⟩ := h
  rcases open_ints ht he hc hf with ⟨hcs, _⟩ | ⟨a, len', cap', zs, hcs, _, hl, hm, hz, _, hcell, hwz⟩
  · simp [Value.cells] at hcs
    obtain ⟨rfl, rfl, rfl⟩ := hcs
    exact ⟨none, [], 0, rfl, At.nil _ _, Nat.le_refl _⟩
  · simp [Value.cells] at hcs
    obtain ⟨rfl, rfl, rfl⟩ := hcs
    simp only [if_true] at hz
    have hlen : ((zs.take len).map fun z => UInt8.ofNat z.toNat).length = len := by simp; omega
    refine ⟨some a, (zs.take len).map fun z => UInt8.ofNat z.toNat, cap, by rw [hlen], ?_, by rw [hlen]; exact hl⟩
    intro h0
    rw [u8s_length, hlen] at h0
    obtain ⟨b, off, rfl, hc⟩ := ints_at hcell (by omega)
    refine ⟨b, off, rfl, fun j hj => ?_⟩
    rw [u8s_length, hlen] at hj
    rw [hc j (by omega), u8s_get]
    have hzj : zs.getD j 0 = zs[j]'(by omega) := by simp [List.getD_eq_getElem?_getD, List.getElem?_eq_getElem (show j < zs.length by omega)]
    have hb := bounds_u8 (hwz _ (List.getElem_mem (show j < zs.length by omega)))
    rw [hzj]
    simp only [List.getElem_map, List.getElem_take, UInt8.toNat_ofNat']
    congr 2
    omega
/-- A slice of ints. -/
theorem open_i64s {W : World} {b0 : Nat} {t e : TypeId} {v : Value} {d : DataW H} {ps : List MemPlace} (ht : P.underlying t = some (.slice e)) (he : P.underlying e = some (.int .i64)) (hc : P.cellsOf e = 1)
    (hval : Value.okWide P W .any b0 t v) (h : DataW.Trod enc P W 0 (fun _ => true) true t v d ps) : ∃ (ad : Option Addr) (l : List Int) (cap : Nat), v = .slice ad l.length cap ∧ At W ad (l.map fun x => Value.int .i64 x) ∧ ∀ x ∈ l, -9223372036854775808 ≤ x ∧ x ≤ 9223372036854775807 := by
  obtain ⟨a0, len, cap, rfl⟩ := okWide_slice ht hval
  obtain ⟨fuel, hf⟩ := h
  rcases open_ints ht he hc hf with ⟨hcs, _⟩ | ⟨a, len', cap', zs, hcs, _, hl, hm, hz, _, hcell, hwz⟩
  · simp [Value.cells] at hcs
    obtain ⟨rfl, rfl, rfl⟩ := hcs
    exact ⟨none, [], 0, rfl, At.nil _ _, by simp⟩
  · simp [Value.cells] at hcs
    obtain ⟨rfl, rfl, rfl⟩ := hcs
    simp only [if_true] at hz
    have hlen : (zs.take len).length = len := by simp; omega
    refine ⟨some a, zs.take len, cap, by rw [hlen], ?_, ?_⟩
    · intro h0
      rw [List.length_map, hlen] at h0
      obtain ⟨b, off, rfl, hc⟩ := ints_at hcell (by omega)
      refine ⟨b, off, rfl, fun j hj => ?_⟩
      rw [List.length_map, hlen] at hj
      rw [hc j (by omega)]
      have hzj : zs.getD j 0 = zs[j]'(by omega) := by simp [List.getD_eq_getElem?_getD, List.getElem?_eq_getElem (show j < zs.length by omega)]
      rw [hzj]
      simp
    · intro x hx
      exact bounds_i64 (hwz x (List.mem_of_mem_take hx))
end

/-- The witness: a world of one's own making that has the right shape. -/
theorem witness_row_shaped {H : Type} {enc : TypeId × Value → H} {C : Checked} {os : Os} {f : FuncId} {fn : Func} {s : OpenSpec} {conds : List PathCond} {apart : Bool} {laid : List (String × DataW Unit)} (w0 : World) (args : Array Value) (hos : w0.os = os)
    (hsh : (w0.forCall (fun _ _ => 0) ⟨#[], args, []⟩).Shaped C.prog)
    (hok : Input.okWideB C.prog (w0.forCall (fun _ _ => 0) ⟨#[], args, []⟩) f ⟨#[], args, []⟩ = true)
    (hrow : s.preRow enc C.prog fn conds apart laid (w0.forCall (fun _ _ => 0) ⟨#[], args, []⟩).memory args) :
    ∃ (w : World) (tape : Tape) (i : Input), w.os = os ∧ (w.forCall tape i).Shaped C.prog ∧ i.vars = [] ∧ Input.okWide C.prog (w.forCall tape i) .any w.heap.size f i ∧
      s.preRow enc C.prog fn conds apart laid (w.forCall tape i).memory i.args ∧ ({} : Assume).holds C.prog (lone (Frame.enter C.prog f i.args .normal) [] (w.forCall tape i)) :=
  ⟨w0, fun _ _ => 0, ⟨#[], args, []⟩, hos, hsh, (Input.okWide_of_okWideB (base := 0) hok).1, (Input.okWide_of_okWideB hok).2, hrow, by
    simp only [Assume.holds]
    exact ⟨by simp, by simp, fun h => by first | cases h | exact Modest.zero, by simp, by simp⟩⟩
end Go.Proofs.YtkocgogpbammaaaDoor

/- An argument that is an array of bytes, opened. -/

namespace Go.Proofs.YtkocgogpbammaaaDoor
open Go.RowKit Go.ChangeShapes Go.WideShapes Go.ChangeAt

section
variable {H : Type} {enc : TypeId × Value → H} {P : Program}

theorem open_arr8 {W : World} {b0 n : Nat} {t e : TypeId} {v : Value} {d : DataW H} {ps : List MemPlace} (ht : P.underlying t = some (.array n e)) (he : P.underlying e = some (.int .u8)) (hc : P.cellsOf e = 1) (hct : P.cellsOf t = n)
    (hval : Value.okWide P W .any b0 t v) (h : DataW.Trod enc P W 0 (fun _ => true) true t v d ps) : ∃ l : List UInt8, v = .agg (u8s l).toArray ∧ l.length = n := by
  simp only [Value.okWide, ht] at hval
  obtain ⟨xs, rfl, hxs, _⟩ := hval
  have hn : xs.size = n := by rw [hxs, hct]
  obtain ⟨fuel, hf⟩ := h
  obtain ⟨ys, m, _, _, hlen, hyl, hel⟩ := DataW.trod_array ht hf
  simp only [Value.cells] at hlen hel
  have hcell : ∀ j (hj : j < n), ∃ z : Int, xs[j]'(by omega) = .int .u8 z ∧ 0 ≤ z ∧ z ≤ 255 := by
    intro j hj
    have h1 := hel j hj
    rw [hc, Nat.mul_one] at h1
    rw [List.getElem?_eq_getElem (by omega)] at h1
    obtain ⟨z, hcs, _, hwf⟩ := DataW.trod_int he h1
    have h2 : xs.toList[j]? = some (.int .u8 z) := by
      have := congrArg (·[0]?) hcs
      simpa [List.getElem?_take, List.getElem?_drop] using this
    have hb := bounds_u8 hwf
    refine ⟨z, ?_, hb.1, hb.2⟩
    rw [List.getElem?_eq_getElem (by simp; omega)] at h2
    simpa using h2
  let f : Value → UInt8 := fun v => match v with | .int _ z => UInt8.ofNat z.toNat | _ => 0
  refine ⟨xs.toList.map f, ?_, by simp; omega⟩
  congr 1
  apply Array.ext
  · simp
  · intro j h1 h2
    obtain ⟨z, hz, h3, h4⟩ := hcell j (by omega)
    rw [hz]
    simp only [List.getElem_toArray]
    rw [u8s_get]
    simp only [List.getElem_map, Array.getElem_toList, hz, f, UInt8.toNat_ofNat']
    congr 1
    omega
end
end Go.Proofs.YtkocgogpbammaaaDoor

/- An argument that is an array of bytes, opened. -/
import Derived.Test.YthjminkkmljjhaaDoorRow
namespace Go.Proofs.YthjminkkmljjhaaDoor
open Go.RowKit Go.ChangeShapes Go.WideShapes Go.ChangeAt

section
variable {H : Type} {enc : TypeId × Value → H} {P : Program}

theorem open_arr8 {W : World} {b0 n : Nat} {t e : TypeId} {v : Value} {d : DataW H} {ps : List MemPlace} (ht : P.underlying t = some (.array n e)) (he : P.underlying e = some (.int .u8)) (hc : P.cellsOf e = 1) (hct : P.cellsOf t = n)
    (hval : Value.okWide P W .any b0 t v) (h : DataW.Trod enc P W 0 (fun _ => true) true t v d ps) : ∃ l : List UInt8, v = .agg (u8s l).toArray ∧ l.length = n := by
  simp only [Value.okWide, ht] at hval
  obtain ⟨xs, rfl, hxs, _⟩ := hval
  have hn : xs.size = n := by rw [hxs, hct]
  obtain ⟨fuel, hf⟩ := h
  obtain ⟨ys, m, _, _, hlen, hyl, hel⟩ := DataW.trod_array ht hf
  simp only [Value.cells] at hlen hel
  have hcell : ∀ j (hj : j < n), ∃ z : Int, xs[j]'(by omega) = .int .u8 z ∧ 0 ≤ z ∧ z ≤ 255 := by
    intro j hj
    have h1 := hel j hj
    rw [hc, Nat.mul_one] at h1
    rw [List.getElem?_eq_getElem (by omega)] at h1
    obtain ⟨z, hcs, _, hwf⟩ := DataW.trod_int he h1
    have h2 : xs.toList[j]? = some (.int .u8 z) := by
      have := congrArg (·[0]?) hcs
      simpa [List.getElem?_take, List.getElem?_drop] using this
    have hb := bounds_u8 hwf
    refine ⟨z, ?_, hb.1, hb.2⟩
    rw [List.getElem?_eq_getElem (by simp; omega)] at h2
    simpa using h2
  let f : Value → UInt8 := fun v => match v with | .int _ z => UInt8.ofNat z.toNat | _ => 0
  refine ⟨xs.toList.map f, ?_, by simp; omega⟩
  congr 1
  apply Array.ext
  · simp
  · intro j h1 h2
    obtain ⟨z, hz, h3, h4⟩ := hcell j (by omega)
    rw [hz]
    simp only [List.getElem_toArray]
    rw [u8s_get]
    simp only [List.getElem_map, Array.getElem_toList, hz, f, UInt8.toNat_ofNat']
    congr 1
    omega
end
end Go.Proofs.YthjminkkmljjhaaDoor

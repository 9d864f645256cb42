/- copy(dst, src) onto a row that the call owns. No conditions beyond those stated. -/
import Derived.Test.YthjminkkmljjhaaGreatDoorBase
import Derived.Laws.CopyOwn
namespace Go.Proofs.YthjminkkmljjhaaGreatDoor
open Go.RowKit

section
variable {P : Program} {ops : Array Oper} {rest : List Oper} {o : Oper} {a : Act} {Q : Exit → Act → World → Prop} {t e : TypeId} {z : Value} {bytes : Nat}

theorem wpList_copyO (S : STy P t e z bytes) {w : World} (hgd : o.guard = none) (d s : Operand)
    (ho : o.op = .call { callee := .builtin .copy, args := #[d, s], argTypes := #[t, t] })
    (base : Nat) (g n cap : Nat) (vs : List Value) (hd : a.eval d = .slice (some ⟨g, 0, none⟩) n cap) (hown : Own w base e (.slice (some ⟨g, 0, none⟩) n cap) vs)
    (ad : Option Addr) (xs : List Value) (m c : Nat) (hs : a.eval s = .slice ad m c) (hm : xs.length = m) (hat : At w ad xs) (hy : ∀ u ∈ xs, u.oneCell' = true)
    (h : ∀ w', Own w' base e (.slice (some ⟨g, 0, none⟩) n cap) (xs.take (min m n) ++ vs.drop (min m n)) → w.grownBy w' (some g) → wpList P ops Q rest (a.put o.dst (goInt ((min m n : Nat) : Int))) w') :
    wpList P ops Q (o :: rest) a w := by
  subst hm
  have hvn : n = vs.length := hown.atS.2.1
  obtain ⟨i, hi, hz0, hz1, hz2⟩ := info_parts S.info
  have hsz : (P.info? e).map (·.size) = some 1 := by rw [hi]; simp [hz1]
  by_cases h0 : min xs.length n = 0
  · rw [h0] at h
    refine wpList_copy_nothing hgd d s t t ho e S.und hsz _ ad n cap xs.length c hd hs h0 ?_
    exact h w (by simpa using hown) (World.grownBy.refl w _)
  · obtain ⟨b, off, rfl, hc⟩ := hat (by omega)
    rcases hown with ⟨h1, _⟩ | ⟨g', cap', cur, fz, hv, hbg, hg, hfz, hnc, hcm, hcs, htake⟩
    · cases h1
    · injection hv with h1 h2 h3
      injection h1 with h1
      injection h1 with h1 _ _
      subst h1 h3
      have hl := run_loadCells_list (P := P) w ⟨b, off, none⟩ (xs.take (min xs.length n)) (by
        intro j v hj
        have hj2 : j < min xs.length n := by
          rcases Nat.lt_or_ge j (min xs.length n) with h | h
          · exact h
          · rw [List.getElem?_eq_none (by simp; omega)] at hj; cases hj
        rw [List.getElem?_take, if_pos hj2, List.getElem?_eq_getElem (by omega)] at hj
        cases hj
        have hcj := hc j (by omega)
        simp only [Addr.add]
        split
        · rename_i h0; subst h0; simpa using hcj
        · exact hcj)
      have hkl : (xs.take (min xs.length n)).length = min xs.length n := by simp
      have hst := run_storeCells_clear P g 0 e fz (xs.take (min xs.length n)) 0 cur w hg hfz (by rw [hkl]; omega) (fun v hv => hy v (List.mem_of_mem_take hv))
      have hmin : Nat.min xs.length n = min xs.length n := rfl
      have hrun : (Builtin.copy_ #[t, t] o.type #[.slice (some ⟨g, 0, none⟩) n cap, .slice (some ⟨b, off, none⟩) xs.length c]).run P w =
          .ok (goInt ((min xs.length n : Nat) : Int)) (w.setRow g (cur.toList.take (0 + 0) ++ xs.take (min xs.length n) ++ cur.toList.drop (0 + 0 + (xs.take (min xs.length n)).length)).toArray) := by
        rw [hkl] at hl
        simp [Builtin.copy_, run_underlying S.und, Builtin.lenOf, Builtin.firstCells, sizeOf, typeInfo, hi, hz1, hmin, hl, hst]
      refine wpList_plain hgd fun K hK => ?_
      unfold Oper.wp
      simp [execOp, ho, resolve, invoke, builtin, hd, hs, hrun, Result.andThen]
      refine hK _ _ (h _ ?_ ⟨rfl, rfl, rfl, by simp, fun k _ hk => setRow_other w g k _ (fun e => hk (by rw [e]))⟩)
      · have hvl : vs.length ≤ cur.size := by omega
        have hcl : cur.toList.length = cur.size := by simp
        have hap : (xs.take (min xs.length n) ++ vs.drop (min xs.length n)).length = vs.length := by simp; omega
        refine .inr ⟨g, cap, _, fz, by rw [hap, ← hvn], hbg, setRow_heap w g cur _ e _ hg, ?_, by rw [hap]; exact hnc, hcm, ?_, ?_⟩
        · intro j hj
          refine hfz j ?_
          simp only [List.size_toArray, List.length_append, List.length_take, List.length_drop, Array.length_toList] at hj
          omega
        · simp only [List.size_toArray, List.length_append, List.length_take, List.length_drop, Array.length_toList]
          omega
        · rw [hap]
          have hsplit : cur.toList = vs ++ cur.toList.drop vs.length := by
            conv => lhs; rw [← List.take_append_drop vs.length cur.toList, htake]
          have hk : min xs.length n ≤ vs.length := by omega
          simp only [Nat.zero_add, List.take_zero, List.nil_append]
          rw [hsplit, List.drop_append_of_le_length hk, ← List.append_assoc, List.take_append_of_le_length (by rw [hap]; exact Nat.le_refl _), List.take_of_length_le (by rw [hap]; exact Nat.le_refl _)]
end
end Go.Proofs.YthjminkkmljjhaaGreatDoor

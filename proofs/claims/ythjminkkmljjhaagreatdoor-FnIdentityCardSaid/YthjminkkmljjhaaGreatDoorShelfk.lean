/- strings.Builder's WriteByte on a builder that has been written before, with what it leaves as it was. Conditions: the new length at most 2^47. -/
import Derived.Test.YthjminkkmljjhaaGreatDoorShelfb
namespace Go.Proofs.YthjminkkmljjhaaGreatDoor
open Go.RowKit Go.Shelf

theorem writeString_at (B b : Nat) (bs : List Value) (s : ByteArray) (w : World) (h : Lib.IsBuilder 76 5 B b bs w) (hlen : bs.length + s.size ≤ 140737488355328) (hBw : B ≤ w.heap.size) :
    Calls Tryz.prog 36 #[.pointer (some ⟨b, 0, none⟩), .string s] w fun e w' => e = .returned (.tuple #[.int .i64 s.size, .nilIface]) ∧ Lib.BuilderAt 76 5 B b (.pointer (some ⟨b, 0, none⟩)) (bs ++ Lib.strCells s) w' ∧ Below B w w' :=
  Any.Builder_WriteString (P := Tryz.prog) (ρ := Tryz.lays159_ren) { Tryz.lays159 with } Tryz.Builder_Extra_159 B b bs s w h hlen hBw

set_option maxHeartbeats 1000000 in
set_option maxRecDepth 100000 in
theorem writeByte_kept (B b : Nat) (bs : List Value) (c : Int) (w : World) (h : Lib.BuilderAt 76 5 B b (.pointer (some ⟨b, 0, none⟩)) bs w) (hlen : bs.length + 1 ≤ 140737488355328) (hBw : B ≤ w.heap.size) :
    Calls Tryz.prog 37 #[.pointer (some ⟨b, 0, none⟩), .int .u8 c] w fun e w' => e = .returned .nilIface ∧ Lib.BuilderAt 76 5 B b (.pointer (some ⟨b, 0, none⟩)) (bs ++ [.int .u8 c]) w' ∧ Below B w w' ∧
      ∃ v, w.heap[b]? = some (.cells #[.pointer (some ⟨b, 0, none⟩), v] 76 (0, 0)) ∧ w.ownsRow B 5 1 v bs.length bs ∧ ∀ k, k < w.heap.size → k ≠ b → v.ownBlock ≠ some k → w'.heap[k]? = w.heap[k]? := by
  have hlt := h.lt
  obtain ⟨hB, v, hbk, hown, hne⟩ := id h
  obtain ⟨i0, hi, hz0, hz1, hz2⟩ := info_parts Tryz.Builder_Extra_159.infoByte
  have c0 : w.cell? ⟨b, 0, none⟩ = some (.pointer (some ⟨b, 0, none⟩)) := by rw [Lib.cell_of_heap hbk]; rfl
  have c1 : w.cell? ⟨b, 1, none⟩ = some v := by rw [Lib.cell_of_heap hbk]; rfl
  go_enter Tryz.func37, Tryz.ntmps37
  go_wp2_with (first
    | (go_at_call 55; refine (Any.Builder_copyCheck_used (P := Tryz.prog) (ρ := Tryz.lays159_ren) { Tryz.lays159 with } Tryz.Builder_Extra_159.toX72 b _ c0).mono ?_; rintro e w1 ⟨rfl, hw1⟩; subst hw1)
    | (at_builtin; refine wpList_append_own _ rfl (.tmp 11) (.tmp 13) 38 rfl B 5 i0 (.int .u8 0) 1 1 Tryz.underlying38 hi hz0 hz1 hz2 rfl (by decide) _ _ _ rfl (hown.alloc _) ⟨_, 0, none⟩ 1 1 [.int .u8 c] rfl rfl ?c1 ?c2 ?c3 ?c4 ?c5 ?_; rotate_right; intro v' w2 hown' hgrow _
       have hb2 : w2.heap[b]? = some (.cells #[.pointer (some ⟨b, 0, none⟩), v] 76 (0, 0)) := by
         rw [hgrow.block b (by simp; omega) (fun e => hne e.symm), Lib.alloc_old _ _ b hlt]
         exact hbk
       have e1 : w2.cell? ⟨b, 1, none⟩ = some v := by rw [Lib.cell_of_heap hb2]; rfl
       have f1 : w2.frozen? ⟨b, 1, none⟩ = false := Lib.frozen_of_heap hb2 1
       obtain ⟨g, cap, rfl⟩ : ∃ g cap, v' = .slice (some ⟨g, 0, none⟩) (bs.length + 1) cap := by
         rcases hown'.2 with ⟨_, h0⟩ | ⟨g, cap, cur, hv, _⟩
         · omega
         · exact ⟨g, cap, hv⟩))
  case c1 =>
    intro j u hj
    match j, hj with
    | 0, hj => simp at hj; subst hj; simp [Addr.add]
  case c2 => intro u hu; simp at hu; subst hu; rfl
  case c3 => unfold maxLen; omega
  case c4 => omega
  case c5 => simp; omega
  go_ret
  refine ⟨rfl, ?_, ?_, v, hbk, hown, ?_⟩
  · exact Lib.BuilderAt.put (T := 76) (e := 5) hB hb2 (bs' := bs ++ [.int .u8 c]) (by simpa using hown') Tryz.Builder_Extra_159.neB5
  · exact (((Below.refl _ _).alloc hBw _).grown hgrow (by simp; omega) (fun k hk => (hown.lt k hk).1)).setCell (p := ⟨b, 1, none⟩) hB _
  · intro k hk hkb hkv
    rw [Below.heap_setCell _ _ _ _ (by simpa using hkb), hgrow.block k (by simp; omega) (fun e => hkv e.symm), Lib.alloc_old _ _ k hk]
end Go.Proofs.YthjminkkmljjhaaGreatDoor

/- slices.Clone over bytes, and impl.Bech32Of over what Decode answers. Conditions: sizes. -/
import Derived.Test.YthjminkkmljjhaaDoorBdbad
namespace Go.Proofs.YthjminkkmljjhaaDoor
open Go.RowKit

set_option maxRecDepth 100000 in
set_option maxHeartbeats 400000 in
theorem clone_any (w : World) (a : Option Addr) (cap : Nat) (l : List UInt8) (hl : l.length ≤ 4294967296) (ha : At w a (u8s l)) :
    Calls Tryd.prog 20 #[.slice a l.length cap] w fun e w' => ∃ v, e = .returned v ∧ Own w' w.heap.size 5 v (u8s l) ∧ Below w.heap.size w w' := by
  have qT : ∀ (w : World) (a : Option Addr) (n c : Nat), (binOp .eql 22 (.slice a n c) (.slice none 0 0)).run Tryd.prog w = .ok (.bool a.isNone) w := fun w a n c => Lib.run_eql_slice_nil w _ _ a n c 0 0 Tryd.underlying22
  go_enter Tryd.func20, Tryd.ntmps20
  cases a with
  | none =>
    have h0 : l = [] := by
      cases l with
      | nil => rfl
      | cons y l => obtain ⟨b, off, e', _⟩ := ha (by simp); cases e'
    subst h0
    go_wp2
    go_ret
    exact ⟨_, rfl, Own.nil _ _ _, Below.refl _ _⟩
  | some p =>
    have ha' := ha.below (Below.alloc (Below.refl _ _) (Nat.le_refl _) (.cells #[] 5))
    go_wp2_with (at_builtin; refine wpList_appendN sty8 rfl (.tmp 5) (.tmp 6) rfl w.heap.size _ _ rfl (Own.empty w w.heap.size _ (Nat.le_refl _)) _ (u8s l) _ _ rfl (u8s_length _) ha' (u8s_oneCell _) ?e3 ?e4 ?e5 ?_; rotate_right; intro v3 w3 hown3 hgr3)
    case e3 => simp; omega
    case e4 => simp [maxLen]; omega
    case e5 => simp
    have hb3 := below_grown (Below.alloc (Below.refl _ _) (Nat.le_refl _) (.cells #[] 5)) (Own.empty w w.heap.size 5 (Nat.le_refl _)) hgr3 (Nat.le_refl _) (by simp)
    rw [List.nil_append] at hown3
    clear hgr3
    go_wp2
    go_ret
    exact ⟨_, rfl, hown3, hb3⟩

set_option maxRecDepth 100000 in
set_option maxHeartbeats 400000 in
theorem of_good (w : World) (s : ByteArray) (name b : List UInt8) (hb : b.length ≤ 4294967296)
    (h : Calls Tryd.prog 19 #[.string s] w fun e w' => DecPost true name b w.heap.size e w' ∧ Below w.heap.size w w') :
    Calls Tryd.prog 9 #[.string s] w fun e w' => ∃ v, e = .returned (.tuple #[.string ⟨name.toArray⟩, v, .bool true]) ∧ Own w' w.heap.size 5 v (u8s b) ∧ Below w.heap.size w w' := by
  have H := Lib.hid h; clear h
  go_enter Tryd.func9, Tryd.ntmps9
  go_wp2_with (first
    | (go_at_call 19; refine H.out.mono ?_; rintro e w1 ⟨⟨v1, rfl, hown1⟩, hb1⟩; obtain ⟨a1, cap1, rfl, _, hat1, _⟩ := hown1.at; rw [u8s_length])
    | (go_at_call 20; refine (clone_any _ a1 cap1 b hb hat1).mono ?_; rintro e w2 ⟨v2, rfl, hown2, hb2⟩))
  go_ret3
  exact ⟨v2, rfl, hown2.mono hb1.size, hb1.trans (hb2.mono hb1.size)⟩

set_option maxRecDepth 100000 in
set_option maxHeartbeats 400000 in
theorem of_bad (w : World) (s : ByteArray)
    (h : Calls Tryd.prog 19 #[.string s] w fun e w' => IsErr e ∧ Below w.heap.size w w') :
    Calls Tryd.prog 9 #[.string s] w fun e w' => e = .returned (.tuple #[.string ⟨#[]⟩, .slice none 0 0, .bool false]) ∧ Below w.heap.size w w' := by
  have H := Lib.hid h; clear h
  go_enter Tryd.func9, Tryd.ntmps9
  go_wp2_with (go_at_call 19; refine H.out.mono ?_; rintro e w1 ⟨⟨v1, rfl⟩, hb1⟩)
  go_ret3
  exact ⟨rfl, hb1⟩
end Go.Proofs.YthjminkkmljjhaaDoor

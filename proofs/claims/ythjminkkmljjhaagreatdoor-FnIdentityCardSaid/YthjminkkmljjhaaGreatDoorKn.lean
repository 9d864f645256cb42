/- The walks of the key parsers on texts that they do not take, and the law FnKeyNames. Conditions: the table as laid; sizes. -/
import Derived.Test.YthjminkkmljjhaaGreatDoorRcp
namespace Go.Proofs.YthjminkkmljjhaaGreatDoor
open Go.RowKit

def secN : List UInt8 := [97, 103, 101, 45, 115, 101, 99, 114, 101, 116, 45, 107, 101, 121, 45]
theorem secNm : isNm secN = true := by decide
def IsErr2 (e : Ending) : Prop := ∃ v, e = .returned (.tuple #[.pointer none, .iface 70 v])

set_option maxRecDepth 100000 in
set_option maxHeartbeats 400000 in
theorem specIdentity_any (w : World) (l : List UInt8) (hl : l.length = 32) :
    Calls Tryz.prog 5 #[.agg (u8s l).toArray] w fun e w' => e = .returned (.string ⟨(upper (text secN l)).toArray⟩) ∧ Below w.heap.size w w' := by
  have hs : (u8s l).length = 32 := by rw [u8s_length, hl]
  have hs2 : (u8s l).toArray.size = 32 := by simp [hl]
  have HL := Lib.hid hl; clear hl
  have hat : At (w.alloc (.cells (u8s l).toArray 22)) (some ⟨w.heap.size, 0, none⟩) (u8s l) := by
    intro _
    refine ⟨_, _, rfl, fun j hj => ?_⟩
    have hn : (w.alloc (.cells (u8s l).toArray 22)).heap[w.heap.size]? = some (.cells (u8s l).toArray 22) := heap_alloc_new w _
    unfold World.cell?
    rw [hn]
    simp only [Nat.zero_add]
    rw [List.getElem?_toArray, List.getElem?_eq_getElem hj]; rfl
  have HAT := Lib.hid hat; clear hat
  have hbl : Below w.heap.size w (w.alloc (.cells (u8s l).toArray 22)) := Below.alloc (Below.refl _ _) (Nat.le_refl _) _
  go_enter Tryz.func5, Tryz.ntmps5
  go_wp2_with fail
  have hc := sbech32_any (w.alloc (.cells (u8s l).toArray 22)) secN (some ⟨w.heap.size, 0, none⟩) 32 l (by decide) (by rw [HL.out]; decide) HAT.out
  rw [HL.out] at hc
  refine hc.mono ?_
  rintro e w1 ⟨rfl, hb1⟩
  have hbb := hbl.trans (hb1.mono hbl.size)
  clear hc
  have htl : (text secN l).length ≤ 4294967296 := by rw [text_length]; unfold Bp.fiveCount; rw [HL.out]; decide
  have HTL := Lib.hid htl; clear htl
  go_wp2_with (go_at_call 12; refine (upper_any _ (text secN l) HTL.out).mono ?_; rintro e w2 ⟨rfl, hb2⟩; have hbb := hbb.trans (hb2.mono hbb.size))
  go_ret
  exact ⟨rfl, hbb⟩

set_option maxRecDepth 100000 in
set_option maxHeartbeats 400000 in
theorem newIdentity_bad (w : World) (a : Option Addr) (cap : Nat) (n : Nat) (hn : n ≠ 32) (hu : n ≤ 9223372036854775807) :
    Calls Tryz.prog 17 #[.slice a n cap] w fun e w' => IsErr2 e ∧ Below w.heap.size w w' := by
  have d1 : ((n : Int) != 32) = true := by rw [bne_iff_ne]; omega
  go_enter Tryz.func17, Tryz.ntmps17
  go_wp2_with (go_at_call 16; go_in)
  go_ret2
  exact ⟨⟨_, rfl⟩, Below.alloc (Below.refl _ _) (Nat.le_refl _) _⟩

set_option maxRecDepth 100000 in
set_option maxHeartbeats 400000 in
theorem parseIdentity_name (w : World) (s : ByteArray) (n b : List UInt8) (hne : n ≠ [65, 71, 69, 45, 83, 69, 67, 82, 69, 84, 45, 75, 69, 89, 45])
    (hd : Calls Tryz.prog 15 #[.string s] w fun e w' => DecPost true n b w.heap.size e w' ∧ Below w.heap.size w w') :
    Calls Tryz.prog 8 #[.string s] w fun e w' => IsErr2 e ∧ Below w.heap.size w w' := by
  have H := Lib.hid hd; clear hd
  have h1 : (n = [65, 71, 69, 45, 83, 69, 67, 82, 69, 84, 45, 75, 69, 89, 45]) = False := eq_false hne
  have h2 : (n == [65, 71, 69, 45, 83, 69, 67, 82, 69, 84, 45, 75, 69, 89, 45]) = false := beq_eq_false_iff_ne.2 hne
  clear hne
  go_enter Tryz.func8, Tryz.ntmps8
  go_wp2_with (first
    | (go_at_call 15; refine H.out.mono ?_; rintro e w1 ⟨⟨v1, rfl, hown1⟩, hb1⟩; obtain ⟨a1, cap1, rfl, _, hat1, _⟩ := hown1.at; rw [u8s_length])
    | (go_at_call 16; go_in))
  go_ret2
  exact ⟨⟨_, rfl⟩, hb1.alloc hb1.size _⟩

set_option maxRecDepth 100000 in
set_option maxHeartbeats 400000 in
theorem parseIdentity_len (w : World) (s : ByteArray) (n b : List UInt8) (hn : n = [65, 71, 69, 45, 83, 69, 67, 82, 69, 84, 45, 75, 69, 89, 45]) (hb : b.length ≠ 32) (hu : b.length ≤ 9223372036854775807)
    (hd : Calls Tryz.prog 15 #[.string s] w fun e w' => DecPost true n b w.heap.size e w' ∧ Below w.heap.size w w') :
    Calls Tryz.prog 8 #[.string s] w fun e w' => IsErr2 e ∧ Below w.heap.size w w' := by
  subst hn
  have H := Lib.hid hd; clear hd
  have HB := Lib.hid hb; clear hb
  go_enter Tryz.func8, Tryz.ntmps8
  go_wp2_with (first
    | (go_at_call 15; refine H.out.mono ?_; rintro e w1 ⟨⟨v1, rfl, hown1⟩, hb1⟩; obtain ⟨a1, cap1, rfl, _, hat1, _⟩ := hown1.at; rw [u8s_length])
    | (go_at_call 17; refine (newIdentity_bad _ a1 cap1 b.length HB.out hu).mono ?_; rintro e w2 ⟨⟨v2, rfl⟩, hb2⟩; have hb3 := hb1.trans (hb2.mono hb1.size))
    | (go_at_call 16; go_in))
  go_ret2
  exact ⟨⟨_, rfl⟩, hb3.alloc hb3.size _⟩

set_option maxRecDepth 100000 in
set_option maxHeartbeats 400000 in
theorem implIdentity_bad (w : World) (s : ByteArray) (hd : Calls Tryz.prog 8 #[.string s] w fun e w' => IsErr2 e ∧ Below w.heap.size w w') :
    Calls Tryz.prog 4 #[.string s] w fun e w' => e = .returned (.tuple #[.string ⟨#[]⟩, .string ⟨#[]⟩, .bool false]) ∧ Below w.heap.size w w' := by
  have H := Lib.hid hd; clear hd
  go_enter Tryz.func4, Tryz.ntmps4
  go_wp2_with (go_at_call 8; refine H.out.mono ?_; rintro e w1 ⟨⟨v1, rfl⟩, hb1⟩)
  go_ret3
  exact ⟨rfl, hb1⟩

end Go.Proofs.YthjminkkmljjhaaGreatDoor

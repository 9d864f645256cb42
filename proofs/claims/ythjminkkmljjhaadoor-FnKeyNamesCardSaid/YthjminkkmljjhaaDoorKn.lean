/- The walks of the key parsers on texts that they do not take, and the law FnKeyNames. Conditions: the table as laid; sizes. -/
import Derived.Test.YthjminkkmljjhaaDoorRcp
namespace Go.Proofs.YthjminkkmljjhaaDoor
open Go.RowKit

def secN : List UInt8 := [97, 103, 101, 45, 115, 101, 99, 114, 101, 116, 45, 107, 101, 121, 45]
theorem secNm : isNm secN = true := by decide
def IsErr2 (e : Ending) : Prop := ∃ v, e = .returned (.tuple #[.pointer none, .iface 81 v])

set_option maxRecDepth 100000 in
set_option maxHeartbeats 400000 in
theorem specIdentity_any (w : World) (l : List UInt8) (hl : l.length = 32) :
    Calls Tryd.prog 16 #[.agg (u8s l).toArray] w fun e w' => e = .returned (.string ⟨(upper (text secN l)).toArray⟩) ∧ Below w.heap.size w w' := by
  have hs : (u8s l).length = 32 := by rw [u8s_length, hl]
  have hs2 : (u8s l).toArray.size = 32 := by simp [hl]
  have HL := Lib.hid hl; clear hl
  have hat : At (w.alloc (.cells (u8s l).toArray 33)) (some ⟨w.heap.size, 0, none⟩) (u8s l) := by
    intro _
    refine ⟨_, _, rfl, fun j hj => ?_⟩
    have hn : (w.alloc (.cells (u8s l).toArray 33)).heap[w.heap.size]? = some (.cells (u8s l).toArray 33) := heap_alloc_new w _
    unfold World.cell?
    rw [hn]
    simp only [Nat.zero_add]
    rw [List.getElem?_toArray, List.getElem?_eq_getElem hj]; rfl
  have HAT := Lib.hid hat; clear hat
  have hbl : Below w.heap.size w (w.alloc (.cells (u8s l).toArray 33)) := Below.alloc (Below.refl _ _) (Nat.le_refl _) _
  go_enter Tryd.func16, Tryd.ntmps16
  go_wp2_with fail
  have hc := sbech32_any (w.alloc (.cells (u8s l).toArray 33)) secN (some ⟨w.heap.size, 0, none⟩) 32 l (by decide) (by rw [HL.out]; decide) HAT.out
  rw [HL.out] at hc
  refine hc.mono ?_
  rintro e w1 ⟨rfl, hb1⟩
  have hbb := hbl.trans (hb1.mono hbl.size)
  clear hc
  have htl : (text secN l).length ≤ 4294967296 := by rw [text_length]; unfold Bp.fiveCount; rw [HL.out]; decide
  have HTL := Lib.hid htl; clear htl
  go_wp2_with (go_at_call 11; refine (upper_any _ (text secN l) HTL.out).mono ?_; rintro e w2 ⟨rfl, hb2⟩; have hbb := hbb.trans (hb2.mono hbb.size))
  go_ret
  exact ⟨rfl, hbb⟩

set_option maxRecDepth 100000 in
set_option maxHeartbeats 400000 in
theorem newRecipient_bad (w : World) (a : Option Addr) (cap : Nat) (n : Nat) (hn : n ≠ 32) (hu : n ≤ 9223372036854775807) :
    Calls Tryd.prog 38 #[.slice a n cap] w fun e w' => IsErr2 e ∧ Below w.heap.size w w' := by
  have d1 : ((n : Int) != 32) = true := by rw [bne_iff_ne]; omega
  go_enter Tryd.func38, Tryd.ntmps38
  go_wp2_with (go_at_call 29; go_in)
  go_ret2
  exact ⟨⟨_, rfl⟩, Below.alloc (Below.refl _ _) (Nat.le_refl _) _⟩

set_option maxRecDepth 100000 in
set_option maxHeartbeats 400000 in
theorem newIdentity_bad (w : World) (a : Option Addr) (cap : Nat) (n : Nat) (hn : n ≠ 32) (hu : n ≤ 9223372036854775807) :
    Calls Tryd.prog 39 #[.slice a n cap] w fun e w' => IsErr2 e ∧ Below w.heap.size w w' := by
  have d1 : ((n : Int) != 32) = true := by rw [bne_iff_ne]; omega
  go_enter Tryd.func39, Tryd.ntmps39
  go_wp2_with (go_at_call 29; go_in)
  go_ret2
  exact ⟨⟨_, rfl⟩, Below.alloc (Below.refl _ _) (Nat.le_refl _) _⟩

set_option maxRecDepth 100000 in
set_option maxHeartbeats 400000 in
theorem parseRecipient_name (w : World) (s : ByteArray) (n b : List UInt8) (hne : n ≠ [97, 103, 101])
    (hd : Calls Tryd.prog 19 #[.string s] w fun e w' => DecPost true n b w.heap.size e w' ∧ Below w.heap.size w w') :
    Calls Tryd.prog 22 #[.string s] w fun e w' => IsErr2 e ∧ Below w.heap.size w w' := by
  have H := Lib.hid hd; clear hd
  have h1 : (n = [97, 103, 101]) = False := eq_false hne
  have h2 : (n == [97, 103, 101]) = false := beq_eq_false_iff_ne.2 hne
  clear hne
  go_enter Tryd.func22, Tryd.ntmps22
  go_wp2_with (first
    | (go_at_call 19; refine H.out.mono ?_; rintro e w1 ⟨⟨v1, rfl, hown1⟩, hb1⟩; obtain ⟨a1, cap1, rfl, _, hat1, _⟩ := hown1.at; rw [u8s_length])
    | (go_at_call 29; go_in))
  go_ret2
  exact ⟨⟨_, rfl⟩, hb1.alloc hb1.size _⟩

set_option maxRecDepth 100000 in
set_option maxHeartbeats 400000 in
theorem parseIdentity_name (w : World) (s : ByteArray) (n b : List UInt8) (hne : n ≠ [65, 71, 69, 45, 83, 69, 67, 82, 69, 84, 45, 75, 69, 89, 45])
    (hd : Calls Tryd.prog 19 #[.string s] w fun e w' => DecPost true n b w.heap.size e w' ∧ Below w.heap.size w w') :
    Calls Tryd.prog 24 #[.string s] w fun e w' => IsErr2 e ∧ Below w.heap.size w w' := by
  have H := Lib.hid hd; clear hd
  have h1 : (n = [65, 71, 69, 45, 83, 69, 67, 82, 69, 84, 45, 75, 69, 89, 45]) = False := eq_false hne
  have h2 : (n == [65, 71, 69, 45, 83, 69, 67, 82, 69, 84, 45, 75, 69, 89, 45]) = false := beq_eq_false_iff_ne.2 hne
  clear hne
  go_enter Tryd.func24, Tryd.ntmps24
  go_wp2_with (first
    | (go_at_call 19; refine H.out.mono ?_; rintro e w1 ⟨⟨v1, rfl, hown1⟩, hb1⟩; obtain ⟨a1, cap1, rfl, _, hat1, _⟩ := hown1.at; rw [u8s_length])
    | (go_at_call 29; go_in))
  go_ret2
  exact ⟨⟨_, rfl⟩, hb1.alloc hb1.size _⟩

set_option maxRecDepth 100000 in
set_option maxHeartbeats 400000 in
theorem parseRecipient_len (w : World) (s : ByteArray) (n b : List UInt8) (hn : n = [97, 103, 101]) (hb : b.length ≠ 32) (hu : b.length ≤ 9223372036854775807)
    (hd : Calls Tryd.prog 19 #[.string s] w fun e w' => DecPost true n b w.heap.size e w' ∧ Below w.heap.size w w') :
    Calls Tryd.prog 22 #[.string s] w fun e w' => IsErr2 e ∧ Below w.heap.size w w' := by
  subst hn
  have H := Lib.hid hd; clear hd
  have HB := Lib.hid hb; clear hb
  go_enter Tryd.func22, Tryd.ntmps22
  go_wp2_with (first
    | (go_at_call 19; refine H.out.mono ?_; rintro e w1 ⟨⟨v1, rfl, hown1⟩, hb1⟩; obtain ⟨a1, cap1, rfl, _, hat1, _⟩ := hown1.at; rw [u8s_length])
    | (go_at_call 38; refine (newRecipient_bad _ a1 cap1 b.length HB.out hu).mono ?_; rintro e w2 ⟨⟨v2, rfl⟩, hb2⟩; have hb3 := hb1.trans (hb2.mono hb1.size))
    | (go_at_call 29; go_in))
  go_ret2
  exact ⟨⟨_, rfl⟩, hb3.alloc hb3.size _⟩

set_option maxRecDepth 100000 in
set_option maxHeartbeats 400000 in
theorem parseIdentity_len (w : World) (s : ByteArray) (n b : List UInt8) (hn : n = [65, 71, 69, 45, 83, 69, 67, 82, 69, 84, 45, 75, 69, 89, 45]) (hb : b.length ≠ 32) (hu : b.length ≤ 9223372036854775807)
    (hd : Calls Tryd.prog 19 #[.string s] w fun e w' => DecPost true n b w.heap.size e w' ∧ Below w.heap.size w w') :
    Calls Tryd.prog 24 #[.string s] w fun e w' => IsErr2 e ∧ Below w.heap.size w w' := by
  subst hn
  have H := Lib.hid hd; clear hd
  have HB := Lib.hid hb; clear hb
  go_enter Tryd.func24, Tryd.ntmps24
  go_wp2_with (first
    | (go_at_call 19; refine H.out.mono ?_; rintro e w1 ⟨⟨v1, rfl, hown1⟩, hb1⟩; obtain ⟨a1, cap1, rfl, _, hat1, _⟩ := hown1.at; rw [u8s_length])
    | (go_at_call 39; refine (newIdentity_bad _ a1 cap1 b.length HB.out hu).mono ?_; rintro e w2 ⟨⟨v2, rfl⟩, hb2⟩; have hb3 := hb1.trans (hb2.mono hb1.size))
    | (go_at_call 29; go_in))
  go_ret2
  exact ⟨⟨_, rfl⟩, hb3.alloc hb3.size _⟩

set_option maxRecDepth 100000 in
set_option maxHeartbeats 400000 in
theorem implRecipient_bad (w : World) (s : ByteArray) (hd : Calls Tryd.prog 22 #[.string s] w fun e w' => IsErr2 e ∧ Below w.heap.size w w') :
    Calls Tryd.prog 13 #[.string s] w fun e w' => e = .returned (.tuple #[.string ⟨#[]⟩, .bool false]) ∧ Below w.heap.size w w' := by
  have H := Lib.hid hd; clear hd
  go_enter Tryd.func13, Tryd.ntmps13
  go_wp2_with (go_at_call 22; refine H.out.mono ?_; rintro e w1 ⟨⟨v1, rfl⟩, hb1⟩)
  go_ret2
  exact ⟨rfl, hb1⟩

set_option maxRecDepth 100000 in
set_option maxHeartbeats 400000 in
theorem implIdentity_bad (w : World) (s : ByteArray) (hd : Calls Tryd.prog 24 #[.string s] w fun e w' => IsErr2 e ∧ Below w.heap.size w w') :
    Calls Tryd.prog 15 #[.string s] w fun e w' => e = .returned (.tuple #[.string ⟨#[]⟩, .string ⟨#[]⟩, .bool false]) ∧ Below w.heap.size w w' := by
  have H := Lib.hid hd; clear hd
  go_enter Tryd.func15, Tryd.ntmps15
  go_wp2_with (go_at_call 24; refine H.out.mono ?_; rintro e w1 ⟨⟨v1, rfl⟩, hb1⟩)
  go_ret3
  exact ⟨rfl, hb1⟩

set_option maxRecDepth 100000 in
set_option maxHeartbeats 1000000 in
theorem fnKeyNames_any (w : World) (l : List UInt8) (hl : l.length = 32) (a : Option Addr) (cap : Nat) (b : List UInt8) (hb : b.length ≤ 9223372036854775807) (ha : At w a (u8s b)) (hg : Gens w) (h0 : 0 < w.heap.size) :
    Calls Tryd.prog 6 #[.agg (u8s l).toArray, .slice a b.length cap] w fun e w' => e = .returned (.bool true) ∧ Below w.heap.size w w' := by
  have HL := Lib.hid hl; clear hl
  have HG := Lib.hid hg; clear hg
  have HA := Lib.hid ha; clear ha
  have hb0 : Below w.heap.size w (w.alloc (.cells (u8s l).toArray 33)) := Below.alloc (Below.refl _ _) (Nat.le_refl _) _
  by_cases h1 : 2147483647 < b.length
  · have d1 : decide (2147483647 < (b.length : Int)) = true := by simp; omega
    go_enter Tryd.func6, Tryd.ntmps6
    go_wp2
    go_ret
    exact ⟨rfl, hb0⟩
  have d1 : decide (2147483647 < (b.length : Int)) = false := by simp; omega
  by_cases h2 : 256 < b.length
  · have d2 : decide (256 < (b.length : Int)) = true := by simp; omega
    go_enter Tryd.func6, Tryd.ntmps6
    go_wp2
    go_ret
    exact ⟨rfl, hb0⟩
  have d2 : decide (256 < (b.length : Int)) = false := by simp; omega
  by_cases h3 : b.length = 32
  · have d3 : ((b.length : Int) == 32) = true := by rw [beq_iff_eq]; omega
    clear h3
    go_enter Tryd.func6, Tryd.ntmps6
    go_wp2
    go_ret
    exact ⟨rfl, hb0⟩
  have d3 : ((b.length : Int) == 32) = false := by rw [beq_eq_false_iff_ne]; omega
  have HB : Hid (b.length ≠ 32 ∧ b.length ≤ 256) := ⟨h3, by omega⟩
  clear h1 h2 h3
  have hn1 : Hid ((w.alloc (.cells (u8s l).toArray 33)).heap[w.heap.size]? = some (.cells (u8s l).toArray 33)) := heap_alloc_new w _
  have HI : Hid ((Tryd.prog.info? 33).map (·.size) = some (u8s l).toArray.size) := by
    unfold Hid; rw [show (u8s l).toArray.size = 32 from by simp [HL.out]]; kernel_rfl
  have KEY : Hid (∀ w', Below (w.alloc (.cells (u8s l).toArray 33)).heap.size (w.alloc (.cells (u8s l).toArray 33)) w' → w'.heap[w.heap.size]? = some (.cells (u8s l).toArray 33)) := fun w' hb => (hb.block _ (by simp)).trans hn1.out
  have KG : Hid (∀ w', Below w.heap.size w w' → Gens w' ∧ 0 < w'.heap.size) := fun w' hb => ⟨below_gens HG.out hb h0, by have := hb.size; omega⟩
  have KB : Hid (∀ w', Below (w.alloc (.cells (u8s l).toArray 33)).heap.size (w.alloc (.cells (u8s l).toArray 33)) w' → Below w.heap.size w w') := fun w' hb => hb0.trans (hb.mono hb0.size)
  have KT : Hid (∀ w', Below w.heap.size w w' → At w' a (u8s b)) := fun w' hb => HA.out.below hb
  have hl8 : l.length ≤ 268435456 := by rw [HL.out]; decide
  have HL8 := Lib.hid hl8; clear hl8
  have hbb8 : b.length ≤ 268435456 := by have := HB.out.2; omega
  have HB8 := Lib.hid hbb8; clear hbb8
  have htl : (text secN b).length ≤ 4294967296 := by rw [text_length]; have := HB.out.2; unfold Bp.fiveCount; simp [secN]; omega
  have HTL := Lib.hid htl; clear htl
  go_enter Tryd.func6, Tryd.ntmps6
  go_wp2_with (refine wpList_load_row rfl 33 (.tmp 2) rfl w.heap.size rfl 33 (u8s l).toArray (0, 0) (.array 32 5) hn1.out Tryd.underlying33 rfl HI.out ?_)
  refine (specRecipient_any _ l HL.out).mono ?_
  rintro e w1 ⟨rfl, k1⟩
  go_wp2_with fail
  refine (implIdentity_bad _ _ (parseIdentity_name _ _ ageN l (by decide) (decode_text _ ageN l ageNm HL8.out (KG.out _ (KB.out _ k1)).1 (KG.out _ (KB.out _ k1)).2))).mono ?_
  rintro e w2 ⟨rfl, hb2⟩
  have k2 := k1.trans (hb2.mono k1.size)
  clear hb2 k1
  go_wp2_with (refine wpList_load_row rfl 33 (.tmp 2) rfl w.heap.size rfl 33 (u8s l).toArray (0, 0) (.array 32 5) (KEY.out _ k2) Tryd.underlying33 rfl HI.out ?_)
  refine (specIdentity_any _ l HL.out).mono ?_
  rintro e w3 ⟨rfl, hb3⟩
  have k3 := k2.trans (hb3.mono k2.size)
  clear hb3 k2
  go_wp2_with fail
  refine (implRecipient_bad _ _ (parseRecipient_name _ _ (upper secN) l (by decide) (decode_upper _ secN l secNm HL8.out (KG.out _ (KB.out _ k3)).1 (KG.out _ (KB.out _ k3)).2))).mono ?_
  rintro e w4 ⟨rfl, hb4⟩
  have k4 := k3.trans (hb4.mono k3.size)
  clear hb4 k3
  go_wp2_with fail
  refine (sbech32_any _ secN a cap b (by decide) HB8.out (KT.out _ (KB.out _ k4))).mono ?_
  rintro e w5 ⟨rfl, hb5⟩
  have k5 := k4.trans (hb5.mono k4.size)
  clear hb5 k4
  go_wp2_with fail
  refine (upper_any _ (text secN b) HTL.out).mono ?_
  rintro e w6 ⟨rfl, hb6⟩
  have k6 := k5.trans (hb6.mono k5.size)
  clear hb6 k5
  go_wp2_with fail
  refine (implIdentity_bad _ _ (parseIdentity_len _ _ (upper secN) b (by decide) HB.out.1 hb (decode_upper _ secN b secNm HB8.out (KG.out _ (KB.out _ k6)).1 (KG.out _ (KB.out _ k6)).2))).mono ?_
  rintro e w7 ⟨rfl, hb7⟩
  have k7 := k6.trans (hb7.mono k6.size)
  clear hb7 k6
  go_wp2_with fail
  refine (sbech32_any _ ageN a cap b (by decide) HB8.out (KT.out _ (KB.out _ k7))).mono ?_
  rintro e w8 ⟨rfl, hb8⟩
  have k8 := k7.trans (hb8.mono k7.size)
  clear hb8 k7
  go_wp2_with fail
  refine (implRecipient_bad _ _ (parseRecipient_len _ _ ageN b (by decide) HB.out.1 hb (decode_text _ ageN b ageNm HB8.out (KG.out _ (KB.out _ k8)).1 (KG.out _ (KB.out _ k8)).2))).mono ?_
  rintro e w9 ⟨rfl, hb9⟩
  have k9 := k8.trans (hb9.mono k8.size)
  clear hb9 k8
  go_wp2_with (refine wpList_load_row rfl 33 (.tmp 2) rfl w.heap.size rfl 33 (u8s l).toArray (0, 0) (.array 32 5) (KEY.out _ k9) Tryd.underlying33 rfl HI.out ?_)
  refine (specRecipient_any _ l HL.out).mono ?_
  rintro e w10 ⟨rfl, hb10⟩
  have k10 := k9.trans (hb10.mono k9.size)
  clear hb10 k9
  go_wp2_with fail
  refine (implRecipient_any _ _ l HL.out (KG.out _ (KB.out _ k10)).1 (KG.out _ (KB.out _ k10)).2 (decode_text _ ageN l ageNm HL8.out (KG.out _ (KB.out _ k10)).1 (KG.out _ (KB.out _ k10)).2)).mono ?_
  rintro e w11 ⟨rfl, hb11⟩
  have k11 := k10.trans (hb11.mono k10.size)
  clear hb11 k10
  have kb := KB.out _ k11
  go_wp2
  go_ret
  exact ⟨rfl, kb⟩
end Go.Proofs.YthjminkkmljjhaaDoor

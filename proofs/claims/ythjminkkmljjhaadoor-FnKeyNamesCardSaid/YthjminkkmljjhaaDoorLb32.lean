/- The walks of impl.Bech32 and of laws.FnBech32. Conditions: the table as laid. -/
import Derived.Test.YthjminkkmljjhaaDoorBenc
import Derived.Deep.QuietTactic
import Derived.BigQuiet
namespace Go.Proofs.YthjminkkmljjhaaDoor
open Go.RowKit

set_option maxRecDepth 100000 in
set_option maxHeartbeats 400000 in
theorem implBech32_any (w : World) (n : List UInt8) (a : Option Addr) (cap : Nat) (b : List UInt8) (hnm : isNm n = true) (hb : b.length ≤ 268435456) (ha : At w a (u8s b)) (hg : Gens w) (h0 : 0 < w.heap.size) :
    Calls Tryd.prog 10 #[.string ⟨n.toArray⟩, .slice a b.length cap] w fun e w' => e = .returned (.tuple #[.string ⟨(text n b).toArray⟩, .bool true]) ∧ Below w.heap.size w w' := by
  have HNM := Lib.hid hnm; clear hnm
  have HG := Lib.hid hg; clear hg
  have et : encText n n b = text n b := by unfold encText; rw [if_pos rfl]
  go_enter Tryd.func10, Tryd.ntmps10
  go_wp2_with (first
    | (go_at_call 20; refine (clone_any _ a cap b (by omega) ha).mono ?_; rintro e w1 ⟨v1, rfl, hown1, hb1⟩; obtain ⟨a1, cap1, rfl, _, hat1, _⟩ := hown1.at; rw [u8s_length])
    | (go_at_call 21; refine (encode_any _ n n a1 cap1 b HNM.out (.inl rfl) hb hat1 (below_gens HG.out hb1 h0) (by have := hb1.size; omega)).mono ?_; rintro e w2 ⟨rfl, hb2⟩; rw [et]))
  have hb3 := hb1.trans (hb2.mono hb1.size)
  clear hown1 hat1
  go_quiet (fail)
  go_wp2
  go_ret2
  exact ⟨rfl, hb3.os, hb3.tape, hb3.output, hb3.size, hb3.block⟩

set_option maxRecDepth 100000 in
set_option maxHeartbeats 1000000 in
theorem fnBech32_any (w : World) (n : List UInt8) (a : Option Addr) (cap : Nat) (b : List UInt8) (hn : n.length ≤ 9223372036854775807) (hb : b.length ≤ 9223372036854775807) (ha : At w a (u8s b))
    (hg : Gens w) (h0 : 0 < w.heap.size) :
    Calls Tryd.prog 4 #[.string ⟨n.toArray⟩, .slice a b.length cap] w fun e w' => e = .returned (.bool true) ∧ Below w.heap.size w w' := by
  by_cases h1 : 2147483647 < n.length
  · have d1 : decide (2147483647 < (n.length : Int)) = true := by simp; omega
    go_enter Tryd.func4, Tryd.ntmps4
    go_wp2
    go_ret
    exact ⟨rfl, Below.refl _ _⟩
  have d1 : decide (2147483647 < (n.length : Int)) = false := by simp; omega
  by_cases h2 : 2147483647 < b.length
  · have d2 : decide (2147483647 < (b.length : Int)) = true := by simp; omega
    go_enter Tryd.func4, Tryd.ntmps4
    go_wp2
    go_ret
    exact ⟨rfl, Below.refl _ _⟩
  have d2 : decide (2147483647 < (b.length : Int)) = false := by simp; omega
  cases hnm : isNm n with
  | false =>
    have HNM := Lib.hid hnm; clear hnm
    go_enter Tryd.func4, Tryd.ntmps4
    go_wp2_with (go_at_call 7; refine (isName_any _ n (by omega)).mono ?_; rintro e w ⟨rfl, rfl⟩; rw [HNM.out])
    go_ret
    exact ⟨rfl, Below.refl _ _⟩
  | true =>
    have HNM := Lib.hid hnm; clear hnm
    by_cases h3 : 256 < b.length
    · have d3 : decide (256 < (b.length : Int)) = true := by simp; omega
      go_enter Tryd.func4, Tryd.ntmps4
      go_wp2_with (go_at_call 7; refine (isName_any _ n (by omega)).mono ?_; rintro e w ⟨rfl, rfl⟩; rw [HNM.out])
      go_ret
      exact ⟨rfl, Below.refl _ _⟩
    have d3 : decide (256 < (b.length : Int)) = false := by simp; omega
    obtain ⟨n1, n2, n3⟩ := isNm_parts HNM.out
    have hT := text_length n b
    have hF : Bp.fiveCount b.length ≤ 1000 := by unfold Bp.fiveCount; omega
    have hlen : n.length ≤ 268435456 ∧ b.length ≤ 268435456 ∧ (text n b).length ≤ 4294967296 := by omega
    have HN3 := Lib.hid n3; clear n3
    have HL := Lib.hid hlen; clear hlen hT hF h1 h2 h3
    have HA := Lib.hid ha; clear ha
    have HG := Lib.hid hg; clear hg
    go_enter Tryd.func4, Tryd.ntmps4
    go_wp2_with (go_at_call 7; refine (isName_any _ n (by have := HL.out.1; omega)).mono ?_; rintro e w ⟨rfl, rfl⟩; rw [HNM.out])
    refine (implBech32_any _ n a cap b HNM.out HL.out.2.1 HA.out HG.out h0).mono ?_
    rintro e w1 ⟨rfl, hb1⟩
    go_wp2_with fail
    refine (sbech32_any _ n a cap b HL.out.1 HL.out.2.1 (HA.out.below hb1)).mono ?_
    rintro e w2 ⟨rfl, hb2⟩
    have hbb2 := hb1.trans (hb2.mono hb1.size)
    go_wp2_with fail
    refine (of_good _ _ n b (by have := HL.out.2.1; omega) (decode_text _ n b HNM.out HL.out.2.1 (HG.out.below hbb2 h0) (by have := hbb2.size; omega))).mono ?_
    rintro e w3 ⟨v3, rfl, hown3, hb3⟩
    obtain ⟨a3, cap3, rfl, _, hat3, _⟩ := hown3.at
    have hbb3 := hbb2.trans (hb3.mono hbb2.size)
    rw [u8s_length]
    go_wp2_with fail
    refine (sbech32_any _ n a cap b HL.out.1 HL.out.2.1 (HA.out.below hbb3)).mono ?_
    rintro e w4 ⟨rfl, hb4⟩
    have hbb4 := hbb3.trans (hb4.mono hbb3.size)
    have hat4 := hat3.below hb4
    go_wp2_with fail
    refine (upper_any _ (text n b) HL.out.2.2).mono ?_
    rintro e w5 ⟨rfl, hb5⟩
    have hbb5 := hbb4.trans (hb5.mono hbb4.size)
    have hat5 := hat4.below hb5
    go_wp2_with fail
    refine (of_good _ _ (upper n) b (by have := HL.out.2.1; omega) (decode_upper _ n b HNM.out HL.out.2.1 (HG.out.below hbb5 h0) (by have := hbb5.size; omega))).mono ?_
    rintro e w6 ⟨v6, rfl, hown6, hb6⟩
    obtain ⟨a6, cap6, rfl, _, hat6, _⟩ := hown6.at
    have hbb6 := hbb5.trans (hb6.mono hbb5.size)
    have hat6' := hat5.below hb6
    rw [u8s_length]
    clear hb1 hb2 hb3 hb4 hb5 hb6 hat3 hat4 hat5 hown3 hown6
    go_wp2_with fail
    refine (sbech32_any _ n a cap b HL.out.1 HL.out.2.1 (HA.out.below hbb6)).mono ?_
    rintro e w7 ⟨rfl, hb7⟩
    have hbb7 := hbb6.trans (hb7.mono hbb6.size)
    have hat7 := hat6'.below hb7
    have hat7' := hat6.below hb7
    go_wp2_with fail
    refine (same_any _ a3 a cap3 cap b b hat7 (HA.out.below hbb7)).mono ?_
    rintro e w8 ⟨rfl, rfl⟩
    rw [beq_self_eq_true]
    go_wp2_with fail
    refine (same_any _ a6 a cap6 cap b b hat7' (HA.out.below hbb7)).mono ?_
    rintro e w8 ⟨rfl, rfl⟩
    rw [beq_self_eq_true]
    go_wp2
    go_ret
    exact ⟨rfl, hbb7⟩
end Go.Proofs.YthjminkkmljjhaaDoor

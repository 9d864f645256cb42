/- The walk of laws.FnBech32Turned. Conditions: the table as laid; sizes as any string and slice has them. -/
import Derived.Test.YthjminkkmljjhaaDoorBlaw
namespace Go.Proofs.YthjminkkmljjhaaDoor
open Go.RowKit

theorem u8s_set (l : List UInt8) (i : Nat) (c : UInt8) : (u8s l).set i (.int .u8 (c.toNat : Int)) = u8s (l.set i c) := by
  unfold u8s; rw [List.map_set]

theorem run_toString {P : Program} {src dst e : TypeId} (w : World) (hs : P.underlying src = some (.slice e)) (hd : P.underlying dst = some .string) (he : P.underlying e = some (.int .u8))
    (ad : Option Addr) (cap : Nat) (l : List UInt8) (hat : At w ad (u8s l)) : (convert src dst (.slice ad l.length cap)).run P w = .ok (.string ⟨l.toArray⟩) w := by
  cases ad with
  | none =>
    have h0 : l = [] := by
      cases l with
      | nil => rfl
      | cons y l => obtain ⟨b, off, e', _⟩ := hat (by simp); cases e'
    subst h0
    simp [convert, run_underlying hs, run_underlying hd, run_underlying he, Conv.bytesToString]
    rfl
  | some p =>
    refine run_convert_bytes_back w src dst e p cap l hs he hd fun j hj => ?_
    obtain ⟨b, off, e', hc⟩ := hat.u8 j hj
    cases e'
    simp only [Addr.add]
    split
    · rename_i h0; subst h0; simpa using hc
    · exact hc

set_option maxRecDepth 100000 in
set_option maxHeartbeats 1000000 in
theorem turned_let (w : World) (n : List UInt8) (a : Option Addr) (cap : Nat) (b : List UInt8) (q : Nat) (c : UInt8) (hn : n.length ≤ 9223372036854775807) (hb : b.length ≤ 9223372036854775807) (ha : At w a (u8s b))
    (hg : Gens w) (h0 : 0 < w.heap.size) (d1 : decide (2147483647 < (n.length : Int)) = false) (d2 : decide (2147483647 < (b.length : Int)) = false) (HNM : Hid (isNm n = true)) (h3 : ¬ 256 < b.length) (d3 : decide (256 < (b.length : Int)) = false)
    (d4 : decide ((q : Int) < 0) = false) (d5 : decide (1024 < (q : Int)) = false) (hq : q ≤ 1024) (hsb : c ≠ 49 → signByte c = true) (e1 : decide ((c.toNat : Int) < 97) = false) (e2 : decide ((122 : Int) < (c.toNat : Int)) = false) (e3 : decide ((c.toNat : Int) < 48) = false) (e4 : decide ((57 : Int) < (c.toNat : Int)) = true) :
    Calls Tryd.prog 3 #[.string ⟨n.toArray⟩, .slice a b.length cap, .int .i64 (q : Int), .int .u8 (c.toNat : Int)] w fun e w' => e = .returned (.bool true) ∧ Below w.heap.size w w' := by
  have hc := UInt8.toNat_lt c
  go_enter Tryd.func3, Tryd.ntmps3
  have hT := text_length n b
  have hF : Bp.fiveCount b.length ≤ 1000 := by unfold Bp.fiveCount; omega
  have hn30 := (isNm_parts HNM.out).2.1
  have HTL : Hid ((text n b).length ≤ maxLen) := by unfold Hid maxLen; omega
  have HN2 : Hid (n.length ≤ 268435456) := by unfold Hid; omega
  have HB2 : Hid (b.length ≤ 268435456) := by unfold Hid; omega
  have hlen : n.length ≤ 30 ∧ (text n b).length ≤ 2000 := by omega
  clear hT hF
  have HC0 : Hid (∀ {w3 : World} {g3 cap3 : Nat}, Own w3 w.heap.size 5 (.slice (some ⟨g3, 0, none⟩) (text n b).length cap3) (u8s (text n b)) → ∀ (h : n.length + 1 + q < (text n b).length), w3.cell? ⟨g3, n.length + 1 + q, none⟩ = some (.int .u8 ((text n b)[n.length + 1 + q].toNat : Int))) := by
    intro w3 g3 cap3 h hlt
    have := h.cellAt (n.length + 1 + q) (by rw [u8s_length]; exact hlt)
    rw [this, u8s_get]
  have HFR : Hid (∀ {w3 : World} {g3 cap3 : Nat}, Own w3 w.heap.size 5 (.slice (some ⟨g3, 0, none⟩) (text n b).length cap3) (u8s (text n b)) → ∀ (h : n.length + 1 + q < (text n b).length), w3.frozen? ⟨g3, n.length + 1 + q, none⟩ = false) := by
    intro w3 g3 cap3 h hlt
    exact h.frozenAt (n.length + 1 + q) (by rw [u8s_length]; exact hlt)
  by_cases h90 : 90 < (text n b).length
  · have d6 : decide (90 < ((text n b).length : Int)) = true := by simp; omega
    go_wp2_with (first
      | (go_at_call 7; refine (isName_any _ n (by omega)).mono ?_; rintro e w ⟨rfl, rfl⟩; rw [HNM.out])
      | (go_at_call 8; refine (sbech32_any _ n a cap b HN2.out HB2.out ha).mono ?_; rintro e w2 ⟨rfl, hb2⟩)
      | (refine wpList_toBytes rfl (.tmp 59) rfl Tryd.underlying9 Tryd.underlying22 Tryd.underlying5 w.heap.size (text n b) rfl HTL.out hb2.size ?_; intro g3 cap3 w3 hown3 hgr3; have hb3 := hb2.grown hgr3 hb2.size (fun k h => by cases h); have hcl := HC0.out hown3; have hfr := HFR.out hown3; clear hgr3))
    go_ret
    exact ⟨rfl, hb3⟩
  have d6 : decide (90 < ((text n b).length : Int)) = false := by simp; omega
  by_cases hat : (text n b).length ≤ n.length + 1 + q
  · have d7 : decide (((text n b).length : Int) ≤ (n.length : Int) + 1 + (q : Int)) = true := by simp; omega
    go_wp2_with (first
      | (go_at_call 7; refine (isName_any _ n (by omega)).mono ?_; rintro e w ⟨rfl, rfl⟩; rw [HNM.out])
      | (go_at_call 8; refine (sbech32_any _ n a cap b HN2.out HB2.out ha).mono ?_; rintro e w2 ⟨rfl, hb2⟩)
      | (refine wpList_toBytes rfl (.tmp 59) rfl Tryd.underlying9 Tryd.underlying22 Tryd.underlying5 w.heap.size (text n b) rfl HTL.out hb2.size ?_; intro g3 cap3 w3 hown3 hgr3; have hb3 := hb2.grown hgr3 hb2.size (fun k h => by cases h); have hcl := HC0.out hown3; have hfr := HFR.out hown3; clear hgr3))
    go_ret
    exact ⟨rfl, hb3⟩
  have d7 : decide (((text n b).length : Int) ≤ (n.length : Int) + 1 + (q : Int)) = false := by simp; omega
  have hlt : n.length + 1 + q < (text n b).length := by omega
  by_cases hsame : (text n b)[n.length + 1 + q] = c
  · have d8 : (((text n b)[n.length + 1 + q].toNat : Int) == (c.toNat : Int)) = true := by rw [hsame]; simp
    clear hsame
    go_wp2_with (first
      | (go_at_call 7; refine (isName_any _ n (by omega)).mono ?_; rintro e w ⟨rfl, rfl⟩; rw [HNM.out])
      | (go_at_call 8; refine (sbech32_any _ n a cap b HN2.out HB2.out ha).mono ?_; rintro e w2 ⟨rfl, hb2⟩)
      | (refine wpList_toBytes rfl (.tmp 59) rfl Tryd.underlying9 Tryd.underlying22 Tryd.underlying5 w.heap.size (text n b) rfl HTL.out hb2.size ?_; intro g3 cap3 w3 hown3 hgr3; have hb3 := hb2.grown hgr3 hb2.size (fun k h => by cases h); have hcl := HC0.out hown3 hlt; have hfr := HFR.out hown3 hlt; clear hgr3))
    go_ret
    exact ⟨rfl, hb3⟩
  have d8 : (((text n b)[n.length + 1 + q].toNat : Int) == (c.toNat : Int)) = false := by
    rw [beq_eq_false_iff_ne]; intro h; exact hsame (UInt8.toNat_inj.1 (by omega))
  by_cases h49 : c = 49
  · have d9 : ((c.toNat : Int) == 49) = true := by rw [h49]; rfl
    clear hsame h49
    go_wp2_with (first
      | (go_at_call 7; refine (isName_any _ n (by omega)).mono ?_; rintro e w ⟨rfl, rfl⟩; rw [HNM.out])
      | (go_at_call 8; refine (sbech32_any _ n a cap b HN2.out HB2.out ha).mono ?_; rintro e w2 ⟨rfl, hb2⟩)
      | (refine wpList_toBytes rfl (.tmp 59) rfl Tryd.underlying9 Tryd.underlying22 Tryd.underlying5 w.heap.size (text n b) rfl HTL.out hb2.size ?_; intro g3 cap3 w3 hown3 hgr3; have hb3 := hb2.grown hgr3 hb2.size (fun k h => by cases h); have hcl := HC0.out hown3 hlt; have hfr := HFR.out hown3 hlt; clear hgr3))
    go_ret
    exact ⟨rfl, hb3⟩
  have d9 : ((c.toNat : Int) == 49) = false := by
    rw [beq_eq_false_iff_ne]; intro h; exact h49 (UInt8.toNat_inj.1 (by have : (49 : UInt8).toNat = 49 := rfl; omega))
  have HTU : Hid (∀ w2, Gens w2 → 0 < w2.heap.size → Calls Tryd.prog 19 #[.string ⟨((text n b).set (n.length + 1 + q) c).toArray⟩] w2 fun e w' => IsErr e ∧ Below w2.heap.size w2 w') :=
    fun w2 hg2 h02 => decode_turned w2 n b q c HNM.out HB2.out hg2 h02 hlt (hsb h49) hsame
  have HTX : Hid (∀ w2, Gens w2 → 0 < w2.heap.size → Calls Tryd.prog 19 #[.string ⟨(text n b).toArray⟩] w2 fun e w' => DecPost true n b w2.heap.size e w' ∧ Below w2.heap.size w2 w') :=
    fun w2 hg2 h02 => decode_text w2 n b HNM.out HB2.out hg2 h02
  have HCV : Hid (∀ {w3 : World} {g3 cap3 : Nat}, Own w3 w.heap.size 5 (.slice (some ⟨g3, 0, none⟩) (text n b).length cap3) (u8s (text n b)) → (convert 22 9 (.slice (some ⟨g3, 0, none⟩) (text n b).length cap3)).run Tryd.prog (w3.setCell ⟨g3, n.length + 1 + q, none⟩ (.int .u8 (c.toNat : Int))) = .ok (.string ⟨((text n b).set (n.length + 1 + q) c).toArray⟩) (w3.setCell ⟨g3, n.length + 1 + q, none⟩ (.int .u8 (c.toNat : Int)))) := by
    intro w3 g3 cap3 h
    have h2 := (h.set (n.length + 1 + q) (.int .u8 (c.toNat : Int)) (by rw [u8s_length]; exact hlt)).atS.1
    rw [u8s_set] at h2
    have h3 := run_toString (P := Tryd.prog) (src := 22) (dst := 9) (e := 5) _ Tryd.underlying22 Tryd.underlying9 Tryd.underlying5 (some ⟨g3, 0, none⟩) cap3 _ h2
    rwa [List.length_set] at h3
  have HG := Lib.hid hg; clear hg
  have HA := Lib.hid ha
  clear hsame h49 hsb
  go_wp2_with (first
    | (go_at_call 7; refine (isName_any _ n (by omega)).mono ?_; rintro e w ⟨rfl, rfl⟩; rw [HNM.out])
    | (go_at_call 8; refine (sbech32_any _ n a cap b HN2.out HB2.out ha).mono ?_; rintro e w2 ⟨rfl, hb2⟩; clear ha)
    | (refine wpList_toBytes rfl (.tmp 59) rfl Tryd.underlying9 Tryd.underlying22 Tryd.underlying5 w.heap.size (text n b) rfl HTL.out hb2.size ?_; intro g3 cap3 w3 hown3 hgr3; have hb3 := hb2.grown hgr3 hb2.size (fun k h => by cases h); have hcl := HC0.out hown3 hlt; have hfr := HFR.out hown3 hlt; have hcv := HCV.out hown3; have hb4 := hb3.setCell (p := ⟨g3, n.length + 1 + q, none⟩) (hown3.atS.2.2.2 g3 0 none rfl).1 (.int .u8 (c.toNat : Int)); clear hgr3)
    | (go_at_call 9; have hb8' := hb8; refine (of_good _ _ n b (by omega) (HTX.out _ (HG.out.below hb8 h0) (by have := hb8.size; omega))).mono ?_; rintro e w9 ⟨v9, rfl, hown9, hb9⟩; have hb10 := hb8.trans (hb9.mono hb8.size))
    | (go_at_call 8; refine (sbech32_any _ n a cap b HN2.out HB2.out (HA.out.below hb6)).mono ?_; rintro e w7 ⟨rfl, hb7⟩; have hb8 := hb6.trans (hb7.mono hb6.size))
    | (go_at_call 9; refine (of_bad _ _ (HTU.out _ (HG.out.below hb4 h0) (by have := hb4.size; omega))).mono ?_; rintro e w5 ⟨rfl, hb5⟩; have hb6 := hb4.trans (hb5.mono hb4.size)))
  go_ret
  exact ⟨rfl, hb10⟩

set_option maxRecDepth 100000 in
set_option maxHeartbeats 1000000 in
theorem turned_fig (w : World) (n : List UInt8) (a : Option Addr) (cap : Nat) (b : List UInt8) (q : Nat) (c : UInt8) (hn : n.length ≤ 9223372036854775807) (hb : b.length ≤ 9223372036854775807) (ha : At w a (u8s b))
    (hg : Gens w) (h0 : 0 < w.heap.size) (d1 : decide (2147483647 < (n.length : Int)) = false) (d2 : decide (2147483647 < (b.length : Int)) = false) (HNM : Hid (isNm n = true)) (h3 : ¬ 256 < b.length) (d3 : decide (256 < (b.length : Int)) = false)
    (d4 : decide ((q : Int) < 0) = false) (d5 : decide (1024 < (q : Int)) = false) (hq : q ≤ 1024) (hsb : c ≠ 49 → signByte c = true) (e1 : decide ((c.toNat : Int) < 97) = true) (e2 : decide ((122 : Int) < (c.toNat : Int)) = false) (e3 : decide ((c.toNat : Int) < 48) = false) (e4 : decide ((57 : Int) < (c.toNat : Int)) = false) :
    Calls Tryd.prog 3 #[.string ⟨n.toArray⟩, .slice a b.length cap, .int .i64 (q : Int), .int .u8 (c.toNat : Int)] w fun e w' => e = .returned (.bool true) ∧ Below w.heap.size w w' := by
  have hc := UInt8.toNat_lt c
  go_enter Tryd.func3, Tryd.ntmps3
  have hT := text_length n b
  have hF : Bp.fiveCount b.length ≤ 1000 := by unfold Bp.fiveCount; omega
  have hn30 := (isNm_parts HNM.out).2.1
  have HTL : Hid ((text n b).length ≤ maxLen) := by unfold Hid maxLen; omega
  have HN2 : Hid (n.length ≤ 268435456) := by unfold Hid; omega
  have HB2 : Hid (b.length ≤ 268435456) := by unfold Hid; omega
  have hlen : n.length ≤ 30 ∧ (text n b).length ≤ 2000 := by omega
  clear hT hF
  have HC0 : Hid (∀ {w3 : World} {g3 cap3 : Nat}, Own w3 w.heap.size 5 (.slice (some ⟨g3, 0, none⟩) (text n b).length cap3) (u8s (text n b)) → ∀ (h : n.length + 1 + q < (text n b).length), w3.cell? ⟨g3, n.length + 1 + q, none⟩ = some (.int .u8 ((text n b)[n.length + 1 + q].toNat : Int))) := by
    intro w3 g3 cap3 h hlt
    have := h.cellAt (n.length + 1 + q) (by rw [u8s_length]; exact hlt)
    rw [this, u8s_get]
  have HFR : Hid (∀ {w3 : World} {g3 cap3 : Nat}, Own w3 w.heap.size 5 (.slice (some ⟨g3, 0, none⟩) (text n b).length cap3) (u8s (text n b)) → ∀ (h : n.length + 1 + q < (text n b).length), w3.frozen? ⟨g3, n.length + 1 + q, none⟩ = false) := by
    intro w3 g3 cap3 h hlt
    exact h.frozenAt (n.length + 1 + q) (by rw [u8s_length]; exact hlt)
  by_cases h90 : 90 < (text n b).length
  · have d6 : decide (90 < ((text n b).length : Int)) = true := by simp; omega
    go_wp2_with (first
      | (go_at_call 7; refine (isName_any _ n (by omega)).mono ?_; rintro e w ⟨rfl, rfl⟩; rw [HNM.out])
      | (go_at_call 8; refine (sbech32_any _ n a cap b HN2.out HB2.out ha).mono ?_; rintro e w2 ⟨rfl, hb2⟩)
      | (refine wpList_toBytes rfl (.tmp 59) rfl Tryd.underlying9 Tryd.underlying22 Tryd.underlying5 w.heap.size (text n b) rfl HTL.out hb2.size ?_; intro g3 cap3 w3 hown3 hgr3; have hb3 := hb2.grown hgr3 hb2.size (fun k h => by cases h); have hcl := HC0.out hown3; have hfr := HFR.out hown3; clear hgr3))
    go_ret
    exact ⟨rfl, hb3⟩
  have d6 : decide (90 < ((text n b).length : Int)) = false := by simp; omega
  by_cases hat : (text n b).length ≤ n.length + 1 + q
  · have d7 : decide (((text n b).length : Int) ≤ (n.length : Int) + 1 + (q : Int)) = true := by simp; omega
    go_wp2_with (first
      | (go_at_call 7; refine (isName_any _ n (by omega)).mono ?_; rintro e w ⟨rfl, rfl⟩; rw [HNM.out])
      | (go_at_call 8; refine (sbech32_any _ n a cap b HN2.out HB2.out ha).mono ?_; rintro e w2 ⟨rfl, hb2⟩)
      | (refine wpList_toBytes rfl (.tmp 59) rfl Tryd.underlying9 Tryd.underlying22 Tryd.underlying5 w.heap.size (text n b) rfl HTL.out hb2.size ?_; intro g3 cap3 w3 hown3 hgr3; have hb3 := hb2.grown hgr3 hb2.size (fun k h => by cases h); have hcl := HC0.out hown3; have hfr := HFR.out hown3; clear hgr3))
    go_ret
    exact ⟨rfl, hb3⟩
  have d7 : decide (((text n b).length : Int) ≤ (n.length : Int) + 1 + (q : Int)) = false := by simp; omega
  have hlt : n.length + 1 + q < (text n b).length := by omega
  by_cases hsame : (text n b)[n.length + 1 + q] = c
  · have d8 : (((text n b)[n.length + 1 + q].toNat : Int) == (c.toNat : Int)) = true := by rw [hsame]; simp
    clear hsame
    go_wp2_with (first
      | (go_at_call 7; refine (isName_any _ n (by omega)).mono ?_; rintro e w ⟨rfl, rfl⟩; rw [HNM.out])
      | (go_at_call 8; refine (sbech32_any _ n a cap b HN2.out HB2.out ha).mono ?_; rintro e w2 ⟨rfl, hb2⟩)
      | (refine wpList_toBytes rfl (.tmp 59) rfl Tryd.underlying9 Tryd.underlying22 Tryd.underlying5 w.heap.size (text n b) rfl HTL.out hb2.size ?_; intro g3 cap3 w3 hown3 hgr3; have hb3 := hb2.grown hgr3 hb2.size (fun k h => by cases h); have hcl := HC0.out hown3 hlt; have hfr := HFR.out hown3 hlt; clear hgr3))
    go_ret
    exact ⟨rfl, hb3⟩
  have d8 : (((text n b)[n.length + 1 + q].toNat : Int) == (c.toNat : Int)) = false := by
    rw [beq_eq_false_iff_ne]; intro h; exact hsame (UInt8.toNat_inj.1 (by omega))
  by_cases h49 : c = 49
  · have d9 : ((c.toNat : Int) == 49) = true := by rw [h49]; rfl
    clear hsame h49
    go_wp2_with (first
      | (go_at_call 7; refine (isName_any _ n (by omega)).mono ?_; rintro e w ⟨rfl, rfl⟩; rw [HNM.out])
      | (go_at_call 8; refine (sbech32_any _ n a cap b HN2.out HB2.out ha).mono ?_; rintro e w2 ⟨rfl, hb2⟩)
      | (refine wpList_toBytes rfl (.tmp 59) rfl Tryd.underlying9 Tryd.underlying22 Tryd.underlying5 w.heap.size (text n b) rfl HTL.out hb2.size ?_; intro g3 cap3 w3 hown3 hgr3; have hb3 := hb2.grown hgr3 hb2.size (fun k h => by cases h); have hcl := HC0.out hown3 hlt; have hfr := HFR.out hown3 hlt; clear hgr3))
    go_ret
    exact ⟨rfl, hb3⟩
  have d9 : ((c.toNat : Int) == 49) = false := by
    rw [beq_eq_false_iff_ne]; intro h; exact h49 (UInt8.toNat_inj.1 (by have : (49 : UInt8).toNat = 49 := rfl; omega))
  have HTU : Hid (∀ w2, Gens w2 → 0 < w2.heap.size → Calls Tryd.prog 19 #[.string ⟨((text n b).set (n.length + 1 + q) c).toArray⟩] w2 fun e w' => IsErr e ∧ Below w2.heap.size w2 w') :=
    fun w2 hg2 h02 => decode_turned w2 n b q c HNM.out HB2.out hg2 h02 hlt (hsb h49) hsame
  have HTX : Hid (∀ w2, Gens w2 → 0 < w2.heap.size → Calls Tryd.prog 19 #[.string ⟨(text n b).toArray⟩] w2 fun e w' => DecPost true n b w2.heap.size e w' ∧ Below w2.heap.size w2 w') :=
    fun w2 hg2 h02 => decode_text w2 n b HNM.out HB2.out hg2 h02
  have HCV : Hid (∀ {w3 : World} {g3 cap3 : Nat}, Own w3 w.heap.size 5 (.slice (some ⟨g3, 0, none⟩) (text n b).length cap3) (u8s (text n b)) → (convert 22 9 (.slice (some ⟨g3, 0, none⟩) (text n b).length cap3)).run Tryd.prog (w3.setCell ⟨g3, n.length + 1 + q, none⟩ (.int .u8 (c.toNat : Int))) = .ok (.string ⟨((text n b).set (n.length + 1 + q) c).toArray⟩) (w3.setCell ⟨g3, n.length + 1 + q, none⟩ (.int .u8 (c.toNat : Int)))) := by
    intro w3 g3 cap3 h
    have h2 := (h.set (n.length + 1 + q) (.int .u8 (c.toNat : Int)) (by rw [u8s_length]; exact hlt)).atS.1
    rw [u8s_set] at h2
    have h3 := run_toString (P := Tryd.prog) (src := 22) (dst := 9) (e := 5) _ Tryd.underlying22 Tryd.underlying9 Tryd.underlying5 (some ⟨g3, 0, none⟩) cap3 _ h2
    rwa [List.length_set] at h3
  have HG := Lib.hid hg; clear hg
  have HA := Lib.hid ha
  clear hsame h49 hsb
  go_wp2_with (first
    | (go_at_call 7; refine (isName_any _ n (by omega)).mono ?_; rintro e w ⟨rfl, rfl⟩; rw [HNM.out])
    | (go_at_call 8; refine (sbech32_any _ n a cap b HN2.out HB2.out ha).mono ?_; rintro e w2 ⟨rfl, hb2⟩; clear ha)
    | (refine wpList_toBytes rfl (.tmp 59) rfl Tryd.underlying9 Tryd.underlying22 Tryd.underlying5 w.heap.size (text n b) rfl HTL.out hb2.size ?_; intro g3 cap3 w3 hown3 hgr3; have hb3 := hb2.grown hgr3 hb2.size (fun k h => by cases h); have hcl := HC0.out hown3 hlt; have hfr := HFR.out hown3 hlt; have hcv := HCV.out hown3; have hb4 := hb3.setCell (p := ⟨g3, n.length + 1 + q, none⟩) (hown3.atS.2.2.2 g3 0 none rfl).1 (.int .u8 (c.toNat : Int)); clear hgr3)
    | (go_at_call 9; have hb8' := hb8; refine (of_good _ _ n b (by omega) (HTX.out _ (HG.out.below hb8 h0) (by have := hb8.size; omega))).mono ?_; rintro e w9 ⟨v9, rfl, hown9, hb9⟩; have hb10 := hb8.trans (hb9.mono hb8.size))
    | (go_at_call 8; refine (sbech32_any _ n a cap b HN2.out HB2.out (HA.out.below hb6)).mono ?_; rintro e w7 ⟨rfl, hb7⟩; have hb8 := hb6.trans (hb7.mono hb6.size))
    | (go_at_call 9; refine (of_bad _ _ (HTU.out _ (HG.out.below hb4 h0) (by have := hb4.size; omega))).mono ?_; rintro e w5 ⟨rfl, hb5⟩; have hb6 := hb4.trans (hb5.mono hb4.size)))
  go_ret
  exact ⟨rfl, hb10⟩

set_option maxRecDepth 100000 in
set_option maxHeartbeats 1000000 in
theorem turned_any (w : World) (n : List UInt8) (a : Option Addr) (cap : Nat) (b : List UInt8) (k : Int) (c : UInt8) (hk : -9223372036854775808 ≤ k ∧ k < 9223372036854775808) (hn : n.length ≤ 9223372036854775807) (hb : b.length ≤ 9223372036854775807) (ha : At w a (u8s b))
    (hg : Gens w) (h0 : 0 < w.heap.size) :
    Calls Tryd.prog 3 #[.string ⟨n.toArray⟩, .slice a b.length cap, .int .i64 k, .int .u8 (c.toNat : Int)] w fun e w' => e = .returned (.bool true) ∧ Below w.heap.size w w' := by
  have hc := UInt8.toNat_lt c
  by_cases h1 : 2147483647 < n.length
  · have d1 : decide (2147483647 < (n.length : Int)) = true := by simp; omega
    go_enter Tryd.func3, Tryd.ntmps3
    go_wp2
    go_ret
    exact ⟨rfl, Below.refl _ _⟩
  have d1 : decide (2147483647 < (n.length : Int)) = false := by simp; omega
  by_cases h2 : 2147483647 < b.length
  · have d2 : decide (2147483647 < (b.length : Int)) = true := by simp; omega
    go_enter Tryd.func3, Tryd.ntmps3
    go_wp2
    go_ret
    exact ⟨rfl, Below.refl _ _⟩
  have d2 : decide (2147483647 < (b.length : Int)) = false := by simp; omega
  cases hnm : isNm n with
  | false =>
    have HNM := Lib.hid hnm; clear hnm
    go_enter Tryd.func3, Tryd.ntmps3
    go_wp2_with (go_at_call 7; refine (isName_any _ n (by omega)).mono ?_; rintro e w ⟨rfl, rfl⟩; rw [HNM.out])
    go_ret
    exact ⟨rfl, Below.refl _ _⟩
  | true =>
    have HNM := Lib.hid hnm; clear hnm
    by_cases h3 : 256 < b.length
    · have d3 : decide (256 < (b.length : Int)) = true := by simp; omega
      go_enter Tryd.func3, Tryd.ntmps3
      go_wp2_with (go_at_call 7; refine (isName_any _ n (by omega)).mono ?_; rintro e w ⟨rfl, rfl⟩; rw [HNM.out])
      go_ret
      exact ⟨rfl, Below.refl _ _⟩
    have d3 : decide (256 < (b.length : Int)) = false := by simp; omega
    by_cases h4 : k < 0
    · have d4 : decide (k < 0) = true := by simp; omega
      go_enter Tryd.func3, Tryd.ntmps3
      go_wp2_with (go_at_call 7; refine (isName_any _ n (by omega)).mono ?_; rintro e w ⟨rfl, rfl⟩; rw [HNM.out])
      go_ret
      exact ⟨rfl, Below.refl _ _⟩
    by_cases h5 : 1024 < k
    · have d4 : decide (k < 0) = false := by simp; omega
      have d5 : decide (1024 < k) = true := by simp; omega
      go_enter Tryd.func3, Tryd.ntmps3
      go_wp2_with (go_at_call 7; refine (isName_any _ n (by omega)).mono ?_; rintro e w ⟨rfl, rfl⟩; rw [HNM.out])
      go_ret
      exact ⟨rfl, Below.refl _ _⟩
    obtain ⟨q, rfl⟩ : ∃ q : Nat, k = (q : Int) := ⟨k.toNat, by omega⟩
    have d4 : decide ((q : Int) < 0) = false := by simp
    have d5 : decide (1024 < (q : Int)) = false := by simp; omega
    have hq : q ≤ 1024 := by omega
    clear h4 h5 hk
    have hx1 : c.toNat < 48 ∨ (57 < c.toNat ∧ c.toNat < 97) ∨ 122 < c.toNat ∨ (97 ≤ c.toNat ∧ c.toNat ≤ 122) ∨ (48 ≤ c.toNat ∧ c.toNat ≤ 57) := by omega
    have c9 : ∀ x y : Nat, x < y → decide ((x : Int) < (y : Int)) = true := by intro x y h; simp; omega
    have c8 : ∀ x y : Nat, ¬ x < y → decide ((x : Int) < (y : Int)) = false := by intro x y h; simp; omega
    have C9 := Lib.hid c9; clear c9
    have C8 := Lib.hid c8; clear c8
    rcases hx1 with hx | hx | hx | hx | hx
    · have e1 : decide (((c.toNat : Int) < 97)) = true := C9.out c.toNat 97 (by omega)
      have e2 : decide (((122 : Int) < (c.toNat : Int))) = false := C8.out 122 c.toNat (by omega)
      have e3 : decide (((c.toNat : Int) < 48)) = true := C9.out c.toNat 48 (by omega)
      have e4 : decide (((57 : Int) < (c.toNat : Int))) = false := C8.out 57 c.toNat (by omega)
      clear hx
      go_enter Tryd.func3, Tryd.ntmps3
      go_wp2_with (go_at_call 7; refine (isName_any _ n (by omega)).mono ?_; rintro e w ⟨rfl, rfl⟩; rw [HNM.out])
      go_ret
      exact ⟨rfl, Below.refl _ _⟩
    · have e1 : decide (((c.toNat : Int) < 97)) = true := C9.out c.toNat 97 (by omega)
      have e2 : decide (((122 : Int) < (c.toNat : Int))) = false := C8.out 122 c.toNat (by omega)
      have e3 : decide (((c.toNat : Int) < 48)) = false := C8.out c.toNat 48 (by omega)
      have e4 : decide (((57 : Int) < (c.toNat : Int))) = true := C9.out 57 c.toNat (by omega)
      clear hx
      go_enter Tryd.func3, Tryd.ntmps3
      go_wp2_with (go_at_call 7; refine (isName_any _ n (by omega)).mono ?_; rintro e w ⟨rfl, rfl⟩; rw [HNM.out])
      go_ret
      exact ⟨rfl, Below.refl _ _⟩
    · have e1 : decide (((c.toNat : Int) < 97)) = false := C8.out c.toNat 97 (by omega)
      have e2 : decide (((122 : Int) < (c.toNat : Int))) = true := C9.out 122 c.toNat (by omega)
      have e3 : decide (((c.toNat : Int) < 48)) = false := C8.out c.toNat 48 (by omega)
      have e4 : decide (((57 : Int) < (c.toNat : Int))) = true := C9.out 57 c.toNat (by omega)
      clear hx
      go_enter Tryd.func3, Tryd.ntmps3
      go_wp2_with (go_at_call 7; refine (isName_any _ n (by omega)).mono ?_; rintro e w ⟨rfl, rfl⟩; rw [HNM.out])
      go_ret
      exact ⟨rfl, Below.refl _ _⟩
    · have hsb : c ≠ 49 → signByte c = true := by intro h; unfold signByte; have : c.toNat ≠ 49 := fun h2 => h (UInt8.toNat_inj.1 h2); simp; omega
      have e1 : decide (((c.toNat : Int) < 97)) = false := C8.out c.toNat 97 (by omega)
      have e2 : decide (((122 : Int) < (c.toNat : Int))) = false := C8.out 122 c.toNat (by omega)
      have e3 : decide (((c.toNat : Int) < 48)) = false := C8.out c.toNat 48 (by omega)
      have e4 : decide (((57 : Int) < (c.toNat : Int))) = true := C9.out 57 c.toNat (by omega)
      exact turned_let w n a cap b q c hn hb ha hg h0 d1 d2 HNM h3 d3 d4 d5 hq hsb e1 e2 e3 e4
    · have hsb : c ≠ 49 → signByte c = true := by intro h; unfold signByte; have : c.toNat ≠ 49 := fun h2 => h (UInt8.toNat_inj.1 h2); simp; omega
      have e1 : decide (((c.toNat : Int) < 97)) = true := C9.out c.toNat 97 (by omega)
      have e2 : decide (((122 : Int) < (c.toNat : Int))) = false := C8.out 122 c.toNat (by omega)
      have e3 : decide (((c.toNat : Int) < 48)) = false := C8.out c.toNat 48 (by omega)
      have e4 : decide (((57 : Int) < (c.toNat : Int))) = false := C8.out 57 c.toNat (by omega)
      exact turned_fig w n a cap b q c hn hb ha hg h0 d1 d2 HNM h3 d3 d4 d5 hq hsb e1 e2 e3 e4
end Go.Proofs.YthjminkkmljjhaaDoor

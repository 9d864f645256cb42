/- The walks of the public key of a secret one: ZZPublicKey, curve25519.Public, newX25519IdentityFromScalar. Conditions: 32 bytes; feOne points at the element one. -/
import Derived.Test.YthjminkkmljjhaaGreatDoorFla
import Derived.Test.YthjminkkmljjhaaGreatDoorCopy
import Derived.Laws.Cover3
import Derived.Test.YthjminkkmljjhaaGreatDoorKn
namespace Go.Proofs.YthjminkkmljjhaaGreatDoor
open Go.RowKit

def base9 : List UInt8 := [9] ++ List.replicate 31 0
theorem base9_len : base9.length = 32 := by simp [base9]
theorem base9_num : numB base9 % 57896044618658097711785492504343953926634992332820282019728792003956564819968 % pp = 9 := by kernel_rfl
theorem base9_bv : bv base9 = .agg #[.int .u8 9, .int .u8 0, .int .u8 0, .int .u8 0, .int .u8 0, .int .u8 0, .int .u8 0, .int .u8 0, .int .u8 0, .int .u8 0, .int .u8 0, .int .u8 0, .int .u8 0, .int .u8 0, .int .u8 0, .int .u8 0, .int .u8 0, .int .u8 0, .int .u8 0, .int .u8 0, .int .u8 0, .int .u8 0, .int .u8 0, .int .u8 0, .int .u8 0, .int .u8 0, .int .u8 0, .int .u8 0, .int .u8 0, .int .u8 0, .int .u8 0, .int .u8 0] := by kernel_rfl

set_option maxRecDepth 100000 in
set_option maxHeartbeats 1000000 in
theorem zzPublic_any (w : World) (sec : List UInt8) (ls : sec.length = 32) (h1 : FeOne w) :
    Calls Tryz.prog 54 #[bv sec] w fun e w' => e = .returned (bv (pubL sec)) ∧ Below w.heap.size w w' := by
  have hS0 : BAt (w.alloc (objB sec)) w.heap.size sec := arr_new w _ _
  have hR0 : BAt ((w.alloc (objB sec)).alloc (objB zerosB)) (w.heap.size + 1) zerosB := arr_new2 w _ _ _
  obtain ⟨w2, hw2⟩ : ∃ w2, w2 = (w.alloc (objB sec)).alloc (objB zerosB) := ⟨_, rfl⟩
  have hs2 : w2.heap.size = w.heap.size + 2 := by rw [hw2]; simp
  have hS1 : BAt w2 w.heap.size sec := by rw [hw2]; exact hS0.below (below_alloc _ _)
  rw [← hw2] at hR0
  have hb2 : Below w.heap.size w w2 := by rw [hw2]; exact Below.alloc (below_alloc _ _) (below_alloc _ _).size _
  have hN : BAt (w2.alloc (objB zerosB)) (w.heap.size + 2) zerosB := by rw [← hs2]; exact arr_new w2 _ _
  have hS := hS1.below (below_alloc w2 (objB zerosB))
  have hR := hR0.below (below_alloc w2 (objB zerosB))
  have hb : Below w.heap.size w (w2.alloc (objB zerosB)) := Below.alloc hb2 hb2.size _
  rw [hw2] at hN hS hR hb
  have H1 := Lib.hid h1
  clear hS0 hR0 hS1 hb2 hs2 hw2 h1
  go_enter Tryz.func54, Tryz.ntmps54
  go_wp2_with (refine wpList_storeB rfl (.tmp 3) (.tmp 4) rfl (w.heap.size + 2) base9 zerosB base9_len rfl rfl base9_bv.symm hN ?_; intro w3 hN3 hg3)
  have hS3 := hS.kept hg3 (by omega)
  have hR3 := hR.kept hg3 (by omega)
  have hb3 := bkept hb hg3 (by omega) hb.size
  clear hN hS hR hb hg3
  have hS4 : BAt w3.drew w.heap.size sec := hS3
  have hR4 : BAt w3.drew (w.heap.size + 1) zerosB := hR3
  have hN4 : BAt w3.drew (w.heap.size + 2) base9 := hN3
  have hb4 : Below w.heap.size w w3.drew := ⟨hb3.os, hb3.tape, hb3.output, hb3.size, hb3.block⟩
  try go_frame
  go_region_law (go_simp; go_at_call 64; refine (ladder_any _ (w.heap.size + 1) w.heap.size (w.heap.size + 2) zerosB sec base9 rfl ls base9_len hR4 hS4 hN4 (H1.out.below hb4) 9 base9_num.symm).mono ?_; rintro e w5 ⟨rfl, hR5, hg5⟩)
  have hb5 := bkept hb4 hg5 (by omega) hb4.size
  go_wp2_with (first | (refine wpList_loadB rfl (.tmp 2) rfl (w.heap.size + 1) (pubL sec) (by simp [pubL_length]) rfl hR5 ?_) | (refine wpList_storeB rfl (.tmp 2) (.tmp 9) rfl (w.heap.size + 1) (pubL sec) (pubL sec) (by simp [pubL_length]) (by simp [pubL_length]) rfl rfl hR5 ?_; intro w9 hN9 hg9))
  exact ret_b rfl (w.heap.size + 1) _ (pubL_length _) rfl hN9 rfl ⟨rfl, bkept hb5 hg9 (by omega) hb5.size⟩

theorem at_range {w : World} {g : Nat} {vs : List Value} (h : At w (some ⟨g, 0, none⟩) vs) : w.rangeAt g 0 vs := by
  intro j v hj
  obtain ⟨hl, rfl⟩ := List.getElem?_eq_some_iff.1 hj
  obtain ⟨b, off, he, hc⟩ := h (by omega)
  injection he with he
  injection he with h1 h2 _
  subst h1 h2
  exact hc j hl
theorem range_at {w : World} {g : Nat} {vs : List Value} (h : w.rangeAt g 0 vs) : At w (some ⟨g, 0, none⟩) vs := by
  intro _
  exact ⟨g, 0, rfl, fun j hj => h j _ (List.getElem?_eq_getElem hj)⟩

set_option maxRecDepth 100000 in
set_option maxHeartbeats 1000000 in
theorem curvePublic_any (w : World) (g cap : Nat) (sec : List UInt8) (ls : sec.length = 32) (hcap : 32 ≤ cap) (ha : w.rangeAt g 0 (u8s sec)) (h1 : FeOne w) :
    Calls Tryz.prog 35 #[.slice (some ⟨g, 0, none⟩) 32 cap] w fun e w' => ∃ k, e = .returned (.tuple #[.slice (some ⟨k, 0, none⟩) 32 32, .nilIface]) ∧ BAt w' k (pubL sec) ∧ w.heap.size ≤ k ∧ Below w.heap.size w w' := by
  have HA := Lib.hid ha
  have H1 := Lib.hid h1
  clear ha h1
  have harr : ∀ w : World, (Instr.arrayAt 22 (.slice (some ⟨g, 0, none⟩) 32 cap)).run Tryz.prog w = .ok (.pointer (some ⟨g, 0, none⟩)) w := fun w => run_arrayAt w _ _ 32 _ 32 cap b_und (by decide)
  go_enter Tryz.func35, Tryz.ntmps35
  go_wp2_with (refine wpList_load_mid rfl 22 (.tmp 10) rfl g 0 rfl (u8s sec) _ HA.out b_und rfl (by rw [b_size]; simp [ls]) ?_)
  refine (zzPublic_any _ sec ls H1.out).mono ?_
  rintro e w1 ⟨rfl, hb1⟩
  have hn : BAt (w1.alloc (objB zerosB)) w1.heap.size zerosB := arr_new _ _ _
  have hb2 : Below w.heap.size w (w1.alloc (objB zerosB)) := Below.alloc hb1 hb1.size _
  have hs1 := hb1.size
  go_wp2_with (refine wpList_storeB rfl (.tmp 4) (.tmp 12) rfl w1.heap.size (pubL sec) zerosB (pubL_length _) rfl rfl rfl hn ?_; intro w9 hN9 hg9)
  go_ret2
  exact ⟨w1.heap.size, rfl, hN9, hs1, bkept hb2 hg9 hs1 hb2.size⟩

/-- A secret key that the call has made, with its public one. -/
def IdAt (w : World) (B p : Nat) (l : List UInt8) : Prop := B ≤ p ∧ p < w.heap.size ∧ (∃ g, w.cell? ⟨p, 0, none⟩ = some (.slice (some ⟨g, 0, none⟩) 32 32) ∧ w.rangeAt g 0 (u8s l)) ∧ (∃ g, w.cell? ⟨p, 1, none⟩ = some (.slice (some ⟨g, 0, none⟩) 32 32) ∧ w.rangeAt g 0 (u8s (pubL l)))
theorem IdAt.below {w w' : World} {B p : Nat} {l : List UInt8} (h : IdAt w B p l) (hb : Below w.heap.size w w') : IdAt w' B p l := by
  obtain ⟨h1, h2, ⟨g, h3, h4⟩, ⟨k, h5, h6⟩⟩ := h
  exact ⟨h1, by have := hb.size; omega, ⟨g, (hb.cell (p := ⟨p, 0, none⟩) h2).trans h3, range_below h4 hb⟩, ⟨k, (hb.cell (p := ⟨p, 1, none⟩) h2).trans h5, range_below h6 hb⟩⟩
theorem range_other {w : World} {g p i : Nat} {vs : List Value} {u : Value} (h : w.rangeAt g 0 vs) (hne : p ≠ g) : (w.setCell ⟨p, i, none⟩ u).rangeAt g 0 vs := by
  intro j v hj
  rw [World.cell?_setCell_far _ _ _ _ hne]; exact h j v hj

set_option maxRecDepth 100000 in
set_option maxHeartbeats 1000000 in
theorem newIdentity_any (w : World) (a : Option Addr) (cap : Nat) (l : List UInt8) (hl : l.length = 32) (ha : At w a (u8s l)) (h1 : FeOne w) :
    Calls Tryz.prog 17 #[.slice a 32 cap] w fun e w' => ∃ p, e = .returned (.tuple #[.pointer (some ⟨p, 0, none⟩), .nilIface]) ∧ IdAt w' w.heap.size p l ∧ Below w.heap.size w w' := by
  have HL := Lib.hid hl
  have H1 := Lib.hid h1
  have hs : (u8s l).length = 32 := by rw [u8s_length, hl]
  clear h1
  go_enter Tryz.func17, Tryz.ntmps17
  go_upto_region 5 with (first
    | (at_make; refine wpList_makeN sty8 rfl _ _ rfl w.heap.size 32 .i64 .i64 _ _ rfl rfl rfl rfl (by decide) (by decide) (Nat.le_refl _) ?_; intro g w1 hown1 hg1; have hb1 : Below w.heap.size w w1 := (Below.refl _ _).grown hg1 (Nat.le_refl _) (fun k h => by cases h))
    | (refine wpList_copyO sty8 rfl (.tmp 15) (.tmp 16) rfl w.heap.size g 32 32 _ rfl (hown1.alloc _) a (u8s l) 32 cap rfl hs (ha.below (hb1.alloc hb1.size _)) (u8s_oneCell _) ?_; intro w2 hown2 hg2))
  have hgl := hown1.lt g rfl
  have hb2 : Below w.heap.size w (w1.alloc (.cells #[.slice (some ⟨g, 0, none⟩) 32 32, .slice none 0 0] 47)) := hb1.alloc hb1.size _
  have hb3 := below_grown hb2 (hown1.alloc _) hg2 (Nat.le_refl _) (by simp; omega)
  have hsz2 := hg2.size
  have hblk : w2.heap[w1.heap.size]? = some (.cells #[.slice (some ⟨g, 0, none⟩) 32 32, .slice none 0 0] 47) :=
    (hg2.block w1.heap.size (by simp) (by intro h; injection h with h; omega)).trans (heap_alloc_new _ _)
  rw [show (u8s l).take (min 32 32) ++ (List.replicate 32 (Value.int .u8 0)).drop (min 32 32) = u8s l from by
    rw [List.take_of_length_le (by rw [hs]; decide), List.drop_of_length_le (by simp), List.append_nil]] at hown2
  have hat2 := at_range hown2.atS.1
  have hwl : w1.heap.size < w2.heap.size := by simp at hsz2; omega
  have hge : w.heap.size ≤ w1.heap.size := hb1.size
  obtain ⟨p, hp⟩ : ∃ p, p = w1.heap.size := ⟨_, rfl⟩
  have hgp : p ≠ g := by omega
  rw [← hp] at hblk hwl hge ⊢
  have hcell : w2.cell? ⟨p, 0, none⟩ = some (.slice (some ⟨g, 0, none⟩) 32 32) := by unfold World.cell?; rw [hblk]; rfl
  clear hown1 hown2 hg2 hg1 ha hb1 hb2 hp hgl hsz2
  go_wp2_with fail
  refine (curvePublic_any _ g 32 l HL.out (by decide) hat2 (H1.out.below hb3)).mono ?_
  rintro e w3 ⟨k, rfl, hK, hkge, hb4⟩
  have hblk3 := (hb4.block p hwl).trans hblk
  have hcell3 : w3.cell? ⟨p, 0, none⟩ = some (.slice (some ⟨g, 0, none⟩) 32 32) := by unfold World.cell?; rw [hblk3]; rfl
  have hcell4 : w3.cell? ⟨p, 1, none⟩ = some (.slice none 0 0) := by unfold World.cell?; rw [hblk3]; rfl
  have hfr : w3.frozen? ⟨p, 1, none⟩ = false := by unfold World.frozen?; rw [hblk3]; rfl
  have hat3 := range_below hat2 hb4
  have hb5 := hb3.trans (hb4.mono hb3.size)
  have hpk : p ≠ k := by omega
  have hid : IdAt (w3.setCell ⟨p, 1, none⟩ (.slice (some ⟨k, 0, none⟩) 32 32)) w.heap.size p l := by
    refine ⟨hge, ?_, ⟨g, ?_, range_other hat3 hgp⟩, ⟨k, ?_, range_other hK.range hpk⟩⟩
    · have := hb4.size; simpa [World.setCell] using Nat.lt_of_lt_of_le hwl this
    · rw [World.cell?_setCell_other _ _ _ _ (by intro e; injection e with _ e2 _; exact absurd e2 (by decide))]; exact hcell3
    · simp [World.cell?, World.setCell, Array.getElem?_modify, hblk3]
  have HID := Lib.hid hid
  have HB6 := Lib.hid (hb5.setCell (p := ⟨p, 1, none⟩) hge (.slice (some ⟨k, 0, none⟩) 32 32))
  clear hid
  go_wp2_with fail
  go_ret2
  exact ⟨p, rfl, HID.out, HB6.out⟩
end Go.Proofs.YthjminkkmljjhaaGreatDoor

/- The walks of a secret key's text and the law FnIdentity. Conditions: the table as laid; feOne points at the element one; 32 bytes. -/

namespace Go.Proofs.YthjminkkmljjhaaGreatDoor
open Go.RowKit

def secU : List UInt8 := [65, 71, 69, 45, 83, 69, 67, 82, 69, 84, 45, 75, 69, 89, 45]
theorem secU_eq : upper secN = secU := by decide
theorem up_up_tab : ∀ x : Fin 256, up (up (UInt8.ofNat x.1)) = up (UInt8.ofNat x.1) ∧ (x.1 < 128 → (up (UInt8.ofNat x.1)).toNat < 128) := by decide +kernel
theorem upper_upper (l : List UInt8) : upper (upper l) = upper l := by
  unfold upper
  rw [List.map_map]
  refine List.map_congr_left fun x _ => ?_
  have := (up_up_tab ⟨x.toNat, UInt8.toNat_lt x⟩).1
  simpa only [UInt8.ofNat_toNat, Function.comp] using this
theorem upper_ascii {l : List UInt8} (h : ∀ x ∈ l, x.toNat < 128) : ∀ x ∈ upper l, x.toNat < 128 := by
  intro x hx
  simp only [upper, List.mem_map] at hx
  obtain ⟨y, hy, rfl⟩ := hx
  have := (up_up_tab ⟨y.toNat, UInt8.toNat_lt y⟩).2 (h y hy)
  simpa only [UInt8.ofNat_toNat] using this

set_option maxRecDepth 100000 in
set_option maxHeartbeats 1000000 in
theorem parseIdentity_any (w : World) (s : ByteArray) (l : List UInt8) (hl : l.length = 32) (h1 : FeOne w)
    (hd : Calls Tryz.prog 15 #[.string s] w fun e w' => DecPost true secU l w.heap.size e w' ∧ Below w.heap.size w w') :
    Calls Tryz.prog 8 #[.string s] w fun e w' => ∃ p, e = .returned (.tuple #[.pointer (some ⟨p, 0, none⟩), .nilIface]) ∧ IdAt w' w.heap.size p l ∧ Below w.heap.size w w' := by
  unfold secU at hd
  have H := Lib.hid hd; clear hd
  have HL := Lib.hid hl; clear hl
  have H1 := Lib.hid h1; clear h1
  go_enter Tryz.func8, Tryz.ntmps8
  go_wp2_with (first
    | (go_at_call 15; refine H.out.mono ?_; rintro e w1 ⟨⟨v1, rfl, hown1⟩, hb1⟩; obtain ⟨a1, cap1, rfl, _, hat1, _⟩ := hown1.at; rw [u8s_length, HL.out])
    | (go_at_call 17; refine (newIdentity_any _ a1 cap1 l HL.out hat1 (H1.out.below hb1)).mono ?_; rintro e w2 ⟨p, rfl, hr2, hb2⟩))
  go_ret2
  exact ⟨p, rfl, ⟨by have := hb1.size; have := hr2.1; omega, hr2.2⟩, hb1.trans (hb2.mono hb1.size)⟩

set_option maxRecDepth 100000 in
set_option maxHeartbeats 1000000 in
theorem idString_any (w : World) (B p : Nat) (l : List UInt8) (hl : l.length = 32) (hr : IdAt w B p l) (hg : Gens w) (h0 : 0 < w.heap.size) :
    Calls Tryz.prog 9 #[.pointer (some ⟨p, 0, none⟩)] w fun e w' => e = .returned (.string ⟨(upper (text secN l)).toArray⟩) ∧ Below w.heap.size w w' := by
  obtain ⟨_, _, ⟨g, hcell, hrg⟩, _⟩ := hr
  have et : encText secN secU l = upper (text secN l) := by unfold encText; rw [if_neg (by decide)]
  have hc := encode_any w secN secU (some ⟨g, 0, none⟩) 32 l secNm (.inr ⟨secU_eq.symm, by decide⟩) (by omega) (range_at hrg) hg h0
  rw [hl, et] at hc
  unfold secU at hc
  have HC := Lib.hid hc; clear hc et hrg
  have hta : ∀ (j : Nat) (c : UInt8), (ByteArray.mk (upper (text secN l)).toArray).data.toList[j]? = some c → c.toNat < 128 := fun j c hc => upper_ascii (text_ascii (isNm_parts secNm).2.2) c (List.mem_of_getElem? hc)
  have HTA := Lib.hid hta; clear hta
  have htl : (ByteArray.mk (upper (text secN l)).toArray).size ≤ 140737488355328 := by
    have h1 := text_length secN l
    have h2 : Bp.fiveCount l.length ≤ 536870912 := by unfold Bp.fiveCount; omega
    have h3 : secN.length = 15 := rfl
    simp [ByteArray.size, upper]; omega
  have hfin : Lib.toUpperA (upper (text secN l)) = upper (text secN l) := by rw [toUpper_eq, upper_upper]
  have HF := Lib.hid hfin; clear hfin hl
  go_enter Tryz.func9, Tryz.ntmps9
  go_wp2_with (first
    | (go_at_call 18; refine HC.out.mono ?_; rintro e w1 ⟨rfl, hb1⟩)
    | (go_at_call 19; refine (Tryz.strings_ToUpper_ascii _ _ htl HTA.out).mono ?_; rintro e w2 ⟨rfl, hb2⟩))
  go_ret
  refine ⟨?_, hb1.trans (hb2.mono hb1.size)⟩
  first | (exact congrArg (fun t : List UInt8 => Ending.returned (Value.string ⟨t.toArray⟩)) HF.out) | (rw [← HF.out]; rfl)

set_option maxRecDepth 100000 in
set_option maxHeartbeats 1000000 in
theorem idRecipient_any (w : World) (B p : Nat) (l : List UInt8) (hr : IdAt w B p l) :
    Calls Tryz.prog 10 #[.pointer (some ⟨p, 0, none⟩)] w fun e w' => ∃ q, e = .returned (.pointer (some ⟨q, 0, none⟩)) ∧ RecAt w' w.heap.size q (pubL l) ∧ Below w.heap.size w w' := by
  obtain ⟨_, hpl, _, ⟨g, hcell, hrg⟩⟩ := hr
  have hb := below_alloc w (.cells #[.slice (some ⟨g, 0, none⟩) 32 32, .slice none 0 0] 49)
  have hrg2 := range_below hrg hb
  have hgl : g < w.heap.size := World.block_lt_of_cell? w _ (hrg 0 _ (List.getElem?_eq_getElem (show 0 < (u8s (pubL l)).length from by rw [u8s_length, pubL_length]; decide)))
  go_enter Tryz.func10, Tryz.ntmps10
  go_wp2_with fail
  go_ret
  refine ⟨w.heap.size, rfl, ⟨Nat.le_refl _, by simp, g, 32, ?_, ?_⟩, hb⟩
  · rw [pubL_length]; unfold World.cell?; rw [heap_alloc_new]; rfl
  · exact range_at hrg2

set_option maxRecDepth 100000 in
set_option maxHeartbeats 1000000 in
theorem implIdentity_any (w : World) (s : ByteArray) (l : List UInt8) (hl : l.length = 32) (hg : Gens w) (h0 : 0 < w.heap.size) (h1 : FeOne w)
    (hd : Calls Tryz.prog 15 #[.string s] w fun e w' => DecPost true secU l w.heap.size e w' ∧ Below w.heap.size w w') :
    Calls Tryz.prog 4 #[.string s] w fun e w' => e = .returned (.tuple #[.string ⟨(upper (text secN l)).toArray⟩, .string ⟨(text ageN (pubL l)).toArray⟩, .bool true]) ∧ Below w.heap.size w w' := by
  have H := Lib.hid hd; clear hd
  have HL := Lib.hid hl; clear hl
  have HG := Lib.hid hg; clear hg
  have H1 := Lib.hid h1; clear h1
  go_enter Tryz.func4, Tryz.ntmps4
  go_wp2_with fail
  refine (parseIdentity_any _ s l HL.out H1.out H.out).mono ?_
  rintro e w1 ⟨p, rfl, hr1, hb1⟩
  have hs1 := hb1.size
  go_wp2_with fail
  refine (idString_any _ _ p l HL.out hr1 (below_gens HG.out hb1 h0) (by omega)).mono ?_
  rintro e w2 ⟨rfl, hb2⟩
  have hr2 := hr1.below hb2
  have k2 := hb1.trans (hb2.mono hb1.size)
  have hs2 := k2.size
  go_wp2_with fail
  refine (idRecipient_any _ _ p l hr2).mono ?_
  rintro e w3 ⟨q, rfl, hr3, hb3⟩
  have k3 := k2.trans (hb3.mono k2.size)
  have hs3 := k3.size
  go_wp2_with fail
  refine (recString_any _ _ q (pubL l) (pubL_length _) hr3 (below_gens HG.out k3 h0) (by omega)).mono ?_
  rintro e w4 ⟨rfl, hb4⟩
  have k4 := k3.trans (hb4.mono k3.size)
  go_wp2_with fail
  go_ret3
  exact ⟨rfl, k4⟩

set_option maxRecDepth 100000 in
set_option maxHeartbeats 1000000 in
theorem fnIdentity_any (w : World) (l : List UInt8) (hl : l.length = 32) (hg : Gens w) (h0 : 0 < w.heap.size) (h1 : FeOne w) :
    Calls Tryz.prog 3 #[.agg (u8s l).toArray] w fun e w' => e = .returned (.bool true) ∧ Below w.heap.size w w' := by
  have HL := Lib.hid hl; clear hl
  have HG := Lib.hid hg; clear hg
  have H1 := Lib.hid h1; clear h1
  have hn0 : BAt (w.alloc (objB l)) w.heap.size l := arr_new w _ _
  have hb0 := below_alloc w (objB l)
  have key : ∀ w', Below (w.alloc (objB l)).heap.size (w.alloc (objB l)) w' → BAt w' w.heap.size l := fun w' hb => hn0.below hb
  have KEY := Lib.hid key
  clear key
  have hz0 : (w.alloc (objB l)).heap.size = w.heap.size + 1 := by simp
  go_enter Tryz.func3, Tryz.ntmps3
  go_wp2_with (refine wpList_loadB rfl (.tmp 1) rfl w.heap.size l HL.out rfl hn0 ?_)
  refine (specIdentity_any _ l HL.out).mono ?_
  rintro e w1 ⟨rfl, hb1⟩
  have k1 := hb0.trans (hb1.mono hb0.size)
  have hs1 := k1.size
  have hdec := decode_upper w1 secN l secNm (by rw [HL.out]; decide) (below_gens HG.out k1 h0) (by omega)
  rw [secU_eq] at hdec
  have HDEC := Lib.hid hdec
  clear hdec
  go_wp2_with fail
  refine (implIdentity_any _ _ l HL.out (below_gens HG.out k1 h0) (by omega) (H1.out.below k1) HDEC.out).mono ?_
  rintro e w2 ⟨rfl, hb2⟩
  have j2 := hb1.trans (hb2.mono hb1.size)
  have k2 := hb0.trans (j2.mono hb0.size)
  have hN2 := KEY.out _ j2
  go_wp2_with (refine wpList_load_rowW rfl 22 (.tmp 1) rfl w.heap.size rfl 22 (u8s l).toArray (0, 0) (.array 32 5) hN2 b_und rfl (by rw [b_size]; simp [HL.out]) ?_)
  refine (specIdentity_any _ l HL.out).mono ?_
  rintro e w3 ⟨rfl, hb3⟩
  have j3 := j2.trans (hb3.mono j2.size)
  have k3 := hb0.trans (j3.mono hb0.size)
  have hN3 := KEY.out _ j3
  go_wp2_with (refine wpList_load_rowW rfl 22 (.tmp 1) rfl w.heap.size rfl 22 (u8s l).toArray (0, 0) (.array 32 5) hN3 b_und rfl (by rw [b_size]; simp [HL.out]) ?_)
  refine (public_any _ l HL.out).mono ?_
  rintro e w4 ⟨rfl, hb4⟩
  have k4 := k3.trans (hb4.mono k3.size)
  go_wp2_with fail
  refine (specRecipient_any _ (pubL l) (pubL_length _)).mono ?_
  rintro e w5 ⟨rfl, hb5⟩
  have k5 := k4.trans (hb5.mono k4.size)
  go_wp2_with fail
  go_ret
  exact ⟨rfl, k5⟩
end Go.Proofs.YthjminkkmljjhaaGreatDoor

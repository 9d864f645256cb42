/- The walks of a public key's text: spec.Recipient, age's parser and printer, impl.Recipient, and the law FnRecipient. Conditions: the table as laid; 32 bytes. -/
import Derived.Test.YthjminkkmljjhaaDoorLb32
import Derived.Test.YthjminkkmljjhaaDoorCopy
namespace Go.Proofs.YthjminkkmljjhaaDoor
open Go.RowKit

section
variable {P : Program}
/-- A load of a whole array where the operation's guard lets it. -/
theorem wpList_load_rowW {ops : Array Oper} {rest : List Oper} {o : Oper} {a : Act} {w : World} {Q : Exit → Act → World → Prop} (hw : Region.wanted o (yielded ops a.tmps) = true) (ty : TypeId) (x : Operand) (ho : o.op = .load ty x)
    (g : Nat) (hx : a.eval x = .pointer (some ⟨g, 0, none⟩)) (t : TypeId) (cs : Array Value) (fr : Nat × Nat) (d : TypeDesc) (hg : w.heap[g]? = some (.cells cs t fr))
    (hu : P.underlying ty = some d) (hd : (match d with | .struct _ | .array _ _ => true | _ => false) = true) (hi : (P.info? ty).map (·.size) = some cs.size)
    (h : wpList P ops Q rest (a.put o.dst (.agg cs)) w) : wpList P ops Q (o :: rest) a w :=
  wpList_step fun _ hK => by rw [if_pos hw]; exact wp_load_row ty x ho g hx t cs fr d hg hu hd hi (hK _ _ h)
end

def ageN : List UInt8 := [97, 103, 101]
theorem ageNm : isNm ageN = true := by decide

set_option maxRecDepth 100000 in
set_option maxHeartbeats 400000 in
theorem specRecipient_any (w : World) (l : List UInt8) (hl : l.length = 32) :
    Calls Tryd.prog 14 #[.agg (u8s l).toArray] w fun e w' => e = .returned (.string ⟨(text ageN l).toArray⟩) ∧ Below w.heap.size w w' := by
  have hs : (u8s l).length = 32 := by rw [u8s_length, hl]
  have hs2 : (u8s l).toArray.size = 32 := by simp [hl]
  have HL := Lib.hid hl; clear hl
  have hat : At (w.alloc (.cells (u8s l).toArray 33)) (some ⟨w.heap.size, 0, none⟩) (u8s l) := by
    intro _
    refine ⟨_, _, rfl, fun j hj => ?_⟩
    have hn : (w.alloc (.cells (u8s l).toArray 33)).heap[w.heap.size]? = some (.cells (u8s l).toArray 33) := heap_alloc_new w _
    unfold World.cell?
    rw [hn]
    simp only [Nat.zero_add]
    rw [List.getElem?_toArray, List.getElem?_eq_getElem hj]; rfl
  have HAT := Lib.hid hat; clear hat
  have hbl : Below w.heap.size w (w.alloc (.cells (u8s l).toArray 33)) := Below.alloc (Below.refl _ _) (Nat.le_refl _) _
  go_enter Tryd.func14, Tryd.ntmps14
  go_wp2_with fail
  have hc := sbech32_any (w.alloc (.cells (u8s l).toArray 33)) ageN (some ⟨w.heap.size, 0, none⟩) 32 l (by decide) (by rw [HL.out]; decide) HAT.out
  rw [HL.out] at hc
  refine hc.mono ?_
  rintro e w1 ⟨rfl, hb1⟩
  have hbb := hbl.trans (hb1.mono hbl.size)
  clear hc
  go_wp2
  go_ret
  exact ⟨rfl, hbb⟩

/-- A recipient that the call has made: its key is l. -/
def RecAt (w : World) (B p : Nat) (l : List UInt8) : Prop := B ≤ p ∧ p < w.heap.size ∧ ∃ g cap, w.cell? ⟨p, 0, none⟩ = some (.slice (some ⟨g, 0, none⟩) l.length cap) ∧ At w (some ⟨g, 0, none⟩) (u8s l)
theorem RecAt.below {w w' : World} {B p : Nat} {l : List UInt8} (h : RecAt w B p l) (hb : Below w.heap.size w w') : RecAt w' B p l := by
  obtain ⟨h1, h2, g, cap, h3, h4⟩ := h
  exact ⟨h1, by have := hb.size; omega, g, cap, (hb.cell (p := ⟨p, 0, none⟩) h2).trans h3, h4.below hb⟩

set_option maxRecDepth 100000 in
set_option maxHeartbeats 400000 in
theorem newRecipient_any (w : World) (a : Option Addr) (cap : Nat) (l : List UInt8) (hl : l.length = 32) (ha : At w a (u8s l)) :
    Calls Tryd.prog 38 #[.slice a l.length cap] w fun e w' => ∃ p, e = .returned (.tuple #[.pointer (some ⟨p, 0, none⟩), .nilIface]) ∧ RecAt w' w.heap.size p l ∧ Below w.heap.size w w' := by
  have HL := Lib.hid hl
  have hs : (u8s l).length = 32 := by rw [u8s_length, hl]
  go_enter Tryd.func38, Tryd.ntmps38
  rw [hl]
  go_wp2_with (first
    | (at_make; refine wpList_makeN sty8 rfl _ _ rfl w.heap.size 32 .i64 .i64 _ _ rfl rfl rfl rfl (by decide) (by decide) (Nat.le_refl _) ?_; intro g w1 hown1 hg1; have hb1 : Below w.heap.size w w1 := (Below.refl _ _).grown hg1 (Nat.le_refl _) (fun k h => by cases h))
    | (refine wpList_copyO sty8 rfl (.tmp 15) (.tmp 16) rfl w.heap.size g 32 32 _ rfl (hown1.alloc _) a (u8s l) 32 cap rfl hs (ha.below (hb1.alloc hb1.size _)) (u8s_oneCell _) ?_; intro w2 hown2 hg2))
  have hgl := hown1.lt g rfl
  have hb2 : Below w.heap.size w (w1.alloc (.cells #[.slice (some ⟨g, 0, none⟩) 32 32, .slice none 0 0] 74)) := hb1.alloc hb1.size _
  have hb3 := below_grown hb2 (hown1.alloc _) hg2 (Nat.le_refl _) (by simp; omega)
  have hsz2 := hg2.size
  have hcell : w2.cell? ⟨w1.heap.size, 0, none⟩ = some (.slice (some ⟨g, 0, none⟩) 32 32) := by
    have hblk := hg2.block w1.heap.size (by simp) (by intro h; injection h with h; omega)
    unfold World.cell?
    rw [hblk, heap_alloc_new]
    rfl
  rw [show (u8s l).take (min 32 32) ++ (List.replicate 32 (Value.int .u8 0)).drop (min 32 32) = u8s l from by
    rw [List.take_of_length_le (by rw [hs]; decide), List.drop_of_length_le (by simp), List.append_nil]] at hown2
  have hat2 := hown2.atS.1
  have hwl : w1.heap.size < w2.heap.size := by simp at hsz2; omega
  clear hown1 hown2 hg2 hg1 ha
  go_wp2
  go_ret2
  exact ⟨_, rfl, ⟨hb1.size, hwl, g, 32, by rw [HL.out]; exact hcell, hat2⟩, hb3⟩

set_option maxRecDepth 100000 in
set_option maxHeartbeats 400000 in
theorem parseRecipient_any (w : World) (s : ByteArray) (l : List UInt8) (hl : l.length = 32)
    (hd : Calls Tryd.prog 19 #[.string s] w fun e w' => DecPost true ageN l w.heap.size e w' ∧ Below w.heap.size w w') :
    Calls Tryd.prog 22 #[.string s] w fun e w' => ∃ p, e = .returned (.tuple #[.pointer (some ⟨p, 0, none⟩), .nilIface]) ∧ RecAt w' w.heap.size p l ∧ Below w.heap.size w w' := by
  have H := Lib.hid hd; clear hd
  have HL := Lib.hid hl; clear hl
  go_enter Tryd.func22, Tryd.ntmps22
  go_wp2_with (first
    | (go_at_call 19; refine H.out.mono ?_; rintro e w1 ⟨⟨v1, rfl, hown1⟩, hb1⟩; obtain ⟨a1, cap1, rfl, _, hat1, _⟩ := hown1.at; rw [u8s_length])
    | (go_at_call 38; refine (newRecipient_any _ a1 cap1 l HL.out hat1).mono ?_; rintro e w2 ⟨p, rfl, hr2, hb2⟩))
  go_ret2
  exact ⟨p, rfl, ⟨by have := hb1.size; have := hr2.1; omega, hr2.2⟩, hb1.trans (hb2.mono hb1.size)⟩

set_option maxRecDepth 100000 in
set_option maxHeartbeats 400000 in
theorem recString_any (w : World) (B p : Nat) (l : List UInt8) (hl : l.length = 32) (hr : RecAt w B p l) (hg : Gens w) (h0 : 0 < w.heap.size) :
    Calls Tryd.prog 23 #[.pointer (some ⟨p, 0, none⟩)] w fun e w' => e = .returned (.string ⟨(text ageN l).toArray⟩) ∧ Below w.heap.size w w' := by
  obtain ⟨_, _, g, cap, hcell, hat⟩ := hr
  have et : encText ageN ageN l = text ageN l := by unfold encText; rw [if_pos rfl]
  have hc := encode_any w ageN ageN (some ⟨g, 0, none⟩) cap l ageNm (.inl rfl) (by omega) hat hg h0
  clear hl
  rw [et] at hc
  have HC := Lib.hid hc; clear hc et
  go_enter Tryd.func23, Tryd.ntmps23
  go_wp2_with (go_at_call 21; refine HC.out.mono ?_; rintro e w1 ⟨rfl, hb1⟩)
  go_ret
  exact ⟨rfl, hb1⟩

set_option maxRecDepth 100000 in
set_option maxHeartbeats 400000 in
theorem implRecipient_any (w : World) (s : ByteArray) (l : List UInt8) (hl : l.length = 32) (hg : Gens w) (h0 : 0 < w.heap.size)
    (hd : Calls Tryd.prog 19 #[.string s] w fun e w' => DecPost true ageN l w.heap.size e w' ∧ Below w.heap.size w w') :
    Calls Tryd.prog 13 #[.string s] w fun e w' => e = .returned (.tuple #[.string ⟨(text ageN l).toArray⟩, .bool true]) ∧ Below w.heap.size w w' := by
  have H := Lib.hid hd; clear hd
  have HL := Lib.hid hl; clear hl
  have HG := Lib.hid hg; clear hg
  go_enter Tryd.func13, Tryd.ntmps13
  go_wp2_with (first
    | (go_at_call 22; refine (parseRecipient_any _ s l HL.out H.out).mono ?_; rintro e w1 ⟨p, rfl, hr1, hb1⟩)
    | (go_at_call 23; refine (recString_any _ _ p l HL.out hr1 (below_gens HG.out hb1 h0) (by have := hb1.size; omega)).mono ?_; rintro e w2 ⟨rfl, hb2⟩))
  go_ret2
  exact ⟨rfl, hb1.trans (hb2.mono hb1.size)⟩

set_option maxRecDepth 100000 in
set_option maxHeartbeats 400000 in
theorem fnRecipient_any (w : World) (l : List UInt8) (hl : l.length = 32) (hg : Gens w) (h0 : 0 < w.heap.size) :
    Calls Tryd.prog 5 #[.agg (u8s l).toArray] w fun e w' => e = .returned (.bool true) ∧ Below w.heap.size w w' := by
  have HL := Lib.hid hl; clear hl
  have HG := Lib.hid hg; clear hg
  go_enter Tryd.func5, Tryd.ntmps5
  have hn0 : (w.alloc (.cells (u8s l).toArray 33)).heap[w.heap.size]? = some (.cells (u8s l).toArray 33) := heap_alloc_new w _
  have hinfo : (Tryd.prog.info? 33).map (·.size) = some (u8s l).toArray.size := by
    rw [show (u8s l).toArray.size = 32 from by simp [HL.out]]; kernel_rfl
  have HI := Lib.hid hinfo; clear hinfo
  have hb0 : Below w.heap.size w (w.alloc (.cells (u8s l).toArray 33)) := Below.alloc (Below.refl _ _) (Nat.le_refl _) _
  have hn1 := Lib.hid hn0
  have key : ∀ w', Below (w.alloc (.cells (u8s l).toArray 33)).heap.size (w.alloc (.cells (u8s l).toArray 33)) w' → w'.heap[w.heap.size]? = some (.cells (u8s l).toArray 33) := fun w' hb => (hb.block _ (by simp)).trans hn1.out
  have KEY := Lib.hid key; clear key hn0
  go_wp2_with (first
    | (refine wpList_load_row rfl 33 (.tmp 1) rfl w.heap.size rfl 33 (u8s l).toArray (0, 0) (.array 32 5) hn1.out Tryd.underlying33 rfl HI.out ?_)
    | (go_at_call 14; have hb4' := hb4; refine (specRecipient_any _ l HL.out).mono ?_; rintro e w5 ⟨rfl, hb5⟩; have hb6 := hb4.trans (hb5.mono hb4.size))
    | (go_at_call 14; refine (specRecipient_any _ l HL.out).mono ?_; rintro e w2 ⟨rfl, hb2⟩; have hb3 := hb0.trans (hb2.mono hb0.size))
    | (go_at_call 13; refine (implRecipient_any _ _ l HL.out (below_gens HG.out hb3 h0) (by have := hb3.size; omega) (decode_text _ ageN l ageNm (by rw [HL.out]; decide) (below_gens HG.out hb3 h0) (by have := hb3.size; omega))).mono ?_; rintro e w4 ⟨rfl, hb4⟩; have hb7 := hb2.trans (hb4.mono hb2.size); have hb4 := hb3.trans (hb4.mono hb3.size))
    | (refine wpList_load_rowW rfl 33 (.tmp 1) rfl w.heap.size rfl 33 (u8s l).toArray (0, 0) (.array 32 5) (KEY.out _ hb7) Tryd.underlying33 rfl HI.out ?_))
  go_ret
  exact ⟨rfl, hb6⟩
end Go.Proofs.YthjminkkmljjhaaDoor

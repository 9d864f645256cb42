/- The walks of impl.Bech32 and of laws.FnBech32. Conditions: the table as laid. -/
import Derived.Test.YthjminkkmljjhaaGreatDoorBenc
import Derived.Deep.QuietTactic
import Derived.BigQuiet
import Derived.Test.YthjminkkmljjhaaGreatDoorCopy
namespace Go.Proofs.YthjminkkmljjhaaGreatDoor
open Go.RowKit

end Go.Proofs.YthjminkkmljjhaaGreatDoor

/- The walks of a public key's text: spec.Recipient, age's parser and printer, impl.Recipient, and the law FnRecipient. Conditions: the table as laid; 32 bytes. -/

namespace Go.Proofs.YthjminkkmljjhaaGreatDoor
open Go.RowKit

section
variable {P : Program}
/-- A load of a whole array where the operation's guard lets it. -/
theorem wpList_load_rowW {ops : Array Oper} {rest : List Oper} {o : Oper} {a : Act} {w : World} {Q : Exit → Act → World → Prop} (hw : Region.wanted o (yielded ops a.tmps) = true) (ty : TypeId) (x : Operand) (ho : o.op = .load ty x)
    (g : Nat) (hx : a.eval x = .pointer (some ⟨g, 0, none⟩)) (t : TypeId) (cs : Array Value) (fr : Nat × Nat) (d : TypeDesc) (hg : w.heap[g]? = some (.cells cs t fr))
    (hu : P.underlying ty = some d) (hd : (match d with | .struct _ | .array _ _ => true | _ => false) = true) (hi : (P.info? ty).map (·.size) = some cs.size)
    (h : wpList P ops Q rest (a.put o.dst (.agg cs)) w) : wpList P ops Q (o :: rest) a w :=
  wpList_step fun _ hK => by rw [if_pos hw]; exact wp_load_row ty x ho g hx t cs fr d hg hu hd hi (hK _ _ h)
end

def ageN : List UInt8 := [97, 103, 101]
theorem ageNm : isNm ageN = true := by decide

set_option maxRecDepth 100000 in
set_option maxHeartbeats 400000 in
theorem specRecipient_any (w : World) (l : List UInt8) (hl : l.length = 32) :
    Calls Tryz.prog 6 #[.agg (u8s l).toArray] w fun e w' => e = .returned (.string ⟨(text ageN l).toArray⟩) ∧ Below w.heap.size w w' := by
  have hs : (u8s l).length = 32 := by rw [u8s_length, hl]
  have hs2 : (u8s l).toArray.size = 32 := by simp [hl]
  have HL := Lib.hid hl; clear hl
  have hat : At (w.alloc (.cells (u8s l).toArray 22)) (some ⟨w.heap.size, 0, none⟩) (u8s l) := by
    intro _
    refine ⟨_, _, rfl, fun j hj => ?_⟩
    have hn : (w.alloc (.cells (u8s l).toArray 22)).heap[w.heap.size]? = some (.cells (u8s l).toArray 22) := heap_alloc_new w _
    unfold World.cell?
    rw [hn]
    simp only [Nat.zero_add]
    rw [List.getElem?_toArray, List.getElem?_eq_getElem hj]; rfl
  have HAT := Lib.hid hat; clear hat
  have hbl : Below w.heap.size w (w.alloc (.cells (u8s l).toArray 22)) := Below.alloc (Below.refl _ _) (Nat.le_refl _) _
  go_enter Tryz.func6, Tryz.ntmps6
  go_wp2_with fail
  have hc := sbech32_any (w.alloc (.cells (u8s l).toArray 22)) ageN (some ⟨w.heap.size, 0, none⟩) 32 l (by decide) (by rw [HL.out]; decide) HAT.out
  rw [HL.out] at hc
  refine hc.mono ?_
  rintro e w1 ⟨rfl, hb1⟩
  have hbb := hbl.trans (hb1.mono hbl.size)
  clear hc
  go_wp2
  go_ret
  exact ⟨rfl, hbb⟩

/-- A recipient that the call has made: its key is l. -/
def RecAt (w : World) (B p : Nat) (l : List UInt8) : Prop := B ≤ p ∧ p < w.heap.size ∧ ∃ g cap, w.cell? ⟨p, 0, none⟩ = some (.slice (some ⟨g, 0, none⟩) l.length cap) ∧ At w (some ⟨g, 0, none⟩) (u8s l)
theorem RecAt.below {w w' : World} {B p : Nat} {l : List UInt8} (h : RecAt w B p l) (hb : Below w.heap.size w w') : RecAt w' B p l := by
  obtain ⟨h1, h2, g, cap, h3, h4⟩ := h
  exact ⟨h1, by have := hb.size; omega, g, cap, (hb.cell (p := ⟨p, 0, none⟩) h2).trans h3, h4.below hb⟩

set_option maxRecDepth 100000 in
set_option maxHeartbeats 400000 in
theorem recString_any (w : World) (B p : Nat) (l : List UInt8) (hl : l.length = 32) (hr : RecAt w B p l) (hg : Gens w) (h0 : 0 < w.heap.size) :
    Calls Tryz.prog 11 #[.pointer (some ⟨p, 0, none⟩)] w fun e w' => e = .returned (.string ⟨(text ageN l).toArray⟩) ∧ Below w.heap.size w w' := by
  obtain ⟨_, _, g, cap, hcell, hat⟩ := hr
  have et : encText ageN ageN l = text ageN l := by unfold encText; rw [if_pos rfl]
  have hc := encode_any w ageN ageN (some ⟨g, 0, none⟩) cap l ageNm (.inl rfl) (by omega) hat hg h0
  clear hl
  rw [et] at hc
  have HC := Lib.hid hc; clear hc et
  go_enter Tryz.func11, Tryz.ntmps11
  go_wp2_with (go_at_call 18; refine HC.out.mono ?_; rintro e w1 ⟨rfl, hb1⟩)
  go_ret
  exact ⟨rfl, hb1⟩

end Go.Proofs.YthjminkkmljjhaaGreatDoor

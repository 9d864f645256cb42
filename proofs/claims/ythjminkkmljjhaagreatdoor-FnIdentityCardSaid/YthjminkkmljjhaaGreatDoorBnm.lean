/- slices.Clone over bytes, and impl.Bech32Of over what Decode answers. Conditions: sizes. -/
import Derived.Test.YthjminkkmljjhaaGreatDoorBdbad
namespace Go.Proofs.YthjminkkmljjhaaGreatDoor
open Go.RowKit

end Go.Proofs.YthjminkkmljjhaaGreatDoor

/- laws.isName, spec.Upper, laws.same. Conditions: sizes. -/

namespace Go.Proofs.YthjminkkmljjhaaGreatDoor
open Go.RowKit

def nameByte (b : UInt8) : Bool := b.toNat == 45 || (97 ≤ b.toNat && b.toNat ≤ 122)
def isNm (l : List UInt8) : Bool := decide (1 ≤ l.length) && decide (l.length ≤ 30) && l.all nameByte

def up (c : UInt8) : UInt8 := if 97 ≤ c.toNat ∧ c.toNat ≤ 122 then UInt8.ofNat (c.toNat - 32) else c
def upper (l : List UInt8) : List UInt8 := l.map up

theorem upper_step (l : List UInt8) (p : Nat) (h : p < l.length) : u8s (upper (l.take (p + 1)) ++ l.drop (p + 1)) = (u8s (upper (l.take p) ++ l.drop p)).set p (.int .u8 ((up l[p]).toNat : Int)) := by
  rw [List.take_succ_eq_append_getElem h, List.drop_eq_getElem_cons h]
  unfold upper
  rw [List.map_append, u8s_append, u8s_append, u8s_append, List.set_append_right _ _ (by simp; omega)]
  have e : p - (u8s ((l.take p).map up)).length = 0 := by simp; omega
  rw [e, show u8s (l[p] :: l.drop (p + 1)) = .int .u8 (l[p].toNat : Int) :: u8s (l.drop (p + 1)) from rfl, List.set_cons_zero]
  simp [u8s]
theorem upper_keep (l : List UInt8) (p : Nat) (h : p < l.length) (hu : up l[p] = l[p]) : u8s (upper (l.take (p + 1)) ++ l.drop (p + 1)) = u8s (upper (l.take p) ++ l.drop p) := by
  rw [List.take_succ_eq_append_getElem h, List.drop_eq_getElem_cons h]
  unfold upper
  rw [List.map_append, List.append_assoc]
  simp [hu]

set_option maxRecDepth 100000 in
set_option maxHeartbeats 400000 in
theorem upper_any (w : World) (l : List UInt8) (hl : l.length ≤ 4294967296) :
    Calls Tryz.prog 12 #[.string ⟨l.toArray⟩] w fun e w' => e = .returned (.string ⟨(upper l).toArray⟩) ∧ Below w.heap.size w w' := by
  go_enter Tryz.func12, Tryz.ntmps12
  go_wp2_with (refine wpList_toBytes rfl (.tmp 6) rfl Tryz.underlying9 Tryz.underlying38 Tryz.underlying5 w.heap.size l rfl (by unfold maxLen; omega) (Nat.le_refl _) ?_; intro g cap w2 hown2 hg2)
  have hb2 : Below w.heap.size w w2 := (Below.refl _ _).grown hg2 (Nat.le_refl _) (fun k h => by cases h)
  clear hg2
  go_loopw [4, 5, 10] (fun _ _ i wr => ∃ (p : Nat), p ≤ l.length ∧ i = .int .i64 (p : Int) ∧ Own wr w.heap.size 5 (.slice (some ⟨g, 0, none⟩) l.length cap) (u8s (upper (l.take p) ++ l.drop p)) ∧ Below w.heap.size w wr)
    (fun _ _ i _ => l.length - (intOf i).toNat)
  case atStart => exact ⟨0, Nat.zero_le _, rfl, by simpa [upper] using hown2, hb2⟩
  case round =>
    clear hown2 hb2
    obtain ⟨p, hp, rfl, hown, hbel⟩ := hrel
    by_cases hlt : p < l.length
    · have hlen : (upper (l.take p) ++ l.drop p).length = l.length := by simp [upper]; omega
      have hcell := hown.cellAt p (by rw [u8s_length, hlen]; exact hlt)
      have hget : (u8s (upper (l.take p) ++ l.drop p))[p]'(by rw [u8s_length, hlen]; exact hlt) = .int .u8 (l[p].toNat : Int) := by
        rw [u8s_get, List.getElem_append_right (by simp [upper]; omega)]
        simp [upper, Nat.min_eq_left hp]
      rw [hget] at hcell
      have hfro := hown.frozenAt p (by rw [u8s_length, hlen]; exact hlt)
      have hgB := (hown.atS.2.2.2 g 0 none rfl).1
      have hu := UInt8.toNat_lt l[p]
      clear hget
      by_cases hlo : 97 ≤ l[p].toNat
      · by_cases hhi : l[p].toNat ≤ 122
        · go_wp2
          go_roundw
          case rel =>
            refine ⟨p + 1, by omega, by go_num, ?_, hbel.setCell (by exact hgB) _⟩
            rw [upper_step l p hlt, show (up l[p]).toNat = l[p].toNat - 32 from by unfold up; rw [if_pos ⟨hlo, hhi⟩]; simp; omega,
              show ((l[p].toNat - 32 : Nat) : Int) = (l[p].toNat : Int) - 32 from by omega]
            exact hown.set p (.int .u8 ((l[p].toNat : Int) - 32)) (by rw [u8s_length, hlen]; exact hlt)
          case measure => simp [intOf]; omega
        · go_wp2
          go_roundw
          case rel =>
            refine ⟨p + 1, by omega, by go_num, ?_, hbel⟩
            rw [upper_keep l p hlt (by unfold up; rw [if_neg (by omega)])]
            exact hown
          case measure => simp [intOf]; omega
      · go_wp2
        go_roundw
        case rel =>
          refine ⟨p + 1, by omega, by go_num, ?_, hbel⟩
          rw [upper_keep l p hlt (by unfold up; rw [if_neg (by omega)])]
          exact hown
        case measure => simp [intOf]; omega
    · have hpl : p = l.length := by omega
      subst hpl
      rw [List.take_length, List.drop_length, List.append_nil] at hown
      have hat := hown.atS.1
      have hul : l.length = (upper l).length := by simp [upper]
      have HUL := Lib.hid hul; clear hul
      clear hlt
      go_wp2_with (refine wpList_toString rfl (.tmp 27) rfl Tryz.underlying38 Tryz.underlying9 Tryz.underlying5 (some ⟨g, 0, none⟩) cap (upper l) (by rw [← HUL.out]; rfl) hat ?_)
      go_ret
      exact ⟨rfl, hbel⟩
end Go.Proofs.YthjminkkmljjhaaGreatDoor

/- The walk of bech32.hrpExpand, and what it computes. Condition: a name of ASCII signs, of at most 2^32. -/
import Derived.Test.YthjminkkmljjhaaGreatDoorFacts
import Derived.Test.YthjminkkmljjhaaGreatDoorBechPlain
import Derived.Test.YthjminkkmljjhaaGreatDoorShelfb
namespace Go.Proofs.YthjminkkmljjhaaGreatDoor
open Go.RowKit

def expand8 (l : List UInt8) : List UInt8 := l.map (· / 32) ++ 0 :: l.map (· % 32)

theorem u8_div32 (b : UInt8) : (Value.int .u8 ((b.toNat : Int) / 32)) = .int .u8 ((b / 32).toNat : Int) := by simp
theorem u8_and31 (b : UInt8) : (Value.int .u8 (bits BinOp.and IntKind.u8 (b.toNat : Int) 31)) = .int .u8 ((b % 32).toNat : Int) := by
  have := UInt8.toNat_lt b
  rw [show (31 : Int) = ((31 : Nat) : Int) from rfl, u8_and_nat _ 31 (by omega) (by omega), Nat.and_two_pow_sub_one_eq_mod _ 5]
  simp

theorem toLowerA_length (l : List UInt8) : (Lib.toLowerA l).length = l.length := by simp [Lib.toLowerA]

set_option maxHeartbeats 400000 in
theorem expand_any (w : World) (s : ByteArray) (hs : s.size ≤ 4294967296) (hascii : ∀ (j : Nat) (b : UInt8), s.data.toList[j]? = some b → b.toNat < 128) :
    Calls Tryz.prog 53 #[.string s] w fun e w' => ∃ v, e = .returned v ∧ Own w' w.heap.size 5 v (u8s (expand8 (Lib.toLowerA s.data.toList))) ∧ Below w.heap.size w w' := by
  have HA := Lib.hid hascii; clear hascii
  have hlen : (Lib.toLowerA s.data.toList).length ≤ 4294967296 := by rw [toLowerA_length, Array.length_toList]; exact hs
  generalize hm : Lib.toLowerA s.data.toList = m at *
  have HM := Lib.hid hm; clear hm
  go_enter Tryz.func53, Tryz.ntmps53
  go_wp2_with (first
    | (go_at_call 30; refine (Tryz.strings_ToLower_ascii _ _ (by omega) HA.out).mono ?_; rintro e w1 ⟨rfl, hb1⟩; rw [HM.out])
    | (refine wpList_toBytes rfl _ rfl Tryz.underlying9 Tryz.underlying38 Tryz.underlying5 w.heap.size m rfl (by unfold maxLen; omega) hb1.size ?_; intro g cap w2 hh hg2))
  have hb2 : Below w.heap.size w w2 := hb1.grown hg2 hb1.size (fun k h => by cases h)
  have hat := hh.atS.1
  have hblk := fun b o s h => (hh.atS.2.2.2 b o s h)
  have HH := Lib.hid hh; clear hh
  have HB := Lib.hid hblk; clear hblk
  have hsz : w.heap.size ≤ w2.heap.size := hb2.size
  go_loopw [4, 14] (fun v i wr => ∃ k : Nat, k ≤ m.length ∧ i = .int .i64 k ∧ Own wr w2.heap.size 5 v (u8s ((m.take k).map (· / 32))) ∧ Below w2.heap.size w2 wr)
    (fun _ i _ => m.length - (intOf i).toNat)
  case atStart => exact ⟨0, Nat.zero_le _, rfl, Own.nil _ _ _, Below.refl _ _⟩
  case round =>
    obtain ⟨k, hk, rfl, hown, hbel⟩ := hrel
    have hsz2 : w2.heap.size ≤ wr.heap.size := hbel.size
    by_cases hlt : k < m.length
    · obtain ⟨b, off, heq, hck⟩ := (hat.below hbel).u8 k hlt
      cases heq; rw [Nat.zero_add] at hck
      go_wp2_with (at_builtin; refine wpList_append1 sty8 rfl _ _ rfl w2.heap.size _ _ rfl hown _ _ rfl rfl ?c1 ?c2 hsz2 ?_)
      case c1 => simp; omega
      case c2 => simp [maxLen]; omega
      intro v' w3 hown' hgr
      have hb3 := below_grown hbel hown hgr (Nat.le_refl _) hsz2
      rw [u8_div32] at hown'
      clear hown hgr hbel
      go_wp2
      go_roundw
      case rel =>
        refine ⟨k + 1, by omega, by go_num, ?_, hb3⟩
        rw [List.take_succ_eq_append_getElem hlt, List.map_append, u8s_append]
        simpa [u8s] using hown'
      case measure => simp [intOf]; omega
    · have hge : m.length ≤ k := by omega
      clear hlt
      rw [List.take_of_length_le hge] at hown
      go_wp2_with (at_builtin; refine wpList_append1 sty8 rfl _ _ rfl w2.heap.size _ _ rfl hown _ _ rfl rfl ?d1 ?d2 hsz2 ?_)
      case d1 => simp; omega
      case d2 => simp [maxLen]; omega
      intro v' w3 hown' hgr
      have hb3 := below_grown hbel hown hgr (Nat.le_refl _) hsz2
      clear hown hgr hbel
      go_wp2
      have hsz3 : w2.heap.size ≤ w3.heap.size := hb3.size
      go_loopw [4, 29] (fun v i wr => ∃ k : Nat, k ≤ m.length ∧ i = .int .i64 k ∧ Own wr w2.heap.size 5 v (u8s (m.map (· / 32)) ++ [.int .u8 0] ++ u8s ((m.take k).map (· % 32))) ∧ Below w2.heap.size w2 wr)
        (fun _ i _ => m.length - (intOf i).toNat)
      case atStart => exact ⟨0, Nat.zero_le _, rfl, by simpa [u8s] using hown', hb3⟩
      case round =>
        obtain ⟨j, hj, rfl, hown, hbel⟩ := hrel
        have hsz2 : w2.heap.size ≤ wr.heap.size := hbel.size
        by_cases hlt : j < m.length
        · obtain ⟨b, off, heq, hck⟩ := (hat.below hbel).u8 j hlt
          cases heq; rw [Nat.zero_add] at hck
          go_wp2_with (at_builtin; refine wpList_append1 sty8 rfl _ _ rfl w2.heap.size _ _ rfl hown _ _ rfl rfl ?e1 ?e2 hsz2 ?_)
          case e1 => simp; omega
          case e2 => simp [maxLen]; omega
          intro v'' w4 hown'' hgr
          have hb4 := below_grown hbel hown hgr (Nat.le_refl _) hsz2
          rw [u8_and31] at hown''
          clear hown hgr hbel
          go_wp2
          go_roundw
          case rel =>
            refine ⟨j + 1, by omega, by go_num, ?_, hb4⟩
            rw [List.take_succ_eq_append_getElem hlt, List.map_append, u8s_append, ← List.append_assoc]
            simpa [u8s] using hown''
          case measure => simp [intOf]; omega
        · have hge : m.length ≤ j := by omega
          clear hlt
          rw [List.take_of_length_le hge] at hown
          go_wp2
          go_ret
          refine ⟨_, rfl, ?_, hb2.trans (hbel.mono hsz)⟩
          have := hown.mono hsz
          unfold expand8
          simpa [u8s] using this
end Go.Proofs.YthjminkkmljjhaaGreatDoor

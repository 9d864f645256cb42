/- The walk of spec.fives, and what it computes: the bytes' bits in numbers of five. Condition: the cells hold the bytes; at most 2^32 of them. -/
import Derived.Test.YthjminkkmljjhaaGreatDoorFacts
import Derived.Test.YthjminkkmljjhaaGreatDoorBechPlain
namespace Go.Proofs.YthjminkkmljjhaaGreatDoor
open Go.RowKit

theorem u8_bit (x s : Nat) (hx : x < 256) : bits BinOp.and IntKind.u8 ((x : Int) / (2:Int) ^ s) 1 = ((x / 2 ^ s % 2 : Nat) : Int) := by
  have e : (x : Int) / (2:Int) ^ s = ((x / 2 ^ s : Nat) : Int) := by simp
  have hle : x / 2 ^ s ≤ x := Nat.div_le_self _ _
  rw [e, show (1 : Int) = ((1 : Nat) : Int) from rfl, u8_and_nat _ 1 (by omega) (by omega), Nat.and_one_is_mod]

theorem seg_small (b : List Nat) (i t : Nat) (h : t ≤ 5) : Bp.seg b i t < 32 :=
  Nat.lt_of_lt_of_le (Bp.seg_lt b i t) (show 2 ^ t ≤ 2 ^ 5 from Nat.pow_le_pow_right (by decide) h)

theorem fives_in (l : List UInt8) (i0 k0 : Nat) (h1 : i0 ≤ k0) (h2 : k0 < i0 + 5) (h3 : k0 / 8 < l.length) :
    wrap64 (wrap64 (2 * (Bp.seg (l.map UInt8.toNat) i0 (k0 - i0) : Int)) + wrap64 (bits BinOp.and IntKind.u8 ((l[k0 / 8].toNat : Int) / (2:Int) ^ (7 - k0 % 8)) 1)) = (Bp.seg (l.map UInt8.toNat) i0 (k0 + 1 - i0) : Int) := by
  rw [u8_bit _ _ (UInt8.toNat_lt _)]
  have hs := seg_small (l.map UInt8.toNat) i0 (k0 - i0) (by omega)
  have hb := Nat.mod_lt (l[k0 / 8].toNat / 2 ^ (7 - k0 % 8)) (show 0 < 2 by decide)
  have e : Bp.seg (l.map UInt8.toNat) i0 (k0 + 1 - i0) = 2 * Bp.seg (l.map UInt8.toNat) i0 (k0 - i0) + l[k0 / 8].toNat / 2 ^ (7 - k0 % 8) % 2 := by
    rw [show k0 + 1 - i0 = (k0 - i0) + 1 from by omega]
    simp only [Bp.seg]
    rw [show i0 + (k0 - i0) = k0 from by omega]
    simp [Bp.bitAt, List.getD_eq_getElem?_getD, List.getElem?_eq_getElem h3]
  rw [e]
  generalize Bp.seg (l.map UInt8.toNat) i0 (k0 - i0) = x at *
  generalize l[k0 / 8].toNat / 2 ^ (7 - k0 % 8) % 2 = y at *
  unfold wrap64; omega

theorem fives_out (l : List UInt8) (i0 k0 : Nat) (h1 : i0 ≤ k0) (h2 : k0 < i0 + 5) (h3 : 8 * l.length ≤ k0) :
    wrap64 (2 * (Bp.seg (l.map UInt8.toNat) i0 (k0 - i0) : Int)) = (Bp.seg (l.map UInt8.toNat) i0 (k0 + 1 - i0) : Int) := by
  have hs := seg_small (l.map UInt8.toNat) i0 (k0 - i0) (by omega)
  have e : Bp.seg (l.map UInt8.toNat) i0 (k0 + 1 - i0) = 2 * Bp.seg (l.map UInt8.toNat) i0 (k0 - i0) := by
    rw [show k0 + 1 - i0 = (k0 - i0) + 1 from by omega]
    simp only [Bp.seg]
    rw [show i0 + (k0 - i0) = k0 from by omega]
    simp [Bp.bitAt, List.getD_eq_getElem?_getD, List.getElem?_eq_none (l := l) (i := k0 / 8) (by omega)]
  rw [e]
  generalize Bp.seg (l.map UInt8.toNat) i0 (k0 - i0) = x at *
  unfold wrap64; omega

set_option maxHeartbeats 400000 in
theorem sfives_any (w : World) (a : Option Addr) (cap : Nat) (l : List UInt8) (hl : l.length ≤ 4294967296) (ha : At w a (u8s l)) :
    Calls Tryz.prog 20 #[.slice a l.length cap] w fun e w' => ∃ v, e = .returned v ∧ Own w' w.heap.size 3 v (i64s (Bp.fives (l.map UInt8.toNat))) ∧ Below w.heap.size w w' := by
  go_enter Tryz.func20, Tryz.ntmps20
  go_wp2
  go_loopw [3, 4] (fun v i wr => ∃ j i0 : Nat, Hid (i0 = 5 * j) ∧ i0 ≤ 8 * l.length + 4 ∧ i = .int .i64 i0 ∧ Own wr w.heap.size 3 v (i64s ((List.range j).map (Bp.five (l.map UInt8.toNat)))) ∧ Below w.heap.size w wr)
    (fun _ i _ => 8 * l.length + 5 - (intOf i).toNat)
  case atStart => exact ⟨0, 0, rfl, by omega, rfl, Own.empty w _ _ (Nat.le_refl _), (Below.refl _ _).alloc (Nat.le_refl _) _⟩
  case round =>
    obtain ⟨j, i0, hi, hle, rfl, hown, hbel⟩ := hrel
    have hat := ha.below hbel
    by_cases hlt : i0 < 8 * l.length
    · go_wp2
      go_loop [5, 6] (fun n k => ∃ k0 : Nat, i0 ≤ k0 ∧ k0 ≤ i0 + 5 ∧ k = .int .i64 k0 ∧ n = .int .i64 (Bp.seg (l.map UInt8.toNat) i0 (k0 - i0) : Int)) (fun _ k => i0 + 5 - (intOf k).toNat)
      case atStart => exact ⟨i0, Nat.le_refl _, by omega, rfl, by simp [Bp.seg]⟩
      case round =>
        obtain ⟨k0, hk1, hk2, rfl, rfl⟩ := hrel
        by_cases hk5 : k0 < i0 + 5
        · by_cases hk8 : k0 < 8 * l.length
          · obtain ⟨b, off, rfl, hck⟩ := hat.u8 (k0 / 8) (by omega)
            go_wp2
            go_round
            case rel => exact ⟨k0 + 1, by omega, by omega, by go_num, congrArg _ (fives_in l i0 k0 hk1 hk5 (by omega))⟩
            case measure => simp [intOf]; omega
          · go_wp2
            go_round
            case rel => exact ⟨k0 + 1, by omega, by omega, by go_num, congrArg _ (fives_out l i0 k0 hk1 hk5 (by omega))⟩
            case measure => simp [intOf]; omega
        · have hend : k0 - i0 = 5 := by omega
          have HE := Lib.hid hend; clear hend
          have hs : wr.heap.size ≥ w.heap.size := hbel.size
          go_wp2_with (at_builtin; refine wpList_append1 sty64 rfl _ _ rfl w.heap.size _ _ rfl hown _ _ rfl rfl ?c1 ?c2 hs ?_)
          case c1 => have := hi.out; simp; omega
          case c2 => have := hi.out; simp [maxLen]; omega
          intro v' w1 hown' hgr
          have hb1 := below_grown hbel hown hgr (Nat.le_refl _) hs
          clear hown hgr hbel hat
          go_wp2
          go_roundw
          case rel =>
            refine ⟨j + 1, i0 + 5, by have := hi.out; unfold Hid; omega, by omega, by go_num, ?_, hb1⟩
            have e : i64s ((List.range (j + 1)).map (Bp.five (l.map UInt8.toNat))) = i64s ((List.range j).map (Bp.five (l.map UInt8.toNat))) ++ [Value.int .i64 (Bp.seg (l.map UInt8.toNat) i0 (k0 - i0) : Int)] := by
              rw [List.range_succ, List.map_append, i64s_append, HE.out, hi.out]; rfl
            rw [e]; exact hown'
          case measure => simp [intOf]; omega
    · have hj : j = Bp.fiveCount l.length := by have := hi.out; unfold Bp.fiveCount; omega
      have HJ := Lib.hid hj; clear hj
      go_wp2
      go_ret
      refine ⟨_, rfl, ?_, hbel⟩
      rw [HJ.out] at hown
      unfold Bp.fives; simpa using hown
end Go.Proofs.YthjminkkmljjhaaGreatDoor

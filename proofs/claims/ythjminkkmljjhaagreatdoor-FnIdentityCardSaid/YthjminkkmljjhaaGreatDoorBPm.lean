/- The walk of bech32.polymod, and what it computes. Condition: the slice's cells hold the bytes, the table its five numbers. -/
import Derived.Test.YthjminkkmljjhaaGreatDoorFacts
import Derived.Test.YthjminkkmljjhaaGreatDoorBechPlain
namespace Go.Proofs.YthjminkkmljjhaaGreatDoor
open Go.RowKit

def genAt (i : Nat) : Nat := [996825010, 642813549, 513874426, 1027748829, 705979059].getD i 0
/-- The table of bech32 holds its five numbers. -/
def Gens (w : World) : Prop := ∀ i, i < 5 → w.cell? ⟨0, i, none⟩ = some (.int .u32 (genAt i : Int))
theorem Gens.below {w w' : World} {B : Nat} (h : Gens w) (hb : Below B w w') (hB : 0 < B) : Gens w' :=
  fun i hi => (hb.cell (p := ⟨0, i, none⟩) hB).trans (h i hi)

theorem u32_mask25 (p : Nat) (hp : p < 4294967296) : bits BinOp.and IntKind.u32 (p : Int) 33554431 = (p : Int) % 33554432 := by
  rw [show (33554431 : Int) = ((33554431 : Nat) : Int) from rfl, u32_and_nat p 33554431 (by omega) (by omega), Nat.and_two_pow_sub_one_eq_mod p 25]
  rfl

theorem shr_and_one (p i d : Nat) (ht : p < 4294967296) (hd : p / 33554432 / 2 ^ i % 2 = d) : bits BinOp.and IntKind.u32 ((p : Int) / 33554432 / (2:Int) ^ i) 1 = (d : Int) := by
  have e : (p : Int) / 33554432 / (2:Int) ^ i = ((p / 33554432 / 2 ^ i : Nat) : Int) := by simp
  have hle : p / 33554432 / 2 ^ i ≤ p / 33554432 := Nat.div_le_self _ _
  rw [e, show (1 : Int) = ((1 : Nat) : Int) from rfl, u32_and_nat _ 1 (by omega) (by omega), Nat.and_one_is_mod, hd]

theorem tops_on (t j : Nat) (h : t / 2 ^ j % 2 = 1) : Bp.tops t (j + 1) = Bp.tops t j ^^^ genAt j := by simp only [Bp.tops, genAt]; rw [if_pos h]
theorem tops_off (t j : Nat) (h : ¬ t / 2 ^ j % 2 = 1) : Bp.tops t (j + 1) = Bp.tops t j := by simp only [Bp.tops]; rw [if_neg h, Nat.xor_zero]
theorem genAt_lt (j : Nat) : genAt j < 1073741824 := by
  unfold genAt
  match j with
  | 0 | 1 | 2 | 3 | 4 => decide
  | j + 5 => simp
theorem tops_lt (t j : Nat) : Bp.tops t j < 1073741824 := by
  induction j with
  | zero => simp [Bp.tops]
  | succ j ih =>
    by_cases h : t / 2 ^ j % 2 = 1
    · rw [tops_on t j h]; exact Bp.xor_lt30 ih (genAt_lt j)
    · rw [tops_off t j h]; exact ih

set_option maxHeartbeats 400000 in
theorem polymod_any (w : World) (a : Option Addr) (cap : Nat) (l : List UInt8) (hl : l.length ≤ 4611686018427387904) (ha : At w a (u8s l))
    (hg : Gens w) :
    Calls Tryz.prog 52 #[.slice a l.length cap] w fun e w' => e = .returned (.int .u32 (Bp.pm 1 (l.map UInt8.toNat) : Int)) ∧ w' = w := by
  have HG := Lib.hid hg
  clear hg
  go_enter Tryz.func52, Tryz.ntmps52
  go_wp2
  go_loop [3, 11] (fun c i => ∃ k : Nat, k ≤ l.length ∧ i = .int .i64 k ∧ c = .int .u32 (Bp.pm 1 ((l.map UInt8.toNat).take k) : Int)) (fun _ i => l.length - (intOf i).toNat)
  case atStart => exact ⟨0, Nat.zero_le _, rfl, by simp [Bp.pm]⟩
  case round =>
    obtain ⟨k, hk, rfl, rfl⟩ := hrel
    have hp : Bp.pm 1 ((l.map UInt8.toNat).take k) < 1073741824 := by
      refine Bp.pm_lt _ _ (by decide) fun x hx => ?_
      have := List.mem_of_mem_take hx
      obtain ⟨y, _, rfl⟩ := List.mem_map.1 this
      have := UInt8.toNat_lt y; omega
    by_cases hlt : k < l.length
    · obtain ⟨b, off, rfl, hck⟩ := ha.u8 k hlt
      have hv : l[k].toNat < 256 := UInt8.toNat_lt _
      have HN : Hid (Bp.pm 1 ((l.map UInt8.toNat).take (k + 1)) = Bp.step (Bp.pm 1 ((l.map UInt8.toNat).take k)) l[k].toNat) := by
        unfold Hid; rw [List.take_succ_eq_append_getElem (by simpa using hlt), Bp.pm_append]; simp [Bp.pm]
      generalize hpe : Bp.pm 1 ((l.map UInt8.toNat).take k) = p at *
      generalize hve : l[k].toNat = v at *
      have HP := Lib.hid hpe; clear hpe
      have HV := Lib.hid hve; clear hve
      have hy : p % 33554432 * 32 ^^^ v < 1073741824 := Bp.xor_lt30 (by omega) (by omega)
      have e1 := u32_mask25 p (by omega)
      have e2 : bits BinOp.xor IntKind.u32 ((p : Int) % 33554432 * 32) (v : Int) = ((p % 33554432 * 32 ^^^ v : Nat) : Int) :=
        u32_xor_nat (p % 33554432 * 32) v (by omega) (by omega)
      go_wp2
      clear e1 e2
      generalize hye : p % 33554432 * 32 ^^^ v = y at *
      have HY := Lib.hid hye; clear hye
      go_loop [3, 24] (fun c i => ∃ j x : Nat, j ≤ 5 ∧ i = .int .i64 j ∧ c = .int .u32 (x : Int) ∧ Hid (x = y ^^^ Bp.tops (p / 33554432) j)) (fun _ i => 5 - (intOf i).toNat)
      case atStart => exact ⟨0, y, by omega, rfl, rfl, by simp [Bp.tops, Hid]⟩
      case round =>
        obtain ⟨j, x, hj, rfl, rfl, HX⟩ := hrel
        by_cases hj5 : j < 5
        · have hgj := HG.out j hj5
          by_cases hb : p / 33554432 / 2 ^ j % 2 = 1
          · have e1 := shr_and_one p j 1 (by omega) hb
            have hx : x < 1073741824 := by rw [HX.out]; exact Bp.xor_lt30 hy (tops_lt _ _)
            have hgl := genAt_lt j
            have e3 := u32_xor_nat x (genAt j) (by omega) (by omega)
            have HB := Lib.hid hb; clear hb
            go_wp2
            go_round
            case rel => exact ⟨j + 1, x ^^^ genAt j, by omega, by go_num, rfl, by unfold Hid; rw [HX.out, tops_on _ _ HB.out, Nat.xor_assoc]⟩
            case measure => simp [intOf]; omega
          · have e1 := shr_and_one p j 0 (by omega) (by omega)
            have HB := Lib.hid hb; clear hb
            go_wp2
            go_round
            case rel => exact ⟨j + 1, x, by omega, by go_num, rfl, by unfold Hid; rw [HX.out, tops_off _ _ HB.out]⟩
            case measure => simp [intOf]; omega
        · obtain rfl : j = 5 := by omega
          go_wp2
          go_round
          case rel => exact ⟨k + 1, by omega, by go_num, by rw [HN.out, HX.out, ← HY.out]; rfl⟩
          case measure => simp [intOf]; omega
    · have hge : l.length ≤ k := by omega
      clear hlt
      go_wp2
      go_ret
      exact ⟨by rw [List.take_of_length_le (by simpa using hge)]; rfl, rfl⟩
end Go.Proofs.YthjminkkmljjhaaGreatDoor

/- The walk of bech32.convertBits from eight bits to five, filled up, and what it computes. Condition: the cells hold the bytes; at most 2^32 of them. -/
import Derived.Test.YthjminkkmljjhaaGreatDoorFacts
import Derived.Test.YthjminkkmljjhaaGreatDoorBechPlain
namespace Go.Proofs.YthjminkkmljjhaaGreatDoor
open Go.RowKit

def five8 (l : List UInt8) (j : Nat) : UInt8 := UInt8.ofNat (Bp.five (l.map UInt8.toNat) j)
def fives8 (l : List UInt8) : List UInt8 := (List.range (Bp.fiveCount l.length)).map (five8 l)

theorem or_low (A v : Nat) (hv : v < 256) : bits BinOp.or IntKind.u32 ((A : Int) * 256 % 4294967296) (v : Int) = ((A * 256 % 4294967296 + v : Nat) : Int) := by
  rw [show (A : Int) * 256 % 4294967296 = ((A * 256 % 4294967296 : Nat) : Int) from by omega, u32_or_nat _ v (by omega) (by omega), nat_join 8 _ _ (by omega) (by omega)]

/-- Bits behind a cut at 32, from place s on. -/
theorem mid_mod (X s t : Nat) (h : s + t ≤ 32) : X % 4294967296 / 2 ^ s % 2 ^ t = X / 2 ^ s % 2 ^ t := by
  have e : (4294967296 : Nat) = 2 ^ s * 2 ^ (32 - s) := by rw [← Nat.pow_add, show s + (32 - s) = 32 from by omega]
  rw [e, Nat.mod_mul_right_div_self, Nat.mod_mod_of_dvd _ (Nat.pow_dvd_pow 2 (by omega))]

theorem five8_at (l : List UInt8) (m r k : Nat) (h : 5 * (m + 1) + r = 8 * k) (hr : r ≤ 24) : (Bp.seg (l.map UInt8.toNat) 0 (8 * k) % 4294967296) / 2 ^ r % 32 = (five8 l m).toNat := by
  have h1 := mid_mod (Bp.seg (l.map UInt8.toNat) 0 (8 * k)) r 5 (by omega)
  rw [show (32 : Nat) = 2 ^ 5 from rfl, h1, ← h, Bp.seg_div, show 5 * (m + 1) = 5 * m + 5 from by omega, Bp.seg_mod]
  have := Bp.five_lt (l.map UInt8.toNat) m
  simp only [five8, Bp.five, Nat.zero_add] at this ⊢
  simp; omega

theorem five8_last (l : List UInt8) (m r : Nat) (h : 5 * m + r = 8 * l.length) (hr : r < 5) : (Bp.seg (l.map UInt8.toNat) 0 (8 * l.length) % 4294967296) * 2 ^ (5 - r) % 32 = (five8 l m).toNat := by
  have h1 := Bp.seg_add (l.map UInt8.toNat) 0 (8 * l.length) (5 - r)
  rw [Nat.zero_add, Bp.seg_out _ (8 * l.length) _ (by simp), Nat.add_zero, show 8 * l.length + (5 - r) = 5 * m + 5 from by omega] at h1
  have h2 := Bp.seg_mod (l.map UInt8.toNat) 0 (5 * m) 5
  rw [Nat.mul_mod, Nat.mod_mod_of_dvd _ (by decide : 32 ∣ 4294967296), ← Nat.mul_mod, Nat.mul_comm, ← h1, show (32 : Nat) = 2 ^ 5 from rfl, h2]
  have := Bp.five_lt (l.map UInt8.toNat) m
  simp only [five8, Bp.five, Nat.zero_add] at this ⊢
  simp; omega

set_option maxRecDepth 100000 in
set_option maxHeartbeats 400000 in
theorem conv85_any (w : World) (a : Option Addr) (cap : Nat) (l : List UInt8) (hl : l.length ≤ 4294967296) (ha : At w a (u8s l)) :
    Calls Tryz.prog 34 #[.slice a l.length cap, .int .u8 8, .int .u8 5, .bool true] w fun e w' => ∃ v, e = .returned (.tuple #[v, .nilIface]) ∧ Own w' w.heap.size 5 v (u8s (fives8 l)) ∧ Below w.heap.size w w' := by
  go_enter Tryz.func34, Tryz.ntmps34
  go_wp2
  go_loopw [10, 11, 12, 21] (fun v acc bits i wr => ∃ k m A r : Nat, k ≤ l.length ∧ i = .int .i64 k ∧ acc = .int .u32 A ∧ bits = .int .u8 r ∧ Hid (A = Bp.seg (l.map UInt8.toNat) 0 (8 * k) % 4294967296) ∧ A < 4294967296 ∧ r < 5 ∧ Hid (5 * m + r = 8 * k) ∧
      Own wr w.heap.size 5 v (u8s ((List.range m).map (five8 l))) ∧ Below w.heap.size w wr)
    (fun _ _ _ i _ => l.length - (intOf i).toNat)
  case atStart => exact ⟨0, 0, 0, 0, Nat.zero_le _, rfl, rfl, rfl, rfl, by decide, by decide, rfl, Own.nil _ _ _, Below.refl _ _⟩
  case round =>
    obtain ⟨k, m, A, r, hk, rfl, rfl, rfl, HA, hA, hr, HM, hown, hbel⟩ := hrel
    have hsz : w.heap.size ≤ wr.heap.size := hbel.size
    by_cases hlt : k < l.length
    · obtain ⟨b, off, rfl, hck⟩ := (ha.below hbel).u8 k hlt
      have hv : l[k].toNat < 256 := UInt8.toNat_lt l[k]
      have HA2 : Hid (A * 256 % 4294967296 + l[k].toNat = Bp.seg (l.map UInt8.toNat) 0 (8 * (k + 1)) % 4294967296) := by
        unfold Hid
        have h1 := Bp.seg_add (l.map UInt8.toNat) 0 (8 * k) 8
        have h2 := Bp.seg_byte (l.map UInt8.toNat) k (by simp [List.getD_eq_getElem?_getD, List.getElem?_eq_getElem hlt]; exact hv)
        rw [Nat.zero_add, h2] at h1
        rw [show 8 * (k + 1) = 8 * k + 8 from by omega, h1, HA.out]
        simp only [List.getD_eq_getElem?_getD, List.getElem?_map, List.getElem?_eq_getElem hlt, Option.map_some, Option.getD_some]
        omega
      have hA2 : A * 256 % 4294967296 + l[k].toNat < 4294967296 := by omega
      have e1 := or_low A l[k].toNat hv
      generalize hv2 : l[k].toNat = v at *
      generalize A * 256 % 4294967296 + v = A2 at *
      clear hv2
      have hz : ((v : Int) / 256 != 0) = false := by rw [bne_eq_false_iff_eq]; omega
      go_wp2
      clear e1
      go_loopw [10, 12] (fun v bits wr => ∃ m r : Nat, bits = .int .u8 r ∧ r ≤ 12 ∧ Hid (5 * m + r = 8 * (k + 1)) ∧ Own wr w.heap.size 5 v (u8s ((List.range m).map (five8 l))) ∧ Below w.heap.size w wr)
        (fun _ bits _ => (intOf bits).toNat)
      case atStart => exact ⟨m, r + 8, by go_num, by omega, by have := HM.out; unfold Hid; omega, hown, hbel⟩
      case round =>
        clear hown hbel HM hsz hck
        obtain ⟨m, r, rfl, hr, HM, hown, hbel⟩ := hrel
        have hsz : w.heap.size ≤ wr.heap.size := hbel.size
        by_cases h5 : 5 ≤ r
        · have hm5 : 5 * m ≤ 8 * (k + 1) := by have := HM.out; omega
          go_wp2_with (at_builtin; refine wpList_append1 sty8 rfl _ _ rfl w.heap.size _ _ rfl hown _ _ rfl rfl ?c1 ?c2 hsz ?_)
          case c1 => simp; omega
          case c2 => simp [maxLen]; omega
          intro v' w3 hown' hgr
          have hb3 := below_grown hbel hown hgr (Nat.le_refl _) hsz
          clear hown hgr hbel hm5
          go_wp2
          go_roundw
          case rel =>
            refine ⟨m + 1, r - 5, by go_num, by omega, by have := HM.out; unfold Hid; omega, ?_, hb3⟩
            have e := five8_at l m (r - 5) (k + 1) (by have := HM.out; omega) (by omega)
            rw [← HA2.out] at e
            have e2 : (A2 : Int) / 2 ^ (r - 5) % 32 = ((five8 l m).toNat : Int) := by rw [← e]; simp
            rw [e2] at hown'
            rw [List.range_succ, List.map_append, u8s_append]
            simpa [u8s] using hown'
          case measure => simp [intOf]; omega
        · go_wp2
          go_roundw
          case rel => exact ⟨k + 1, m, A2, r, by omega, by go_num, rfl, rfl, HA2, hA2, by omega, HM, hown, hbel⟩
          case measure => simp [intOf]; omega
    · have hkl : k = l.length := by omega
      have HK := Lib.hid hkl; clear hkl
      by_cases h0 : 0 < r
      · have hm5 : 5 * m ≤ 8 * k := by have := HM.out; omega
        go_wp2_with (at_builtin; refine wpList_append1 sty8 rfl _ _ rfl w.heap.size _ _ rfl hown _ _ rfl rfl ?d1 ?d2 hsz ?_)
        case d1 => simp; omega
        case d2 => simp [maxLen]; omega
        intro v' w3 hown' hgr
        have hb3 := below_grown hbel hown hgr (Nat.le_refl _) hsz
        clear hown hgr hbel hm5
        have e := five8_last l m r (by have := HM.out; have := HK.out; omega) hr
        rw [← HK.out, ← HA.out] at e
        have e2 : (A : Int) * 2 ^ (5 - r) % 32 = ((five8 l m).toNat : Int) := by rw [← e]; simp
        rw [e2] at hown'
        have hmc : Bp.fiveCount l.length = m + 1 := by have := HM.out; have := HK.out; unfold Bp.fiveCount; omega
        have HC := Lib.hid hmc; clear hmc e e2
        go_wp2
        go_ret2
        refine ⟨_, rfl, ?_, hb3⟩
        unfold fives8
        rw [HC.out, List.range_succ, List.map_append, u8s_append]
        simpa [u8s] using hown'
      · have hmc : Bp.fiveCount l.length = m := by have := HM.out; have := HK.out; unfold Bp.fiveCount; omega
        have HC := Lib.hid hmc; clear hmc
        go_wp2
        go_ret2
        refine ⟨_, rfl, ?_, hbel⟩
        unfold fives8
        rw [HC.out]
        simpa [u8s] using hown
end Go.Proofs.YthjminkkmljjhaaGreatDoor

/- The walk of bech32.convertBits from five bits to eight, over what the other way gave: it gives the bytes back. Condition: the cells hold the bytes' numbers of five bits; at most 2^32 bytes. -/

namespace Go.Proofs.YthjminkkmljjhaaGreatDoor
open Go.RowKit

theorem or_low5 (A v : Nat) (hv : v < 32) : bits BinOp.or IntKind.u32 ((A : Int) * 32 % 4294967296) (v : Int) = ((A * 32 % 4294967296 + v : Nat) : Int) := by
  rw [show (A : Int) * 32 % 4294967296 = ((A * 32 % 4294967296 : Nat) : Int) from by omega, u32_or_nat _ v (by omega) (by omega), nat_join 5 _ _ (by omega) (by omega)]

theorem fives8_length (l : List UInt8) : (fives8 l).length = Bp.fiveCount l.length := by simp [fives8]
theorem five8_toNat (l : List UInt8) (j : Nat) : (five8 l j).toNat = Bp.five (l.map UInt8.toNat) j := by
  have := Bp.five_lt (l.map UInt8.toNat) j
  unfold five8; simp; omega
theorem fives8_get (l : List UInt8) (j : Nat) (h : j < (fives8 l).length) : (fives8 l)[j].toNat = Bp.five (l.map UInt8.toNat) j := by
  have e : (fives8 l)[j]? = some (five8 l j) := by
    have h2 : j < Bp.fiveCount l.length := by rw [fives8_length] at h; exact h
    simp [fives8, List.getElem?_range h2]
  rw [List.getElem?_eq_getElem h] at e
  injection e with e
  rw [e, five8_toNat]

theorem byte_at (l : List UInt8) (m r k : Nat) (h : 8 * (m + 1) + r = 5 * k) (hr : r ≤ 24) (hm : m < l.length) : (Bp.seg (l.map UInt8.toNat) 0 (5 * k) % 4294967296) / 2 ^ r % 256 = l[m].toNat := by
  have h1 := mid_mod (Bp.seg (l.map UInt8.toNat) 0 (5 * k)) r 8 (by omega)
  have hg : (l.map UInt8.toNat).getD m 0 = l[m].toNat := by simp [List.getD_eq_getElem?_getD, List.getElem?_eq_getElem hm]
  have hb := Bp.seg_byte (l.map UInt8.toNat) m (by rw [hg]; exact UInt8.toNat_lt _)
  rw [show (256 : Nat) = 2 ^ 8 from rfl, h1, ← h, Bp.seg_div, show 8 * (m + 1) = 8 * m + 8 from by omega, Bp.seg_mod, Nat.zero_add, hb, hg]

theorem tail_zero (l : List UInt8) (r k : Nat) (h : 8 * l.length + r = 5 * k) (hr : r < 8) : (Bp.seg (l.map UInt8.toNat) 0 (5 * k) % 4294967296) * 2 ^ (8 - r) % 256 = 0 := by
  have h1 := Bp.seg_add (l.map UInt8.toNat) 0 (8 * l.length) r
  rw [Nat.zero_add, Bp.seg_out _ (8 * l.length) _ (by simp), Nat.add_zero, h] at h1
  rw [Nat.mul_mod, Nat.mod_mod_of_dvd _ (by decide : 256 ∣ 4294967296), ← Nat.mul_mod, h1, Nat.mul_right_comm, ← Nat.pow_add, show r + (8 - r) = 8 from by omega, Nat.mul_comm]
  exact Nat.mul_mod_left _ _

theorem and_255 (n : Nat) (h : n < 256) : bits BinOp.and IntKind.u8 (n : Int) 255 = (n : Int) := by
  rw [show (255 : Int) = ((255 : Nat) : Int) from rfl, u8_and_nat _ 255 h (by omega), Nat.and_two_pow_sub_one_eq_mod _ 8]
  omega

set_option maxRecDepth 100000 in
set_option maxHeartbeats 400000 in
theorem conv58_any (w : World) (a : Option Addr) (cap : Nat) (l : List UInt8) (hl : l.length ≤ 4294967296) (ha : At w a (u8s (fives8 l))) :
    Calls Tryz.prog 34 #[.slice a (fives8 l).length cap, .int .u8 5, .int .u8 8, .bool false] w fun e w' => ∃ v, e = .returned (.tuple #[v, .nilIface]) ∧ Own w' w.heap.size 5 v (u8s l) ∧ Below w.heap.size w w' := by
  have hn : (fives8 l).length ≤ 8589934592 := by rw [fives8_length]; unfold Bp.fiveCount; omega
  have HG := Lib.hid (fives8_get l)
  have HN := Lib.hid (fives8_length l)
  generalize fives8 l = d at *
  go_enter Tryz.func34, Tryz.ntmps34
  go_wp2
  simp only [show (-1 : Int) % 256 = 255 from by decide, show (256 : Int) % 256 = 0 from by decide]
  go_loopw [10, 11, 12, 21] (fun v acc bits i wr => ∃ k m A r : Nat, k ≤ d.length ∧ i = .int .i64 k ∧ acc = .int .u32 A ∧ bits = .int .u8 r ∧ Hid (A = Bp.seg (l.map UInt8.toNat) 0 (5 * k) % 4294967296) ∧ A < 4294967296 ∧ r < 8 ∧ Hid (8 * m + r = 5 * k) ∧
      Own wr w.heap.size 5 v (u8s (l.take m)) ∧ Below w.heap.size w wr)
    (fun _ _ _ i _ => d.length - (intOf i).toNat)
  case atStart => exact ⟨0, 0, 0, 0, Nat.zero_le _, rfl, rfl, rfl, rfl, by decide, by decide, rfl, Own.nil _ _ _, Below.refl _ _⟩
  case round =>
    obtain ⟨k, m, A, r, hk, rfl, rfl, rfl, HA, hA, hr, HM, hown, hbel⟩ := hrel
    have hsz : w.heap.size ≤ wr.heap.size := hbel.size
    by_cases hlt : k < d.length
    · obtain ⟨b, off, rfl, hck⟩ := (ha.below hbel).u8 k hlt
      have HV := Lib.hid (HG.out k hlt)
      have hv : d[k].toNat < 32 := by rw [HV.out]; exact Bp.five_lt _ _
      have HA2 : Hid (A * 32 % 4294967296 + d[k].toNat = Bp.seg (l.map UInt8.toNat) 0 (5 * (k + 1)) % 4294967296) := by
        unfold Hid
        have h1 := Bp.seg_add (l.map UInt8.toNat) 0 (5 * k) 5
        rw [Nat.zero_add] at h1
        rw [show 5 * (k + 1) = 5 * k + 5 from by omega, h1, HA.out, HV.out]
        have := Bp.five_lt (l.map UInt8.toNat) k
        unfold Bp.five at this ⊢
        omega
      have hA2 : A * 32 % 4294967296 + d[k].toNat < 4294967296 := by omega
      have e1 := or_low5 A d[k].toNat hv
      generalize hv2 : d[k].toNat = v at *
      generalize A * 32 % 4294967296 + v = A2 at *
      clear hv2
      have hz : ((v : Int) / 32 != 0) = false := by rw [bne_eq_false_iff_eq]; omega
      go_wp2
      clear e1
      go_loopw [10, 12] (fun v bits wr => ∃ m r : Nat, bits = .int .u8 r ∧ r ≤ 12 ∧ Hid (8 * m + r = 5 * (k + 1)) ∧ Own wr w.heap.size 5 v (u8s (l.take m)) ∧ Below w.heap.size w wr)
        (fun _ bits _ => (intOf bits).toNat)
      case atStart => exact ⟨m, r + 5, by go_num, by omega, by have := HM.out; unfold Hid; omega, hown, hbel⟩
      case round =>
        clear hown hbel HM hsz hck
        obtain ⟨m, r, rfl, hr, HM, hown, hbel⟩ := hrel
        have hsz : w.heap.size ≤ wr.heap.size := hbel.size
        by_cases h5 : 8 ≤ r
        · have hml : m < l.length := by have := HM.out; have := HN.out; unfold Bp.fiveCount at this; omega
          go_wp2_with (at_builtin; refine wpList_append1 sty8 rfl _ _ rfl w.heap.size _ _ rfl hown _ _ rfl rfl ?c1 ?c2 hsz ?_)
          case c1 => simp; omega
          case c2 => simp [maxLen]; omega
          intro v' w3 hown' hgr
          have hb3 := below_grown hbel hown hgr (Nat.le_refl _) hsz
          clear hown hgr hbel
          go_wp2
          go_roundw
          case rel =>
            refine ⟨m + 1, r - 8, by go_num, by omega, by have := HM.out; unfold Hid; omega, ?_, hb3⟩
            have e := byte_at l m (r - 8) (k + 1) (by have := HM.out; omega) (by omega) hml
            rw [← HA2.out] at e
            have e2 : (A2 : Int) / 2 ^ (r - 8) % 256 = (l[m].toNat : Int) := by rw [← e]; simp
            rw [e2, and_255 _ (UInt8.toNat_lt _)] at hown'
            rw [List.take_succ_eq_append_getElem hml, u8s_append]
            simpa [u8s] using hown'
          case measure => simp [intOf]; omega
        · go_wp2
          go_roundw
          case rel => exact ⟨k + 1, m, A2, r, by omega, by go_num, rfl, rfl, HA2, hA2, by omega, HM, hown, hbel⟩
          case measure => simp [intOf]; omega
    · have hkl : k = d.length := by omega
      have hml : m = l.length := by have := HM.out; have := HN.out; unfold Bp.fiveCount at this; omega
      have hr5 : r < 5 := by have := HM.out; have := HN.out; unfold Bp.fiveCount at this; omega
      have HK := Lib.hid hkl; clear hkl
      have HL := Lib.hid hml; clear hml
      have e := tail_zero l r k (by have := HM.out; have := HL.out; omega) hr
      rw [← HA.out] at e
      have e3 : bits BinOp.and IntKind.u8 ((A : Int) * 2 ^ (8 - r) % 256) 255 = 0 := by
        have e4 : (A : Int) * 2 ^ (8 - r) % 256 = ((0 : Nat) : Int) := by rw [← e]; simp
        rw [e4]; exact and_255 0 (by omega)
      clear e
      go_wp2
      go_ret2
      refine ⟨_, rfl, ?_, hbel⟩
      rw [HL.out, List.take_length] at hown
      exact hown
end Go.Proofs.YthjminkkmljjhaaGreatDoor

/- chacha20poly1305's writeUint64. Conditions: a number below 2^40; a sum at a piece's begin or half of it. -/
import Derived.Test.YtkocgogpbammaaaDoorPy
import Derived.Test.YtkocgogpbammaaaDoorHst
set_option linter.unusedVariables false
set_option linter.unusedSimpArgs false
namespace Go.Proofs.YtkocgogpbammaaaDoor
open Go.RowKit

theorem leBytes_get : ∀ (m v k : Nat), k < m → (Lib.leBytes m v)[k]? = some (UInt8.ofNat (v / 256 ^ k))
  | 0, _, _, h => by omega
  | m + 1, v, 0, _ => by
    simp only [Lib.leBytes, List.getElem?_cons_zero, Nat.pow_zero, Nat.div_one]
    congr 1
    apply UInt8.toNat_inj.1
    rw [Lib.toUInt8_mod, UInt8.toNat_ofNat']
  | m + 1, v, k + 1, h => by
    rw [Lib.leBytes, List.getElem?_cons_succ, leBytes_get m (v / 256) k (by omega), Nat.div_div_eq_div_mul, Nat.pow_succ, Nat.mul_comm 256]
def zer8b : List UInt8 := [0, 0, 0, 0, 0, 0, 0, 0]

set_option maxRecDepth 100000 in
set_option maxHeartbeats 2000000 in
theorem wu64_any (w : World) (g n : Nat) (ky M : List UInt8) (hky : ky.length = 32) (hM : MacAt w g ky M) (h0 : M.length % 16 = 0 ∨ M.length % 16 = 8) (hn : n < 1099511627776) :
    Calls Tryd.prog 66 #[.pointer (some ⟨g, 0, none⟩), .int .i64 (n : Int)] w fun e w' => e = .returned (.tuple #[]) ∧ MacAt w' g ky (M ++ Lib.leBytes 8 n) ∧ w.grownBy w' (some g) := by
  have hN : Arr (w.alloc (.cells (u8s zer8b).toArray 138)) w.heap.size 138 (u8s zer8b) := arr_new w _ _
  have hb1 := below_alloc w (.cells (u8s zer8b).toArray 138)
  have hlt := hM.lt
  have HM := Lib.hid hM
  clear hM
  go_enter Tryd.func66, Tryd.ntmps66
  go_wp2_with fail
  go_loopw [6] (fun iv wr => ∃ (k : Nat) (r : List UInt8), k ≤ 8 ∧ iv = .int .i64 k ∧ r.length = 8 ∧ Hid (r.take k = (Lib.leBytes 8 n).take k) ∧ Arr wr w.heap.size 138 (u8s r) ∧ Below w.heap.size w wr) (fun iv _ => 8 - (intOf iv).toNat)
  case atStart => exact ⟨0, zer8b, Nat.zero_le _, rfl, rfl, by simp [Hid], hN, hb1⟩
  case round =>
    clear hN hb1
    obtain ⟨k, r, hk, rfl, hrl, HR, hZ, hb⟩ := hrel
    by_cases hlk : k < 8
    · have hdk : decide ((k : Int) < 8) = true := by simp; omega
      have fz := hZ.fr k
      have cz := hZ.cell k (by simp; omega)
      obtain ⟨sh, hsh⟩ : ∃ sh, sh = 8 * k := ⟨_, rfl⟩
      have es1 : IntKind.i64.wrap (8 * (k : Int)) = (sh : Int) := (IntWalk.i64_in _ (by omega)).trans (by omega)
      have lsh : sh < 64 := by omega
      have HB := leBytes_get 8 n k hlk
      obtain ⟨b, hbb⟩ : ∃ b, b = UInt8.ofNat (n / 256 ^ k) := ⟨_, rfl⟩
      rw [← hbb] at HB
      have en : IntKind.u64.wrap (n : Int) = (n : Int) := IntWalk.u64_in _ (by omega)
      have ev : IntKind.u8.wrap ((n : Int) / 2 ^ sh) = (b.toNat : Int) := by
        rw [hbb, show ((n : Int) / 2 ^ sh) = ((n / 2 ^ sh : Nat) : Int) by simp, u8_wrap_nat, hsh, show (2 : Nat) ^ (8 * k) = 256 ^ k by rw [Nat.pow_mul]]
      have HR2 := Lib.hid (take_set_next r (Lib.leBytes 8 n) k b (by omega) (by rw [Lib.leBytes_length]; omega) HR.out HB)
      have hst := b64_set hZ k b (by omega)
      have i3 : (k : Int) < 8 := by omega
      clear hsh hbb HB
      go_wp2_with fail
      go_roundw
      case rel => exact ⟨k + 1, r.set k b, by omega, by go_num, by simpa using hrl, HR2, hst, hb.setCell (p := ⟨w.heap.size, k, none⟩) (Nat.le_refl _) _⟩
      case measure => simp [intOf]; omega
    · have hdk : decide ((k : Int) < 8) = false := by simp; omega
      have h8 : k = 8 := by omega
      have hr : r = Lib.leBytes 8 n := by
        have h := HR.out
        rwa [List.take_of_length_le (by omega), List.take_of_length_le (by rw [Lib.leBytes_length]; omega)] at h
      subst hr
      have hM2 := HM.out.below hb
      have hrg : wr.rangeAt w.heap.size 0 (u8s (Lib.leBytes 8 n)) := hZ.range
      have hl8 : (Lib.leBytes 8 n).length = 8 := Lib.leBytes_length 8 n
      have HC : Hid (Calls Tryd.prog 72 #[.pointer (some ⟨g, 0, none⟩), .slice (some ⟨w.heap.size, 0, none⟩) 8 8] wr fun e w' => e = .returned (.tuple #[.int .i64 8, .nilIface]) ∧ MacAt w' g ky (M ++ Lib.leBytes 8 n) ∧ wr.grownBy w' (some g)) := Lib.hid (by
        rcases h0 with h0 | h0
        · have h := mwrite0_any wr g ky M (Lib.leBytes 8 n) (some ⟨w.heap.size, 0, none⟩) 8 hky hM2 h0 (range_at hrg) (by rw [hl8]; exact Nat.le_refl _) (by rintro b o s h; cases h; omega) (by rw [hl8]; decide)
          rw [hl8] at h; exact h
        · have h := mwriteF_any wr g ky M (Lib.leBytes 8 n) w.heap.size 0 8 hky hM2 (by omega) (by rw [hl8]; omega) hrg (by rw [hl8]; exact Nat.le_refl _) (by omega)
          rw [hl8] at h; exact h)
      clear h8 hlk hk HR hrl hM2 hrg hl8
      go_wp2_with fail
      refine HC.out.mono ?_
      rintro e w3 ⟨rfl, hM3, hg3⟩
      go_wp2_with fail
      go_end0
      exact ⟨rfl, hM3, below_then_grown hb hg3⟩
end Go.Proofs.YtkocgogpbammaaaDoor

/- The reference's padding, lowest, nonceOf and joined. Conditions: lengths and numbers below 2^40. -/

namespace Go.Proofs.YtkocgogpbammaaaDoor
open Go.RowKit

set_option maxRecDepth 100000 in
set_option maxHeartbeats 1000000 in
theorem padding_any (w : World) (a : Option Addr) (cap : Nat) (l : List UInt8) (hl : l.length ≤ 1099511627776) :
    Calls Tryd.prog 22 #[.slice a l.length cap] w fun e w' => ∃ v, e = .returned v ∧ Own w' w.heap.size 5 v (u8s (List.replicate (padN l.length) 0)) ∧ Below w.heap.size w w' := by
  obtain ⟨n, hn⟩ : ∃ n, n = l.length := ⟨_, rfl⟩
  rw [← hn] at hl ⊢
  clear hn
  obtain ⟨r, hr⟩ : ∃ r, r = n % 16 := ⟨_, rfl⟩
  obtain ⟨q, hq⟩ : ∃ q, q = 16 - r := ⟨_, rfl⟩
  obtain ⟨p, hp⟩ : ∃ p, p = q % 16 := ⟨_, rfl⟩
  have HP := Lib.hid (show padN n = p by rw [hp, hq, hr]; rfl)
  have em : (n : Int).tmod 16 = (r : Int) := by rw [Int.tmod_eq_emod_of_nonneg (by omega)]; omega
  have e16 : IntKind.i64.wrap (16 - (r : Int)) = (q : Int) := (IntWalk.i64_in _ (by omega)).trans (by omega)
  have ep : (q : Int).tmod 16 = (p : Int) := by rw [Int.tmod_eq_emod_of_nonneg (by omega)]; omega
  have lp : p ≤ 15 := by omega
  have c1 : 1 * p ≤ 281474976710656 := by omega
  have c2 : p ≤ maxLen := by unfold maxLen; omega
  clear hr hq hp
  go_enter Tryd.func22, Tryd.ntmps22
  go_wp2_with (at_make; refine wpList_makeN sty8 rfl _ _ rfl w.heap.size p .i64 .i64 _ _ rfl rfl rfl rfl c1 c2 (Nat.le_refl _) ?_; intro g w5 hown5 hg5)
  go_ret
  refine ⟨_, rfl, ?_, (Below.refl _ _).grown hg5 (Nat.le_refl _) (fun k h => by cases h)⟩
  rw [HP.out]
  have e : u8s (List.replicate p 0) = List.replicate p (Value.int .u8 0) := by simp [u8s]
  rw [e]; exact hown5

set_option maxRecDepth 100000 in
set_option maxHeartbeats 1000000 in
theorem lowest_any (w : World) (n : Nat) (hn : n < 1099511627776) :
    Calls Tryd.prog 23 #[.int .i64 (n : Int)] w fun e w' => ∃ v, e = .returned v ∧ Own w' w.heap.size 5 v (u8s (Lib.leBytes 8 n)) ∧ Below w.heap.size w w' := by
  go_enter Tryd.func23, Tryd.ntmps23
  go_wp2
  go_loopw [3, 4] (fun v iv wr => ∃ k : Nat, k ≤ 8 ∧ iv = .int .i64 k ∧ Own wr w.heap.size 5 v (u8s ((Lib.leBytes 8 n).take k)) ∧ Below w.heap.size w wr) (fun _ iv _ => 8 - (intOf iv).toNat)
  case atStart => exact ⟨0, Nat.zero_le _, rfl, Own.empty w _ _ (Nat.le_refl _), (Below.refl _ _).alloc (Nat.le_refl _) _⟩
  case round =>
    obtain ⟨k, hk, rfl, hown, hb⟩ := hrel
    by_cases hlk : k < 8
    · have hdk : decide ((k : Int) < 8) = true := by simp; omega
      obtain ⟨sh, hsh⟩ : ∃ sh, sh = 8 * k := ⟨_, rfl⟩
      have es1 : IntKind.i64.wrap (8 * (k : Int)) = (sh : Int) := (IntWalk.i64_in _ (by omega)).trans (by omega)
      have lsh : sh < 64 := by omega
      have HB := leBytes_get 8 n k hlk
      obtain ⟨b, hbb⟩ : ∃ b, b = UInt8.ofNat (n / 256 ^ k) := ⟨_, rfl⟩
      rw [← hbb] at HB
      have ev : IntKind.u8.wrap ((n : Int) / 2 ^ sh) = (b.toNat : Int) := by
        rw [hbb, show ((n : Int) / 2 ^ sh) = ((n / 2 ^ sh : Nat) : Int) by simp, u8_wrap_nat, hsh, show (2 : Nat) ^ (8 * k) = 256 ^ k by rw [Nat.pow_mul]]
      have HE : Hid (u8s ((Lib.leBytes 8 n).take (k + 1)) = u8s ((Lib.leBytes 8 n).take k) ++ [Value.int .u8 (b.toNat : Int)]) := Lib.hid (by
        rw [List.take_add_one, HB]; simp [u8s])
      have hs : w.heap.size ≤ wr.heap.size := hb.size
      have c1 : ((u8s ((Lib.leBytes 8 n).take k)).length + 1) * 1 ≤ 140737488355328 := by simp [Lib.leBytes_length]; omega
      have c2 : (u8s ((Lib.leBytes 8 n).take k)).length + 1 ≤ maxLen := by simp [maxLen, Lib.leBytes_length]; omega
      clear hsh hbb HB
      go_wp2_with (at_builtin; refine wpList_append1 sty8 rfl _ _ rfl w.heap.size _ _ rfl hown _ _ rfl rfl c1 c2 hs ?_; intro v' w1 hown' hgr)
      have hb1 := below_grown hb hown hgr (Nat.le_refl _) hs
      go_roundw
      case rel => exact ⟨k + 1, by omega, by go_num, by rw [HE.out]; exact hown', hb1⟩
      case measure => simp [intOf]; omega
    · have hdk : decide ((k : Int) < 8) = false := by simp; omega
      have h8 : k = 8 := by omega
      rw [h8, List.take_of_length_le (by rw [Lib.leBytes_length]; omega)] at hown
      clear h8 hlk hk
      go_wp2
      go_ret
      exact ⟨_, rfl, hown, hb⟩

/-- A chunk's nonce, byte for byte, when k bytes of its number have been laid. -/
def nonceF (n k j : Nat) : UInt8 := if 10 < j + k ∧ j ≤ 10 then UInt8.ofNat (n / 256 ^ (10 - j)) else 0
def nonceK (n k : Nat) : List UInt8 := (List.range 12).map (nonceF n k)
@[simp] theorem nonceK_length (n k : Nat) : (nonceK n k).length = 12 := by simp [nonceK]
def nonceL (n : Nat) (last : Bool) : List UInt8 := if last then (nonceK n 8).set 11 1 else nonceK n 8
@[simp] theorem nonceL_length (n : Nat) (last : Bool) : (nonceL n last).length = 12 := by unfold nonceL; split <;> simp
theorem nonceK_set (n k : Nat) (hk : k < 8) : (nonceK n k).set (10 - k) (UInt8.ofNat (n / 256 ^ k)) = nonceK n (k + 1) := by
  apply List.ext_getElem (by simp)
  intro j h1 h2
  rw [List.getElem_set]
  simp only [nonceK, List.getElem_map, List.getElem_range]
  by_cases e : 10 - k = j
  · subst e
    rw [if_pos rfl]
    unfold nonceF
    rw [if_pos (by omega), show 10 - (10 - k) = k by omega]
  · rw [if_neg e]
    unfold nonceF
    by_cases h : 10 < j + k ∧ j ≤ 10
    · rw [if_pos h, if_pos (by omega)]
    · rw [if_neg h, if_neg (by omega)]

set_option maxRecDepth 100000 in
set_option maxHeartbeats 2000000 in
theorem nonceOf_any (w : World) (n : Nat) (last : Bool) (hn : n < 1099511627776) :
    Calls Tryd.prog 14 #[.int .i64 (n : Int), .bool last] w fun e w' => ∃ g, e = .returned (.slice (some ⟨g, 0, none⟩) 12 12) ∧ Own w' w.heap.size 5 (.slice (some ⟨g, 0, none⟩) 12 12) (u8s (nonceL n last)) ∧ Below w.heap.size w w' := by
  go_enter Tryd.func14, Tryd.ntmps14
  go_wp2_with (at_make; refine wpList_makeN sty8 rfl _ _ rfl w.heap.size 12 .i64 .i64 _ _ rfl rfl rfl rfl (by decide) (by decide) (Nat.le_refl _) ?_; intro g w5 hown5 hg5; refine Hid.out ?_)
  have hb5 : Below w.heap.size w w5 := (Below.refl _ _).grown hg5 (Nat.le_refl _) (fun k h => by cases h)
  have hown : Own w5 w.heap.size 5 (.slice (some ⟨g, 0, none⟩) 12 12) (u8s (nonceK n 0)) := hown5
  have hlg := (hown.lt g rfl).1
  clear hown5 hg5
  refine Lib.hid ?_
  go_wp2_with fail
  go_loopw [6] (fun iv wr => ∃ k : Nat, k ≤ 8 ∧ iv = .int .i64 k ∧ Own wr w.heap.size 5 (.slice (some ⟨g, 0, none⟩) 12 12) (u8s (nonceK n k)) ∧ Below w.heap.size w wr) (fun iv _ => 8 - (intOf iv).toNat)
  case atStart => exact ⟨0, Nat.zero_le _, rfl, hown, hb5⟩
  case round =>
    clear hown hb5
    obtain ⟨k, hk, rfl, hown, hb⟩ := hrel
    by_cases hlk : k < 8
    · have hdk : decide ((k : Int) < 8) = true := by simp; omega
      obtain ⟨q, hq⟩ : ∃ q, q = 10 - k := ⟨_, rfl⟩
      have hc := hown.cellAt q (by simp; omega)
      have hf := hown.frozenAt q (by simp; omega)
      have hst := hown.set q (.int .u8 ((UInt8.ofNat (n / 256 ^ k)).toNat : Int)) (by simp; omega)
      rw [← u8s_set, hq, nonceK_set n k hlk, ← hq] at hst
      obtain ⟨sh, hsh⟩ : ∃ sh, sh = 8 * k := ⟨_, rfl⟩
      have es1 : IntKind.i64.wrap (8 * (k : Int)) = (sh : Int) := (IntWalk.i64_in _ (by omega)).trans (by omega)
      have eq1 : IntKind.i64.wrap (10 - (k : Int)) = (q : Int) := (IntWalk.i64_in _ (by omega)).trans (by omega)
      have lsh : sh < 64 := by omega
      have i0 : (0 : Int) ≤ (q : Int) := by omega
      have i1 : (q : Int) < 12 := by omega
      obtain ⟨b, hbb⟩ : ∃ b, b = UInt8.ofNat (n / 256 ^ k) := ⟨_, rfl⟩
      rw [← hbb] at hst
      have ev : IntKind.u8.wrap ((n : Int) / 2 ^ sh) = (b.toNat : Int) := by
        rw [hbb, show ((n : Int) / 2 ^ sh) = ((n / 2 ^ sh : Nat) : Int) by simp, u8_wrap_nat, hsh, show (2 : Nat) ^ (8 * k) = 256 ^ k by rw [Nat.pow_mul]]
      generalize (u8s (nonceK n k))[q]'(by simp; omega) = vq at hc
      clear hsh hbb hq
      go_wp2_with fail
      go_roundw
      case rel => exact ⟨k + 1, by omega, by go_num, hst, hb.setCell (p := ⟨g, q, none⟩) hlg _⟩
      case measure => simp [intOf]; omega
    · have hdk : decide ((k : Int) < 8) = false := by simp; omega
      have h8 : k = 8 := by omega
      rw [h8] at hown
      clear h8 hlk hk
      have hc := hown.cellAt 11 (by simp)
      have hf := hown.frozenAt 11 (by simp)
      have hst := hown.set 11 (.int .u8 ((1 : UInt8).toNat : Int)) (by simp)
      rw [← u8s_set] at hst
      cases last with
      | true =>
        go_wp2_with fail
        go_ret
        exact ⟨g, rfl, hst, hb.setCell (p := ⟨g, 11, none⟩) hlg _⟩
      | false =>
        go_wp2_with fail
        go_ret
        exact ⟨g, rfl, hown, hb⟩
end Go.Proofs.YtkocgogpbammaaaDoor

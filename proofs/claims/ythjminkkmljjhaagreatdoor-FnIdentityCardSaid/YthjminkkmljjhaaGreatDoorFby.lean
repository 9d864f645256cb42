/- Element.Bytes: the bytes of the number, the lowest first. (Printed by wip/genby2.py.) -/
import Derived.Test.YthjminkkmljjhaaGreatDoorFrd
namespace Go.Proofs.YthjminkkmljjhaaGreatDoor
open Go.RowKit

def le8 (u : Nat) : List UInt8 := (List.range 8).map fun j => UInt8.ofNat (u / 256 ^ j % 256)
@[simp] theorem le8_length (u : Nat) : (le8 u).length = 8 := by simp [le8]
def putL (L : List UInt8) (off u k : Nat) : List UInt8 := L.take off ++ (le8 u).take k ++ L.drop (off + k)
theorem putL_zero (L : List UInt8) (off u : Nat) : putL L off u 0 = L := by simp [putL]
theorem putL_length (L : List UInt8) (off u k : Nat) (hk : k ≤ 8) (h : off + k ≤ L.length) : (putL L off u k).length = L.length := by simp [putL]; omega
theorem putL_set (L : List UInt8) (off u k : Nat) (hk : k < 8) (h : off + k < L.length) : (putL L off u k).set (off + k) (UInt8.ofNat (u / 256 ^ k % 256)) = putL L off u (k + 1) := by
  unfold putL
  have h1 : (L.take off ++ (le8 u).take k).length = off + k := by simp; omega
  rw [List.set_append_right _ _ (by rw [h1]; exact Nat.le_refl _), h1, Nat.sub_self, List.drop_eq_getElem_cons h, List.set_cons_zero]
  rw [List.take_succ_eq_append_getElem (l := le8 u) (i := k) (by simpa using hk)]
  have h2 : (le8 u)[k]'(by simpa using hk) = UInt8.ofNat (u / 256 ^ k % 256) := by simp [le8]
  rw [h2]
  simp [Nat.add_assoc]
theorem put_next (A R : List UInt8) (u : Nat) : putL (A ++ R) A.length u 8 = A ++ le8 u ++ R.drop 8 := by
  unfold putL
  rw [List.take_left, List.take_of_length_le (by simp), List.drop_append]
  simp
theorem part_byte (N i j : Nat) (hj : j < 8) : N / 18446744073709551616 ^ i % 18446744073709551616 / 256 ^ j % 256 = N / 256 ^ (8 * i + j) % 256 := by
  rw [Nat.pow_add, ← Nat.div_div_eq_div_mul, show (256 : Nat) ^ (8 * i) = 18446744073709551616 ^ i from by rw [Nat.pow_mul]]
  generalize N / 18446744073709551616 ^ i = n
  have hc : j = 0 ∨ j = 1 ∨ j = 2 ∨ j = 3 ∨ j = 4 ∨ j = 5 ∨ j = 6 ∨ j = 7 := by omega
  rcases hc with rfl | rfl | rfl | rfl | rfl | rfl | rfl | rfl <;> simp only [Nat.reducePow] <;> omega
theorem le8_part (N i : Nat) : le8 (N / 18446744073709551616 ^ i % 18446744073709551616) = (List.range 8).map fun j => UInt8.ofNat (N / 256 ^ (8 * i + j) % 256) := by
  unfold le8
  refine List.map_congr_left fun j hj => ?_
  rw [part_byte N i j (List.mem_range.1 hj)]
theorem leB_parts (N : Nat) : leB N = le8 (N / 18446744073709551616 ^ 0 % 18446744073709551616) ++ le8 (N / 18446744073709551616 ^ 1 % 18446744073709551616) ++ le8 (N / 18446744073709551616 ^ 2 % 18446744073709551616) ++ le8 (N / 18446744073709551616 ^ 3 % 18446744073709551616) := by
  rw [le8_part, le8_part, le8_part, le8_part]
  rfl
theorem u64_wrap_nat (x : Nat) : IntKind.u64.wrap (x : Int) = ((x % 18446744073709551616 : Nat) : Int) := by
  unfold IntKind.wrap; simp [IntKind.bits, IntKind.signed]
theorem u8_wrap_nat (x : Nat) : IntKind.u8.wrap (x : Int) = ((x % 256 : Nat) : Int) := by
  unfold IntKind.wrap; simp [IntKind.bits, IntKind.signed]

set_option maxRecDepth 100000 in
set_option maxHeartbeats 2000000 in
theorem putU_any (w : World) (g off n c u : Nat) (L : List UInt8) (hL : L.length = 32) (hoff : off + 8 ≤ 32) (hn : 8 ≤ n) (hg : BAt w g L) :
    Calls Tryz.prog 102 #[.slice (some ⟨g, off, none⟩) n c, .int .u64 (u : Int)] w fun e w' => e = .returned (.tuple #[]) ∧ BAt w' g (putL L off u 8) ∧ w.grownBy w' (some g) := by
  go_enter Tryz.func102, Tryz.ntmps102
  go_wp2
  go_loopw [4] (fun iv wr => ∃ k : Nat, k ≤ 8 ∧ iv = .int .i64 k ∧ BAt wr g (putL L off u k) ∧ w.grownBy wr (some g)) (fun iv _ => 8 - (intOf iv).toNat)
  case atStart => exact ⟨0, Nat.zero_le _, rfl, by rw [putL_zero]; exact hg, World.grownBy.refl _ _⟩
  case round =>
    obtain ⟨k, hk, rfl, hg, hgg⟩ := hrel
    by_cases hlt : k < 8
    · have hlen := putL_length L off u k hk (by omega)
      have hst := b_set hg (off + k) (UInt8.ofNat (u / 256 ^ k % 256)) (by omega)
      rw [putL_set L off u k hlt (by omega)] at hst
      have hcv : ((UInt8.ofNat (u / 256 ^ k % 256)).toNat : Int) = ((u / 256 ^ k % 256 : Nat) : Int) := by
        rw [UInt8.toNat_ofNat', Nat.mod_eq_of_lt (Nat.mod_lt _ (by decide))]
      rw [hcv] at hst
      obtain ⟨cv, ck⟩ : ∃ v, wr.cell? ⟨g, off + k, none⟩ = some v := ⟨_, hg.cell (off + k) (by simp; omega)⟩
      have fk := hg.fr (off + k)
      have j1 : (k : Int) < (n : Int) := by omega
      have hg2 := grown_set hgg (off + k) (.int .u8 ((u / 256 ^ k % 256 : Nat) : Int))
      have HST := Lib.hid hst
      have HG2 := Lib.hid hg2
      clear hst hg2 hcv hlen
      have hc : k = 0 ∨ k = 1 ∨ k = 2 ∨ k = 3 ∨ k = 4 ∨ k = 5 ∨ k = 6 ∨ k = 7 := by omega
      rcases hc with rfl | rfl | rfl | rfl | rfl | rfl | rfl | rfl
      · have hw : IntKind.u8.wrap ((u : Int)) = ((u / 256 ^ 0 % 256 : Nat) : Int) := by
          rw [show (u : Int) = ((u / 256 ^ 0 : Nat) : Int) from by simp, u8_wrap_nat]
        obtain ⟨cc, hcc⟩ : ∃ cc, cc = u / 256 ^ 0 % 256 := ⟨_, rfl⟩
        rw [← hcc] at hw HST HG2
        clear hcc
        rw [Nat.add_zero] at ck fk
        go_wp2
        go_roundw
        case rel => exact ⟨1, by omega, rfl, HST.out, HG2.out⟩
        case measure => simp [intOf]
      · have hw : IntKind.u8.wrap ((u : Int) / 256) = ((u / 256 ^ 1 % 256 : Nat) : Int) := by
          rw [show (u : Int) / 256 = ((u / 256 ^ 1 : Nat) : Int) from by simp, u8_wrap_nat]
        obtain ⟨cc, hcc⟩ : ∃ cc, cc = u / 256 ^ 1 % 256 := ⟨_, rfl⟩
        rw [← hcc] at hw HST HG2
        clear hcc
        skip
        go_wp2
        go_roundw
        case rel => exact ⟨2, by omega, rfl, HST.out, HG2.out⟩
        case measure => simp [intOf]
      · have hw : IntKind.u8.wrap ((u : Int) / 65536) = ((u / 256 ^ 2 % 256 : Nat) : Int) := by
          rw [show (u : Int) / 65536 = ((u / 256 ^ 2 : Nat) : Int) from by simp, u8_wrap_nat]
        obtain ⟨cc, hcc⟩ : ∃ cc, cc = u / 256 ^ 2 % 256 := ⟨_, rfl⟩
        rw [← hcc] at hw HST HG2
        clear hcc
        skip
        go_wp2
        go_roundw
        case rel => exact ⟨3, by omega, rfl, HST.out, HG2.out⟩
        case measure => simp [intOf]
      · have hw : IntKind.u8.wrap ((u : Int) / 16777216) = ((u / 256 ^ 3 % 256 : Nat) : Int) := by
          rw [show (u : Int) / 16777216 = ((u / 256 ^ 3 : Nat) : Int) from by simp, u8_wrap_nat]
        obtain ⟨cc, hcc⟩ : ∃ cc, cc = u / 256 ^ 3 % 256 := ⟨_, rfl⟩
        rw [← hcc] at hw HST HG2
        clear hcc
        skip
        go_wp2
        go_roundw
        case rel => exact ⟨4, by omega, rfl, HST.out, HG2.out⟩
        case measure => simp [intOf]
      · have hw : IntKind.u8.wrap ((u : Int) / 4294967296) = ((u / 256 ^ 4 % 256 : Nat) : Int) := by
          rw [show (u : Int) / 4294967296 = ((u / 256 ^ 4 : Nat) : Int) from by simp, u8_wrap_nat]
        obtain ⟨cc, hcc⟩ : ∃ cc, cc = u / 256 ^ 4 % 256 := ⟨_, rfl⟩
        rw [← hcc] at hw HST HG2
        clear hcc
        skip
        go_wp2
        go_roundw
        case rel => exact ⟨5, by omega, rfl, HST.out, HG2.out⟩
        case measure => simp [intOf]
      · have hw : IntKind.u8.wrap ((u : Int) / 1099511627776) = ((u / 256 ^ 5 % 256 : Nat) : Int) := by
          rw [show (u : Int) / 1099511627776 = ((u / 256 ^ 5 : Nat) : Int) from by simp, u8_wrap_nat]
        obtain ⟨cc, hcc⟩ : ∃ cc, cc = u / 256 ^ 5 % 256 := ⟨_, rfl⟩
        rw [← hcc] at hw HST HG2
        clear hcc
        skip
        go_wp2
        go_roundw
        case rel => exact ⟨6, by omega, rfl, HST.out, HG2.out⟩
        case measure => simp [intOf]
      · have hw : IntKind.u8.wrap ((u : Int) / 281474976710656) = ((u / 256 ^ 6 % 256 : Nat) : Int) := by
          rw [show (u : Int) / 281474976710656 = ((u / 256 ^ 6 : Nat) : Int) from by simp, u8_wrap_nat]
        obtain ⟨cc, hcc⟩ : ∃ cc, cc = u / 256 ^ 6 % 256 := ⟨_, rfl⟩
        rw [← hcc] at hw HST HG2
        clear hcc
        skip
        go_wp2
        go_roundw
        case rel => exact ⟨7, by omega, rfl, HST.out, HG2.out⟩
        case measure => simp [intOf]
      · have hw : IntKind.u8.wrap ((u : Int) / 72057594037927936) = ((u / 256 ^ 7 % 256 : Nat) : Int) := by
          rw [show (u : Int) / 72057594037927936 = ((u / 256 ^ 7 : Nat) : Int) from by simp, u8_wrap_nat]
        obtain ⟨cc, hcc⟩ : ∃ cc, cc = u / 256 ^ 7 % 256 := ⟨_, rfl⟩
        rw [← hcc] at hw HST HG2
        clear hcc
        skip
        go_wp2
        go_roundw
        case rel => exact ⟨8, by omega, rfl, HST.out, HG2.out⟩
        case measure => simp [intOf]
    · obtain rfl : k = 8 := by omega
      clear hlt
      go_wp2
      go_end0
      exact ⟨rfl, hg, hgg⟩

set_option maxRecDepth 100000 in
set_option maxHeartbeats 2000000 in
theorem bytes_M (w : World) (v g m : Nat) (L : List UInt8) (hL : L.length = 32) (hv : FeM w v m) (hg : BAt w g L) :
    Calls Tryz.prog 91 #[.pointer (some ⟨v, 0, none⟩), .pointer (some ⟨g, 0, none⟩)] w fun e w' => e = .returned (.slice (some ⟨g, 0, none⟩) 32 32) ∧ BAt w' g (leB m) ∧ w.grownBy w' (some g) := by
  obtain ⟨x, hx, ox, hm⟩ := hv
  have hlg := hg.lt
  have HX := Lib.hid hx
  have hn : FeAt (w.alloc objE) w.heap.size ⟨0, 0, 0, 0, 0⟩ := heap_alloc_new w _
  have hb := below_alloc w objE
  go_enter Tryz.func91, Tryz.ntmps91
  go_wp2_with (first | (refine wpList_loadE rfl (.tmp 11) rfl v x rfl HX.out ?_) | (refine wpList_storeE rfl (.tmp 5) (.tmp 12) rfl w.heap.size x ⟨0, 0, 0, 0, 0⟩ rfl rfl hn ?_; intro w2 h2 g2))
  have g2 : (w.alloc objE).grownBy w2 (some w.heap.size) := g2
  have hG2 := (Arr.below hg hb).kept g2 (by omega)
  have hb2 : Below w.heap.size w w2 := bkept hb g2 (Nat.le_refl _) hb.size
  have hsz : w.heap.size + 1 ≤ w2.heap.size := by have := h2.lt; omega
  clear hn g2 hb
  refine (reduce_M _ w.heap.size m ⟨x, h2, ox, hm⟩).mono ?_
  rintro e w3 ⟨rfl, ⟨b0, b1, b2, b3, b4, h3, l0, l1, l2, l3, l4, hval⟩, g3⟩
  have hG3 := hG2.kept g3 (by omega)
  have hb3 := bkept hb2 g3 (Nat.le_refl _) hb2.size
  have hsz := Nat.le_trans hsz g3.size
  obtain ⟨v0, v1, v2, v3⟩ := val_lt51 b0 b1 b2 b3 b4 m hval l0 l1 l2 l3 l4
  clear hG2 hb2 h2 hval hx hm ox
  have c0 : w3.cell? ⟨w.heap.size, 0, none⟩ = some (.int .u64 (b0 : Int)) := h3.c0
  have c1 : w3.cell? ⟨w.heap.size, 1, none⟩ = some (.int .u64 (b1 : Int)) := h3.c1
  have c2 : w3.cell? ⟨w.heap.size, 2, none⟩ = some (.int .u64 (b2 : Int)) := h3.c2
  have c3 : w3.cell? ⟨w.heap.size, 3, none⟩ = some (.int .u64 (b3 : Int)) := h3.c3
  have c4 : w3.cell? ⟨w.heap.size, 4, none⟩ = some (.int .u64 (b4 : Int)) := h3.c4
  obtain ⟨U0, hU0⟩ : ∃ U, U = m / 18446744073709551616 ^ 0 % 18446744073709551616 := ⟨_, rfl⟩
  obtain ⟨X0, hX0⟩ : ∃ X, X = b1 * 2251799813685248 % 18446744073709551616 := ⟨_, rfl⟩
  have w0s : IntKind.u64.wrap ((b1 : Int) * 2251799813685248) = (X0 : Int) := by rw [show (b1 : Int) * 2251799813685248 = ((b1 * 2251799813685248 : Nat) : Int) from by omega, u64_wrap_nat, hX0]
  have o0 : bits .or .u64 (X0 : Int) ((b0 : Int)) = (U0 : Int) := by
    have hpow : m / 18446744073709551616 ^ 0 = m := by rw [Nat.pow_zero, Nat.div_one]
    rw [hpow] at hU0
    rw [u64_or_nat _ _ (by omega) (by omega), nat_join 51 _ _ (by simp only [Nat.reducePow]; omega) (by simp only [Nat.reducePow]; omega)]
    congr 1
    omega
  obtain ⟨U1, hU1⟩ : ∃ U, U = m / 18446744073709551616 ^ 1 % 18446744073709551616 := ⟨_, rfl⟩
  obtain ⟨X1, hX1⟩ : ∃ X, X = b2 * 274877906944 % 18446744073709551616 := ⟨_, rfl⟩
  have w1s : IntKind.u64.wrap ((b2 : Int) * 274877906944) = (X1 : Int) := by rw [show (b2 : Int) * 274877906944 = ((b2 * 274877906944 : Nat) : Int) from by omega, u64_wrap_nat, hX1]
  have o1 : bits .or .u64 (X1 : Int) ((b1 : Int) / 8192) = (U1 : Int) := by
    have hpow : m / 18446744073709551616 ^ 1 = m / 18446744073709551616 := by rw [show (18446744073709551616 : Nat) ^ 1 = 18446744073709551616 from by decide]
    rw [hpow] at hU1
    rw [show (b1 : Int) / 8192 = ((b1 / 8192 : Nat) : Int) from by omega, u64_or_nat _ _ (by omega) (by omega), nat_join 38 _ _ (by simp only [Nat.reducePow]; omega) (by simp only [Nat.reducePow]; omega)]
    congr 1
    omega
  obtain ⟨U2, hU2⟩ : ∃ U, U = m / 18446744073709551616 ^ 2 % 18446744073709551616 := ⟨_, rfl⟩
  obtain ⟨X2, hX2⟩ : ∃ X, X = b3 * 33554432 % 18446744073709551616 := ⟨_, rfl⟩
  have w2s : IntKind.u64.wrap ((b3 : Int) * 33554432) = (X2 : Int) := by rw [show (b3 : Int) * 33554432 = ((b3 * 33554432 : Nat) : Int) from by omega, u64_wrap_nat, hX2]
  have o2 : bits .or .u64 (X2 : Int) ((b2 : Int) / 67108864) = (U2 : Int) := by
    have hpow : m / 18446744073709551616 ^ 2 = m / 340282366920938463463374607431768211456 := by rw [show (18446744073709551616 : Nat) ^ 2 = 340282366920938463463374607431768211456 from by decide]
    rw [hpow] at hU2
    rw [show (b2 : Int) / 67108864 = ((b2 / 67108864 : Nat) : Int) from by omega, u64_or_nat _ _ (by omega) (by omega), nat_join 25 _ _ (by simp only [Nat.reducePow]; omega) (by simp only [Nat.reducePow]; omega)]
    congr 1
    omega
  obtain ⟨U3, hU3⟩ : ∃ U, U = m / 18446744073709551616 ^ 3 % 18446744073709551616 := ⟨_, rfl⟩
  obtain ⟨X3, hX3⟩ : ∃ X, X = b4 * 4096 % 18446744073709551616 := ⟨_, rfl⟩
  have w3s : IntKind.u64.wrap ((b4 : Int) * 4096) = (X3 : Int) := by rw [show (b4 : Int) * 4096 = ((b4 * 4096 : Nat) : Int) from by omega, u64_wrap_nat, hX3]
  have o3 : bits .or .u64 (X3 : Int) ((b3 : Int) / 549755813888) = (U3 : Int) := by
    have hpow : m / 18446744073709551616 ^ 3 = m / 6277101735386680763835789423207666416102355444464034512896 := by rw [show (18446744073709551616 : Nat) ^ 3 = 6277101735386680763835789423207666416102355444464034512896 from by decide]
    rw [hpow] at hU3
    rw [show (b3 : Int) / 549755813888 = ((b3 / 549755813888 : Nat) : Int) from by omega, u64_or_nat _ _ (by omega) (by omega), nat_join 12 _ _ (by simp only [Nat.reducePow]; omega) (by simp only [Nat.reducePow]; omega)]
    congr 1
    omega
  have HU : Hid (U0 = m / 18446744073709551616 ^ 0 % 18446744073709551616 ∧ U1 = m / 18446744073709551616 ^ 1 % 18446744073709551616 ∧ U2 = m / 18446744073709551616 ^ 2 % 18446744073709551616 ∧ U3 = m / 18446744073709551616 ^ 3 % 18446744073709551616) := ⟨hU0, hU1, hU2, hU3⟩
  clear hU0 hU1 hU2 hU3 hX0 hX1 hX2 hX3 v0 v1 v2 v3 l0 l1 l2 l3 l4 h3
  have hl0 := hL
  go_wp2_with fail
  refine (putU_any _ g 0 32 32 U0 L hl0 (by decide) (by decide) hG3).mono ?_
  rintro e w4 ⟨rfl, hG4, gg0⟩
  have hl1 : (putL L 0 U0 8).length = 32 := by rw [putL_length _ _ _ _ (Nat.le_refl _) (by omega), hl0]
  go_wp2_with fail
  refine (putU_any _ g 8 24 24 U1 (putL L 0 U0 8) hl1 (by decide) (by decide) hG4).mono ?_
  rintro e w5 ⟨rfl, hG5, gg1⟩
  have hl2 : (putL (putL L 0 U0 8) 8 U1 8).length = 32 := by rw [putL_length _ _ _ _ (Nat.le_refl _) (by omega), hl1]
  go_wp2_with fail
  refine (putU_any _ g 16 16 16 U2 (putL (putL L 0 U0 8) 8 U1 8) hl2 (by decide) (by decide) hG5).mono ?_
  rintro e w6 ⟨rfl, hG6, gg2⟩
  have hl3 : (putL (putL (putL L 0 U0 8) 8 U1 8) 16 U2 8).length = 32 := by rw [putL_length _ _ _ _ (Nat.le_refl _) (by omega), hl2]
  go_wp2_with fail
  refine (putU_any _ g 24 8 8 U3 (putL (putL (putL L 0 U0 8) 8 U1 8) 16 U2 8) hl3 (by decide) (by decide) hG6).mono ?_
  rintro e w7 ⟨rfl, hG7, gg3⟩
  have hl4 : (putL (putL (putL (putL L 0 U0 8) 8 U1 8) 16 U2 8) 24 U3 8).length = 32 := by rw [putL_length _ _ _ _ (Nat.le_refl _) (by omega), hl3]
  go_wp2_with fail
  go_ret
  have hfin : (putL (putL (putL (putL L 0 U0 8) 8 U1 8) 16 U2 8) 24 U3 8) = leB m := by
    obtain ⟨u0, u1, u2, u3⟩ := HU.out
    rw [leB_parts, ← u0, ← u1, ← u2, ← u3]
    have e0 := put_next [] L U0
    simp only [List.nil_append, List.length_nil] at e0
    rw [e0]
    have e1 := put_next (le8 U0) (L.drop 8) U1
    rw [le8_length] at e1
    rw [e1]
    have e2 := put_next (le8 U0 ++ le8 U1) ((L.drop 8).drop 8) U2
    rw [List.length_append, le8_length, le8_length] at e2
    rw [e2]
    have e3 := put_next (le8 U0 ++ le8 U1 ++ le8 U2) (((L.drop 8).drop 8).drop 8) U3
    rw [List.length_append, List.length_append, le8_length, le8_length, le8_length] at e3
    rw [e3, List.drop_of_length_le (by simp; omega), List.append_nil]
  rw [hfin] at hG7
  have gg := grown_trans (grown_trans gg0 gg1) (grown_trans gg2 gg3)
  exact ⟨rfl, hG7, below_then hb3 gg⟩

set_option maxRecDepth 100000 in
set_option maxHeartbeats 2000000 in
theorem Bytes_M (w : World) (v m : Nat) (hv : FeM w v m) :
    Calls Tryz.prog 80 #[.pointer (some ⟨v, 0, none⟩)] w fun e w' => ∃ g, e = .returned (.slice (some ⟨g, 0, none⟩) 32 32) ∧ BAt w' g (leB m) ∧ w.heap.size ≤ g ∧ Below w.heap.size w w' := by
  have hn : BAt (w.alloc (objB zerosB)) w.heap.size zerosB := arr_new w _ _
  have hb := below_alloc w (objB zerosB)
  have hv1 := hv.below hb
  go_enter Tryz.func80, Tryz.ntmps80
  go_wp2_with fail
  refine (bytes_M _ v w.heap.size m zerosB rfl hv1 hn).mono ?_
  rintro e w1 ⟨rfl, h1, g1⟩
  have g1 : (w.alloc (objB zerosB)).grownBy w1 (some w.heap.size) := g1
  go_wp2_with fail
  go_ret
  exact ⟨w.heap.size, rfl, h1, Nat.le_refl _, bkept hb g1 (Nat.le_refl _) hb.size⟩
end Go.Proofs.YthjminkkmljjhaaGreatDoor

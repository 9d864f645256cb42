/- The reference's Small, bit, power, Inv. Conditions: numbers below 2^256. -/
import Derived.Test.YthjminkkmljjhaaGreatDoorSp
namespace Go.Proofs.YthjminkkmljjhaaGreatDoor
open Go.RowKit

set_option maxRecDepth 100000 in
set_option maxHeartbeats 1000000 in
theorem small_any (w : World) (n : Nat) (hn : n < 4294967296) :
    Calls Tryz.prog 24 #[.int .i64 (n : Int)] w fun e w' => e = .returned (nv (dig 16 n)) ∧ Below w.heap.size w w' := by
  have hR : NAt (w.alloc (objN zerosN)) w.heap.size zerosN := arr_new w _ _
  have hb := below_alloc w (objN zerosN)
  have hd : dig 16 n = [n % 65536, n / 65536, 0, 0, 0, 0, 0, 0, 0, 0, 0, 0, 0, 0, 0, 0] := by
    have h1 : n / 65536 % 65536 = n / 65536 := by omega
    have h2 : n / 65536 / 65536 = 0 := by omega
    simp [dig, h1, h2]
  have e1 : (n : Int) % 65536 = ((n % 65536 : Nat) : Int) := by omega
  have e2 : (n : Int) / 65536 = ((n / 65536 : Nat) : Int) := by omega
  rw [hd]
  clear hd
  have hq1 : n % 65536 < 65536 := by omega
  obtain ⟨p, hp⟩ : ∃ p, p = n % 65536 := ⟨_, rfl⟩
  obtain ⟨q, hq⟩ : ∃ q, q = n / 65536 := ⟨_, rfl⟩
  rw [← hp] at e1 ⊢
  rw [← hq] at e2 ⊢
  clear hp hq hq1
  go_enter Tryz.func24, Tryz.ntmps24
  go_wp2_with (refine wpList_storeN rfl (.tmp 2) (.tmp 9) rfl w.heap.size [p, q, 0, 0, 0, 0, 0, 0, 0, 0, 0, 0, 0, 0, 0, 0] zerosN rfl rfl rfl rfl hR ?_; intro w9 hN9 hg9)
  exact ret_n rfl w.heap.size _ rfl rfl hN9 rfl ⟨rfl, bkept hb hg9 (by omega) hb.size⟩

set_option maxRecDepth 100000 in
set_option maxHeartbeats 1000000 in
theorem bit_any (w : World) (n i : Nat) (hi : i < 256) :
    Calls Tryz.prog 25 #[nv (dig 16 n), .int .i64 (i : Int)] w fun e w' => e = .returned (.int .u64 (bitN n i : Int)) ∧ Below w.heap.size w w' := by
  have hA : NAt (w.alloc (objN (dig 16 n))) w.heap.size (dig 16 n) := arr_new w _ _
  have hb := below_alloc w (objN (dig 16 n))
  obtain ⟨q, hq⟩ : ∃ q, q = i / 16 := ⟨_, rfl⟩
  obtain ⟨r, hr⟩ : ∃ r, r = i % 16 := ⟨_, rfl⟩
  have hq16 : q < 16 := by omega
  have hr16 : r < 16 := by omega
  have hc := hA.cell q (by simp; omega)
  rw [u64s_get, dig_get] at hc
  have hbit := bitN_digit n i
  rw [← hq, ← hr] at hbit
  have hd : n / 65536 ^ q % 65536 < 65536 := Nat.mod_lt _ (by decide)
  rw [hbit]
  generalize n / 65536 ^ q % 65536 = d at *
  have e1 : (i : Int) / 16 = (q : Int) := by omega
  have e2 : (i : Int) % 16 = (r : Int) := by omega
  have e3 : bits BinOp.and IntKind.u64 ((d : Int) / (2:Int) ^ r) 1 = ((d / 2 ^ r % 2 : Nat) : Int) := by
    have e : (d : Int) / (2:Int) ^ r = ((d / 2 ^ r : Nat) : Int) := by simp
    have hle : d / 2 ^ r ≤ d := Nat.div_le_self _ _
    rw [e, show (1 : Int) = ((1 : Nat) : Int) from rfl, u64_and_nat _ 1 (by omega) (by omega), Nat.and_one_is_mod]
  obtain ⟨b, hbb⟩ : ∃ b, b = d / 2 ^ r % 2 := ⟨_, rfl⟩
  rw [← hbb] at e3 ⊢
  have i0 : (0 : Int) ≤ (q : Int) := by omega
  have i1 : (q : Int) < 16 := by omega
  have i2 : (0 : Int) ≤ (r : Int) := by omega
  have i3 : (r : Int) < 64 := by omega
  clear hq hr hbit hbb
  go_enter Tryz.func25, Tryz.ntmps25
  go_wp2
  go_ret
  exact ⟨rfl, hb⟩
end Go.Proofs.YthjminkkmljjhaaGreatDoor

/- The reference's power and inverse. Conditions: numbers below 2^256. -/

namespace Go.Proofs.YthjminkkmljjhaaGreatDoor
open Go.RowKit

theorem n_lt {n : Nat} (h : n < pp) : n < 115792089237316195423570985008687907853269984665640564039457584007913129639936 := Nat.lt_trans h (by decide)
set_option maxRecDepth 100000 in
set_option maxHeartbeats 1000000 in
theorem power_any (w : World) (a E : Nat) (ha : a < 115792089237316195423570985008687907853269984665640564039457584007913129639936) (hE : E < 115792089237316195423570985008687907853269984665640564039457584007913129639936) :
    Calls Tryz.prog 48 #[nv (dig 16 a), nv (dig 16 E)] w fun e w' => e = .returned (nv (dig 16 (pw a E))) ∧ Below w.heap.size w w' := by
  have HHA := Lib.hid ha
  have HHE := Lib.hid hE
  clear ha hE
  obtain ⟨hA, hE0, hR, hb3, hs⟩ := pre3 w (dig 16 a) (dig 16 E) zerosN
  go_enter Tryz.func48, Tryz.ntmps48
  go_wp2_with fail
  refine (small_any _ 1 (by decide)).mono ?_
  rintro e w1 ⟨rfl, hb1⟩
  have hA1 := hA.below hb1
  have hE1 := hE0.below hb1
  have hR1 := hR.below hb1
  have hbb1 := hb3.trans (hb1.mono hb3.size)
  have hlR := hR1.lt
  have hn1 : NAt (w1.alloc (objN zerosN)) w1.heap.size zerosN := arr_new w1 _ _
  have hA2 := hA1.below (below_alloc w1 (objN zerosN))
  have hE2 := hE1.below (below_alloc w1 (objN zerosN))
  have hR2 := hR1.below (below_alloc w1 (objN zerosN))
  have hbb2 : Below w.heap.size w (w1.alloc (objN zerosN)) := Below.alloc hbb1 hbb1.size _
  go_wp2_with (refine wpList_storeN rfl (.tmp 5) (.tmp 7) rfl w1.heap.size (dig 16 1) zerosN (by simp) rfl rfl rfl hn1 ?_; intro w2 hN2 hg2)
  have hg2' : (w1.alloc (objN zerosN)).grownBy w2 (some w1.heap.size) := hg2
  have hA3 := hA2.kept hg2' (by omega)
  have hE3 := hE2.kept hg2' (by omega)
  have hR3 := hR2.kept hg2' (by omega)
  have hbb3 := bkept hbb2 hg2' (by omega) hbb2.size
  have hge := hbb1.size
  obtain ⟨g5, hg5⟩ : ∃ g, g = w1.heap.size := ⟨_, rfl⟩
  have hne0 : w.heap.size ≠ g5 := by omega
  have hne1 : w.heap.size + 1 ≠ g5 := by omega
  have hne2 : w.heap.size + 2 ≠ g5 := by omega
  have hge5 : w.heap.size ≤ g5 := by omega
  rw [← hg5] at hN2 ⊢
  clear hA hE0 hR hb3 hs hb1 hA1 hE1 hR1 hbb1 hlR hn1 hA2 hE2 hR2 hbb2 hg2 hg2' hge hg5
  go_wp2_with fail
  go_loopw [6] (fun iv wr => ∃ (k : Nat) (z : Int), k ≤ 256 ∧ z = (k : Int) - 1 ∧ iv = .int .i64 z ∧ NAt wr g5 (dig 16 (pw a (E / 2 ^ k))) ∧ NAt wr w.heap.size (dig 16 a) ∧ NAt wr (w.heap.size + 1) (dig 16 E) ∧ NAt wr (w.heap.size + 2) zerosN ∧ Below w.heap.size w wr) (fun iv _ => (intOf iv + 1).toNat)
  case atStart => exact ⟨256, 255, Nat.le_refl _, rfl, rfl, (by rw [Nat.div_eq_of_lt HHE.out, pw_zero]; exact hN2), hA3, hE3, hR3, hbb3⟩
  case round =>
    clear hN2 hA3 hE3 hR3 hbb3
    obtain ⟨k, z, hk, hz, rfl, hN, hA, hE, hR, hb⟩ := hrel
    rcases k with _ | j
    · obtain rfl : z = -1 := by omega
      clear hz
      have d0 : decide ((-1 : Int) ≥ 0) = false := by decide
      go_wp2_with (first | (refine wpList_loadN rfl (.tmp 5) rfl g5 (dig 16 (pw a (E / 2 ^ 0))) (by simp) rfl hN ?_) | (refine wpList_storeN rfl (.tmp 4) (.tmp 22) rfl (w.heap.size + 2) (dig 16 (pw a (E / 2 ^ 0))) zerosN (by simp) rfl rfl rfl hR ?_; intro w9 hN9 hg9))
      exact ret_n rfl (w.heap.size + 2) _ (by simp) rfl hN9 rfl ⟨by rw [Nat.pow_zero, Nat.div_one], bkept hb hg9 (by omega) hb.size⟩
    · obtain rfl : z = (j : Int) := by omega
      clear hz
      have hj : j < 256 := by omega
      have hon := pw_bit_on a E j
      have hoff := pw_bit_off a E j
      have hpl := n_lt (pw_lt a (E / 2 ^ (j + 1)))
      generalize pw a (E / 2 ^ (j + 1)) = P at *
      have hml := n_lt (mulm_lt P P)
      have HON := Lib.hid hon; clear hon
      have HOFF := Lib.hid hoff; clear hoff
      have HPL := Lib.hid hpl; clear hpl
      have HML := Lib.hid hml; clear hml
      have j0 : (0 : Int) ≤ (j : Int) := by omega
      go_wp2_with (refine wpList_loadN rfl (.tmp 5) rfl g5 (dig 16 P) (by simp) rfl hN ?_)
      refine (specMul_any _ P P HPL.out HPL.out).mono ?_
      rintro e w1 ⟨rfl, hb1⟩
      have hN1 := hN.below hb1
      have hA1 := hA.below hb1
      have hE1 := hE.below hb1
      have hR1 := hR.below hb1
      have hbb1 := hb.trans (hb1.mono hb.size)
      clear hN hA hE hR hb hb1
      go_wp2_with (first | (refine wpList_storeN rfl (.tmp 5) (.tmp 14) rfl g5 (dig 16 (mulm P P)) (dig 16 P) (by simp) (by simp) rfl rfl hN1 ?_; intro w2 hN2 hg2) | (refine wpList_loadN rfl (.tmp 3) rfl (w.heap.size + 1) (dig 16 E) (by simp) rfl (hE1.kept hg2 hne1) ?_))
      have hA2 := hA1.kept hg2 hne0
      have hE2 := hE1.kept hg2 hne1
      have hR2 := hR1.kept hg2 hne2
      have hbb2 := bkept hbb1 hg2 hge5 hbb1.size
      clear hN1 hA1 hE1 hR1 hbb1 hg2
      refine (bit_any _ E j hj).mono ?_
      rintro e w3 ⟨rfl, hb3⟩
      have hN3 := hN2.below hb3
      have hA3 := hA2.below hb3
      have hE3 := hE2.below hb3
      have hR3 := hR2.below hb3
      have hbb3 := hbb2.trans (hb3.mono hbb2.size)
      clear hN2 hA2 hE2 hR2 hbb2 hb3
      by_cases hbit : bitN E j = 1
      · rw [hbit]
        have HON2 := Lib.hid (HON.out hbit)
        clear HON HOFF hbit
        go_wp2_with (first | (refine wpList_loadN rfl (.tmp 5) rfl g5 (dig 16 (mulm P P)) (by simp) rfl hN3 ?_) | (refine wpList_loadN rfl (.tmp 2) rfl w.heap.size (dig 16 a) (by simp) rfl hA3 ?_))
        refine (specMul_any _ (mulm P P) a HML.out HHA.out).mono ?_
        rintro e w4 ⟨rfl, hb4⟩
        have hN4 := hN3.below hb4
        have hA4 := hA3.below hb4
        have hE4 := hE3.below hb4
        have hR4 := hR3.below hb4
        have hbb4 := hbb3.trans (hb4.mono hbb3.size)
        clear hN3 hA3 hE3 hR3 hbb3 hb4
        go_wp2_with (refine wpList_storeN rfl (.tmp 5) (.tmp 21) rfl g5 (dig 16 (mulm (mulm P P) a)) (dig 16 (mulm P P)) (by simp) (by simp) rfl rfl hN4 ?_; intro w5 hN5 hg5)
        go_roundw
        case rel => exact ⟨j, (j : Int) - 1, by omega, rfl, by go_num, (by rw [HON2.out]; exact hN5), hA4.kept hg5 hne0, hE4.kept hg5 hne1, hR4.kept hg5 hne2, bkept hbb4 hg5 hge5 hbb4.size⟩
        case measure => simp [intOf]
      · have HOFF2 := Lib.hid (HOFF.out hbit)
        have d1 : ((bitN E j : Int) == 1) = false := by rw [beq_eq_false_iff_ne]; omega
        clear HON HOFF hbit
        go_wp2_with fail
        go_roundw
        case rel => exact ⟨j, (j : Int) - 1, by omega, rfl, by go_num, (by rw [HOFF2.out]; exact hN3), hA3, hE3, hR3, hbb3⟩
        case measure => simp [intOf]

theorem dig_em2 : em2 = pp - 2 := by decide
set_option maxRecDepth 100000 in
set_option maxHeartbeats 1000000 in
theorem inv_any (w : World) (a : Nat) (ha : a < 115792089237316195423570985008687907853269984665640564039457584007913129639936) :
    Calls Tryz.prog 29 #[nv (dig 16 a)] w fun e w' => e = .returned (nv (dig 16 (invm a))) ∧ Below w.heap.size w w' := by
  obtain ⟨hA, hR, hb3, hs⟩ := pre2 w (dig 16 a) zerosN
  obtain ⟨w3, hw3⟩ : ∃ w3, w3 = (w.alloc (objN (dig 16 a))).alloc (objN zerosN) := ⟨_, rfl⟩
  rw [← hw3] at hA hR hb3 hs
  have hem : em2 < 115792089237316195423570985008687907853269984665640564039457584007913129639936 := by decide
  have hmin (w : World) : Calls Tryz.prog 49 #[nv (dig 16 pp), nv (dig 16 2)] w fun e w' => e = .returned (nv (dig 16 em2)) ∧ Below w.heap.size w w' := by
    rw [dig_em2]; exact minus_any w pp 2 (by decide) (by decide)
  go_enter Tryz.func29, Tryz.ntmps29
  go_wp2_with fail
  show Code.wp _ _ _ _ ((w.alloc (objN (dig 16 a))).alloc (objN zerosN))
  rw [← hw3]
  clear hw3
  refine wp_region_held_drew (S := fun w' => GH w3 w' (w.heap.size + 1) 16 56) (by kernel_rfl) (GH.start hR rfl) (fun hH => ?_)
  refine wpAnyH_take (i := 0) rfl (by kernel_rfl) (by kernel_rfl) (by kernel_rfl) (fun _ _ _ h => h) (yieldsIf_load_mid (by rfl) _ _ rfl _ _ rfl _ _ (fun w' h => Arr.range (Arr.kept hA (GH.g h) (by omega))) n_und rfl (n_len (a))) hH ?_
  simp only [Act.put, List.setIfInBounds_toArray, List.set_cons_zero, List.set_cons_succ]
  refine wpAnyH_ready (rs := [1]) (by kernel_rfl) (by simp) ?_
  refine AllReadyH.cons rfl (fun K hK => ?_) AllReadyH.nil
  go_simp
  go_at_call 50
  refine (specP_any _).mono ?_
  rintro e w4 ⟨rfl, hb_w4⟩
  refine hK.out _ _ (hH.call hb_w4) (fun hH => ?_)
  clear hK K
  try simp only [Act.put, List.setIfInBounds_toArray, List.set_cons_zero, List.set_cons_succ]
  refine wpAnyH_ready (rs := [2]) (by kernel_rfl) (by simp) ?_
  refine AllReadyH.cons rfl (fun K hK => ?_) AllReadyH.nil
  go_simp
  go_at_call 24
  refine (small_any _ 2 (by decide)).mono ?_
  rintro e w5 ⟨rfl, hb_w5⟩
  refine hK.out _ _ (hH.call hb_w5) (fun hH => ?_)
  clear hK K
  try simp only [Act.put, List.setIfInBounds_toArray, List.set_cons_zero, List.set_cons_succ]
  refine wpAnyH_ready (rs := [3]) (by kernel_rfl) (by simp) ?_
  refine AllReadyH.cons rfl (fun K hK => ?_) AllReadyH.nil
  go_simp
  go_at_call 49
  refine (hmin _).mono ?_
  rintro e w6 ⟨rfl, hb_w6⟩
  refine hK.out _ _ (hH.call hb_w6) (fun hH => ?_)
  clear hK K
  try simp only [Act.put, List.setIfInBounds_toArray, List.set_cons_zero, List.set_cons_succ]
  refine wpAnyH_ready (rs := [4]) (by kernel_rfl) (by simp) ?_
  refine AllReadyH.cons rfl (fun K hK => ?_) AllReadyH.nil
  go_simp
  go_at_call 48
  refine (power_any _ a em2 ha hem).mono ?_
  rintro e w7 ⟨rfl, hb_w7⟩
  refine hK.out _ _ (hH.call hb_w7) (fun hH => ?_)
  clear hK K
  try simp only [Act.put, List.setIfInBounds_toArray, List.set_cons_zero, List.set_cons_succ]
  refine wpAnyH_ready (rs := [5]) (by kernel_rfl) (by simp) ?_
  refine AllReadyH.cons rfl (fun K hK => ?_) AllReadyH.nil
  refine wanted_step (by rfl) ?_
  refine step_store 56 (.tmp 2) (.tmp 7) rfl hH (u64s (dig 16 (pw a em2))) rfl rfl (by simp) n_size (u64s_oneCell _) ?_
  intro w9 hH hN_w9
  refine hK.out _ _ hH (fun hH => ?_)
  clear hK K
  refine wpAnyH_done (by kernel_rfl) ?_ _
  go_wp2_with fail
  exact ret_n rfl (w.heap.size + 1) _ (by simp) rfl hN_w9 rfl ⟨rfl, hH.below hb3 (by omega) (by omega)⟩
end Go.Proofs.YthjminkkmljjhaaGreatDoor

/- The reference's settle: what digits of any size stand for modulo the prime. Condition: digits below 2^44. -/
import Derived.Test.YthjminkkmljjhaaGreatDoorSm
import Derived.Deep.LoopGhost
namespace Go.Proofs.YthjminkkmljjhaaGreatDoor
open Go.RowKit

theorem wanted_step {c : Bool} {p q : Prop} (h : c = true) (hp : p) : if c = true then p else q := by rw [if_pos h]; exact hp
theorem held1_drew {w0 w1 : World} {B g r : Nat} {l z : List Nat} (h : NAt w1 g l ∧ NAt w1 r z ∧ Below B w0 w1) : w1.drew.rangeAt g 0 (u64s l) ∧ w1.drew.there r 0 z.length ∧ NAt w1.drew g l ∧ NAt w1.drew r z ∧ Below B w0 w1.drew := by
  obtain ⟨h1, h2, h3⟩ := h
  exact ⟨Arr.range (show NAt w1.drew g l from h1), by have := Arr.there (show NAt w1.drew r z from h2); simpa using this, h1, h2, ⟨h3.os, h3.tape, h3.output, h3.size, h3.block⟩⟩
theorem held1_keep {w0 w1 w2 : World} {g r : Nat} {l z : List Nat} (h : w1.rangeAt g 0 (u64s l) ∧ w1.there r 0 z.length ∧ NAt w1 g l ∧ NAt w1 r z ∧ Below w0.heap.size w0 w1) (hb : Below w1.heap.size w1 w2) : w2.rangeAt g 0 (u64s l) ∧ w2.there r 0 z.length ∧ NAt w2 g l ∧ NAt w2 r z ∧ Below w0.heap.size w0 w2 := by
  obtain ⟨_, _, h1, h2, h3⟩ := h
  have k1 := h1.below hb
  have k2 := h2.below hb
  exact ⟨Arr.range k1, by have := Arr.there k2; simpa using this, k1, k2, h3.trans (hb.mono h3.size)⟩

theorem less_yes (w : World) (n m : Nat) (hn : n < 115792089237316195423570985008687907853269984665640564039457584007913129639936) (hm : m < 115792089237316195423570985008687907853269984665640564039457584007913129639936) (h : n < m) :
    Calls Tryz.prog 63 #[nv (dig 16 n), nv (dig 16 m)] w fun e w' => e = .returned (.bool true) ∧ Below w.heap.size w w' := by
  refine (less_any w (dig 16 n) (dig 16 m) (by simp) (by simp) (dig_lt _ _) (dig_lt _ _)).mono ?_
  rintro e w' ⟨rfl, hb⟩
  rw [valN_dig, valN_dig, pow2_256, Nat.mod_eq_of_lt hn, Nat.mod_eq_of_lt hm, decide_eq_true h]
  exact ⟨rfl, hb⟩
theorem less_no (w : World) (n m : Nat) (hn : n < 115792089237316195423570985008687907853269984665640564039457584007913129639936) (hm : m < 115792089237316195423570985008687907853269984665640564039457584007913129639936) (h : ¬ n < m) :
    Calls Tryz.prog 63 #[nv (dig 16 n), nv (dig 16 m)] w fun e w' => e = .returned (.bool false) ∧ Below w.heap.size w w' := by
  refine (less_any w (dig 16 n) (dig 16 m) (by simp) (by simp) (dig_lt _ _) (dig_lt _ _)).mono ?_
  rintro e w' ⟨rfl, hb⟩
  rw [valN_dig, valN_dig, pow2_256, Nat.mod_eq_of_lt hn, Nat.mod_eq_of_lt hm, decide_eq_false h]
  exact ⟨rfl, hb⟩
theorem n_len (n : Nat) : (Tryz.prog.info? 56).map (·.size) = some (u64s (dig 16 n)).length := by rw [n_size]; simp
theorem n_sizeA (n : Nat) : (Tryz.prog.info? 56).map (·.size) = some (u64s (dig 16 n)).toArray.size := by rw [n_size]; simp

set_option maxRecDepth 100000 in
set_option maxHeartbeats 2000000 in
theorem settle_any (w : World) (l0 : List Nat) (hl0 : l0.length = 16) (hd0 : ∀ d ∈ l0, d ≤ 1125899906842623) :
    Calls Tryz.prog 47 #[nv l0] w fun e w' => e = .returned (nv (dig 16 (valN l0 % pp))) ∧ Below w.heap.size w w' := by
  have HD0 := Lib.hid hd0
  clear hd0
  have hA0 : NAt (w.alloc (.cells (u64s l0).toArray 56)) w.heap.size l0 := arr_new w _ _
  obtain ⟨w1, hw1⟩ : ∃ w1, w1 = w.alloc (.cells (u64s l0).toArray 56) := ⟨_, rfl⟩
  have hs1 : w1.heap.size = w.heap.size + 1 := by rw [hw1]; simp
  rw [← hw1] at hA0
  have hA1 : NAt (w1.alloc zcells) w.heap.size l0 := hA0.below (below_alloc _ _)
  have hR1 : NAt (w1.alloc zcells) (w.heap.size + 1) zerosN := by rw [← hs1]; exact arr_new w1 _ _
  have hb1 : Below w.heap.size w (w1.alloc zcells) := by
    have h : Below w.heap.size w w1 := by rw [hw1]; exact below_alloc _ _
    exact Below.alloc h h.size _
  rw [hw1] at hA1 hR1 hb1
  clear hA0 hs1 hw1
  go_enter Tryz.func47, Tryz.ntmps47
  go_wp2
  go_loopg [3] (measN l0 1) (fun g cv wr => ∃ (l : List Nat) (c : Nat), cv = .int .u64 (c : Int) ∧ l.length = 16 ∧ Hid (∀ d ∈ l, d ≤ 1125899906842623) ∧ Hid (valN l % pp = valN l0 % pp) ∧ Hid (c = 0 → l = dig 16 (valN l) ∧ valN l < 115792089237316195423570985008687907853269984665640564039457584007913129639936) ∧ g = measN l c ∧ NAt wr w.heap.size l ∧ NAt wr (w.heap.size + 1) zerosN ∧ Below w.heap.size w wr)
  case atStart => exact ⟨l0, 1, rfl, hl0, HD0, rfl, (fun h => absurd h (by decide)), rfl, hA1, hR1, hb1⟩
  case round =>
    obtain ⟨l, c, rfl, hl, HD, HM, HC, hg, hN, hR, hb⟩ := hrel
    have HG := Lib.hid hg
    clear hg hA1 hR1 hb1
    by_cases hc : c = 0
    · subst hc
      obtain ⟨he, hlt⟩ := HC.out rfl
      have HV := HM.out
      generalize valN l = v at *
      subst he
      clear hl HD HM HC HG
      go_wp2
      go_loopg [32] v (fun g bv wr => ∃ n : Nat, n < 115792089237316195423570985008687907853269984665640564039457584007913129639936 ∧ Hid (n % pp = valN l0 % pp) ∧ g = n ∧ NAt wr w.heap.size (dig 16 n) ∧ NAt wr (w.heap.size + 1) zerosN ∧ Below w.heap.size w wr)
      case atStart => exact ⟨v, hlt, HV, rfl, hN, hR, hb⟩
      case round =>
        clear hN hR hb HV hlt
        obtain ⟨n, hn, HV, rfl, hN, hR, hb⟩ := hrel
        have hu := n_und
        have hi := n_len gk
        by_cases hgp : gk < pp
        · go_wp2_with fail
          go_region_held3 (fun w' => w'.rangeAt w.heap.size 0 (u64s (dig 16 gk)) ∧ w'.there (w.heap.size + 1) 0 zerosN.length ∧ NAt w' w.heap.size (dig 16 gk) ∧ NAt w' (w.heap.size + 1) zerosN ∧ Below w.heap.size w w') (first | exact held1_drew ⟨hN, hR, hb⟩ | exact held1_keep (by assumption) (by assumption)) (first | (go_at_call 50; refine (specP_any _).mono ?_; rintro e w' ⟨rfl, hbx⟩) | (go_at_call 63; refine (less_yes _ gk pp hn (by decide) hgp).mono ?_; rintro e w' ⟨rfl, hbx⟩))
          rename_i hS
          obtain ⟨_, _, kN, kR, kb⟩ := hS
          go_wp2_with (first | (refine wpList_loadN rfl (.tmp 1) rfl w.heap.size (dig 16 gk) (by simp) rfl kN ?_) | (refine wpList_storeN rfl (.tmp 2) (.tmp 36) rfl (w.heap.size + 1) (dig 16 gk) zerosN (by simp) rfl rfl rfl kR ?_; intro w9 hN9 hg9))
          have hfin : gk = valN l0 % pp := by rw [← HV.out, Nat.mod_eq_of_lt hgp]
          exact ret_n rfl (w.heap.size + 1) _ (by simp) rfl hN9 rfl ⟨by rw [← hfin], bkept kb hg9 (by omega) kb.size⟩
        · go_wp2_with fail
          go_region_held3 (fun w' => w'.rangeAt w.heap.size 0 (u64s (dig 16 gk)) ∧ w'.there (w.heap.size + 1) 0 zerosN.length ∧ NAt w' w.heap.size (dig 16 gk) ∧ NAt w' (w.heap.size + 1) zerosN ∧ Below w.heap.size w w') (first | exact held1_drew ⟨hN, hR, hb⟩ | exact held1_keep (by assumption) (by assumption)) (first | (go_at_call 50; refine (specP_any _).mono ?_; rintro e w' ⟨rfl, hbx⟩) | (go_at_call 63; refine (less_no _ gk pp hn (by decide) hgp).mono ?_; rintro e w' ⟨rfl, hbx⟩))
          rename_i hS
          obtain ⟨_, _, kN, kR, kb⟩ := hS
          clear hN hR hb
          go_wp2_with fail
          refine wp_region_any (by kernel_rfl) ?_
          change wpAny _ _ _ _ _ _ _ (World.drew _)
          refine wpAny_ready (rs := [0, 1]) (by kernel_rfl) (by simp) ?_
          refine AllReady.cons rfl (fun K hK => ?_) (AllReady.cons rfl (fun K hK => ?_) AllReady.nil)
          · refine wanted_step (by rfl) ?_
            refine wp_load_row 56 (.tmp 1) rfl w.heap.size rfl _ _ (0, 0) _ (show NAt w'.drew _ _ from kN) n_und rfl (n_sizeA gk) ?_
            refine hK _ _ ?_; clear hK K
            refine wpAny_ready (rs := [1]) (by kernel_rfl) (by simp) ?_
            refine AllReady.cons rfl (fun K hK => ?_) AllReady.nil
            go_simp
            go_at_call 50
            refine (specP_any _).mono ?_
            rintro e w2 ⟨rfl, hb2⟩
            try go_simp
            refine hK _ _ ?_; clear hK K
            have k2 := Arr.below (show NAt w'.drew _ _ from kN) hb2
            have r2 := Arr.below (show NAt w'.drew _ _ from kR) hb2
            have b2 := (show Below w.heap.size w w'.drew from ⟨kb.os, kb.tape, kb.output, kb.size, kb.block⟩).trans (hb2.mono kb.size)
            refine wpAny_ready (rs := [2]) (by kernel_rfl) (by simp) ?_
            refine AllReady.cons rfl (fun K hK => ?_) AllReady.nil
            go_simp
            go_at_call 49
            refine (minus_any _ gk pp hn (by omega)).mono ?_
            rintro e w3 ⟨rfl, hb3⟩
            try go_simp
            refine hK _ _ ?_; clear hK K
            have k3 := k2.below hb3
            have r3 := r2.below hb3
            have b3 := b2.trans (hb3.mono b2.size)
            refine wpAny_ready (rs := [3]) (by kernel_rfl) (by simp) ?_
            refine AllReady.cons rfl (fun K hK => ?_) AllReady.nil
            refine wanted_step (by rfl) ?_
            refine wp_store_row 56 (.tmp 1) (.tmp 35) rfl w.heap.size (u64s (dig 16 (gk - pp))).toArray rfl rfl _ _ k3 (n_sizeA _) (by simp) (by rw [all_oneCell_toArray (u64s_oneCell _)]) ?_
            refine hK _ _ ?_; clear hK K
            refine wpAny_done (by kernel_rfl) ?_ _
            have k4 : NAt (w3.setRow w.heap.size (u64s (dig 16 (gk - pp))).toArray) w.heap.size (dig 16 (gk - pp)) := setRow_heap w3 _ _ _ _ (0, 0) k3
            have g4 : w3.grownBy (w3.setRow w.heap.size (u64s (dig 16 (gk - pp))).toArray) (some w.heap.size) := ⟨rfl, rfl, rfl, by simp [World.setRow], fun k _ hk => setRow_other w3 _ k _ (fun e => hk (by rw [e]))⟩
            have r4 := r3.kept g4 (by omega)
            have b4 := bkept b3 g4 (Nat.le_refl _) b3.size
            generalize w3.setRow w.heap.size (u64s (dig 16 (gk - pp))).toArray = w4 at *
            have hp1 : pp ≤ gk := by omega
            have HPP : Hid (0 < pp) := pp_pos
            go_wp2_with fail
            go_roundg (gk - pp)
            case measure => have := HPP.out; omega
            case rel => exact ⟨gk - pp, by omega, (by unfold Hid; rw [← HV.out, Nat.mod_eq_sub_mod hp1]), rfl, k4, r4, b4⟩
          · go_simp
            go_at_call 50
            refine (specP_any _).mono ?_
            rintro e w2 ⟨rfl, hb2⟩
            try go_simp
            refine hK _ _ ?_; clear hK K
            have k2 := Arr.below (show NAt w'.drew _ _ from kN) hb2
            have r2 := Arr.below (show NAt w'.drew _ _ from kR) hb2
            have b2 := (show Below w.heap.size w w'.drew from ⟨kb.os, kb.tape, kb.output, kb.size, kb.block⟩).trans (hb2.mono kb.size)
            refine wpAny_ready (rs := [0]) (by kernel_rfl) (by simp) ?_
            refine AllReady.cons rfl (fun K hK => ?_) AllReady.nil
            refine wanted_step (by rfl) ?_
            refine wp_load_row 56 (.tmp 1) rfl w.heap.size rfl _ _ (0, 0) _ k2 n_und rfl (n_sizeA gk) ?_
            refine hK _ _ ?_; clear hK K
            refine wpAny_ready (rs := [2]) (by kernel_rfl) (by simp) ?_
            refine AllReady.cons rfl (fun K hK => ?_) AllReady.nil
            go_simp
            go_at_call 49
            refine (minus_any _ gk pp hn (by omega)).mono ?_
            rintro e w3 ⟨rfl, hb3⟩
            try go_simp
            refine hK _ _ ?_; clear hK K
            have k3 := k2.below hb3
            have r3 := r2.below hb3
            have b3 := b2.trans (hb3.mono b2.size)
            refine wpAny_ready (rs := [3]) (by kernel_rfl) (by simp) ?_
            refine AllReady.cons rfl (fun K hK => ?_) AllReady.nil
            refine wanted_step (by rfl) ?_
            refine wp_store_row 56 (.tmp 1) (.tmp 35) rfl w.heap.size (u64s (dig 16 (gk - pp))).toArray rfl rfl _ _ k3 (n_sizeA _) (by simp) (by rw [all_oneCell_toArray (u64s_oneCell _)]) ?_
            refine hK _ _ ?_; clear hK K
            refine wpAny_done (by kernel_rfl) ?_ _
            have k4 : NAt (w3.setRow w.heap.size (u64s (dig 16 (gk - pp))).toArray) w.heap.size (dig 16 (gk - pp)) := setRow_heap w3 _ _ _ _ (0, 0) k3
            have g4 : w3.grownBy (w3.setRow w.heap.size (u64s (dig 16 (gk - pp))).toArray) (some w.heap.size) := ⟨rfl, rfl, rfl, by simp [World.setRow], fun k _ hk => setRow_other w3 _ k _ (fun e => hk (by rw [e]))⟩
            have r4 := r3.kept g4 (by omega)
            have b4 := bkept b3 g4 (Nat.le_refl _) b3.size
            generalize w3.setRow w.heap.size (u64s (dig 16 (gk - pp))).toArray = w4 at *
            have hp1 : pp ≤ gk := by omega
            have HPP : Hid (0 < pp) := pp_pos
            go_wp2_with fail
            go_roundg (gk - pp)
            case measure => have := HPP.out; omega
            case rel => exact ⟨gk - pp, by omega, (by unfold Hid; rw [← HV.out, Nat.mod_eq_sub_mod hp1]), rfl, k4, r4, b4⟩
    · have c1 : decide ((c : Int) > 0) = true := by simp; omega
      obtain ⟨wo, hwo⟩ : ∃ wo : World, wo = wr := ⟨_, rfl⟩
      have hcl := carryN_small l hl HD.out
      go_wp2_with (refine wpList_loadN rfl (.tmp 1) rfl w.heap.size l hl rfl hN ?_)
      clear c1
      go_loopw [3, 9] (fun cv i wr2 => ∃ k : Nat, k ≤ 16 ∧ i = .int .i64 k ∧ cv = .int .u64 (carryN l k : Int) ∧ NAt wr2 w.heap.size (passed l k) ∧ NAt wr2 (w.heap.size + 1) zerosN ∧ Below w.heap.size w wr2) (fun _ i _ => 16 - (intOf i).toNat)
      case atStart => exact ⟨0, by omega, rfl, by rw [carryN_zero]; rfl, by rw [passed_zero]; exact hN, hR, hb⟩
      case round =>
        clear hN hR hb hwo
        obtain ⟨k, hk, rfl, rfl, hN, hR, hb⟩ := hrel
        by_cases hlt : k < 16
        · have hix : ∀ w : World, (Instr.index 56 (nv l) (.int .i64 (k : Int))).run Tryz.prog w = .ok (.int .u64 ((l[k]'(by omega) : Nat) : Int)) w := fun w => run_index_n l hl k hlt
          have hcs := carryN_succ l k (by omega)
          have hps := passed_succ l k (by omega)
          have hc1 := carryN_le l k 1125899906842623 (by omega) HD.out
          have hx1 := HD.out l[k] (List.getElem_mem _)
          have hpl := passed_length l k (by omega)
          generalize l[k] = x at *
          generalize carryN l k = cc at *
          have HCS := Lib.hid hcs; clear hcs
          have HPS := Lib.hid hps; clear hps
          have fk := hN.fr k
          have ck := hN.cell k (by simp; omega)
          have e1 : IntKind.u64.wrap ((cc : Int) + (x : Int)) = ((cc + x : Nat) : Int) := (IntWalk.u64_in _ (by omega)).trans (by omega)
          obtain ⟨q, hq⟩ : ∃ q, q = (cc + x) / 65536 := ⟨_, rfl⟩
          obtain ⟨r, hr⟩ : ∃ r, r = (cc + x) % 65536 := ⟨_, rfl⟩
          have e4 : ((cc : Int) + (x : Int)) / 65536 = (q : Int) := by omega
          have e5 : ((cc : Int) + (x : Int)) % 65536 = (r : Int) := by omega
          rw [← hr] at HPS
          rw [← hq] at HCS
          clear hq hr
          go_wp2
          go_roundw
          case rel =>
            try rw [e4]
            try rw [e5]
            exact ⟨k + 1, by omega, by go_num, (by rw [HCS.out]), (by rw [HPS.out]; exact nat_set hN k r (by omega)), hR.other (by omega), hb.setCell (Nat.le_refl _) _⟩
          case measure => simp [intOf]; omega
        · obtain rfl : k = 16 := by omega
          clear hlt
          have hc0 := hN.cell 0 (by rw [passed_all l hl]; simp)
          rw [u64s_get] at hc0
          have f0 := hN.fr 0
          have hv0 : (passed l 16)[0]'(by rw [passed_all l hl]; simp) = valN l % 65536 := by simp [passed_all l hl, dig_get]
          rw [hv0] at hc0
          have HRN : Hid (roundN l = (passed l 16).set 0 (valN l % 65536 + 38 * carryN l 16)) := by unfold Hid roundN; rw [passed_all l hl]
          have hplen : (passed l 16).length = 16 := by rw [passed_all l hl]; simp
          have hvl : valN l % 65536 < 65536 := by omega
          have hmeas := roundN_meas l hl c hc
          have hm2 := roundN_mod l hl
          have hlt2 := roundN_lt l hl HD.out
          have hend := roundN_end l hl
          have hlen : (roundN l).length = 16 := by simp [roundN]
          have HM2 := Lib.hid hm2; clear hm2
          have HL2 := Lib.hid hlt2; clear hlt2
          have HE2 := Lib.hid hend; clear hend
          have HME := Lib.hid hmeas; clear hmeas hv0
          generalize valN l % 65536 = v0 at *
          generalize carryN l 16 = cc at *
          have e1 : IntKind.u64.wrap (38 * (cc : Int)) = ((38 * cc : Nat) : Int) := (IntWalk.u64_in _ (by omega)).trans (by omega)
          have e2 : IntKind.u64.wrap ((v0 : Int) + 38 * (cc : Int)) = ((v0 + 38 * cc : Nat) : Int) := (IntWalk.u64_in _ (by omega)).trans (by omega)
          have hset := nat_set hN 0 (v0 + 38 * cc) (by omega)
          rw [← HRN.out] at hset
          go_wp2
          go_roundg (measN (roundN l) cc)
          case measure => rw [HG.out]; exact HME.out
          case rel => exact ⟨roundN l, cc, rfl, hlen, HL2.out, (by unfold Hid; rw [HM2.out, HM.out]), (fun h => by obtain ⟨h1, h2⟩ := HE2.out h; rw [h1, valN_dig, pow2_256, Nat.mod_eq_of_lt h2]; exact ⟨rfl, h2⟩), rfl, hset, hR.other (by omega), hb.setCell (Nat.le_refl _) _⟩
end Go.Proofs.YthjminkkmljjhaaGreatDoor

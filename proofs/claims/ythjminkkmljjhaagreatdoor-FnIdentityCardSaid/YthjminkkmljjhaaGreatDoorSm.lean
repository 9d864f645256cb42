/- The reference's minus. Condition: what is taken away is not greater. -/
import Derived.Test.YthjminkkmljjhaaGreatDoorSn
namespace Go.Proofs.YthjminkkmljjhaaGreatDoor
open Go.RowKit

theorem minus_end (m n v c : Nat) (hm : m < 115792089237316195423570985008687907853269984665640564039457584007913129639936) (hnm : n ≤ m) (hv : v < 115792089237316195423570985008687907853269984665640564039457584007913129639936) (h : m + 115792089237316195423570985008687907853269984665640564039457584007913129639936 * c = v + n) : v = m - n := by
  rcases c with _ | c <;> omega

set_option maxRecDepth 100000 in
set_option maxHeartbeats 1000000 in
theorem minus_any (w : World) (m n : Nat) (hm : m < 115792089237316195423570985008687907853269984665640564039457584007913129639936) (hnm : n ≤ m) :
    Calls Tryz.prog 49 #[nv (dig 16 m), nv (dig 16 n)] w fun e w' => e = .returned (nv (dig 16 (m - n))) ∧ Below w.heap.size w w' := by
  obtain ⟨a, ha⟩ : ∃ a, a = dig 16 m := ⟨_, rfl⟩
  obtain ⟨b, hb⟩ : ∃ b, b = dig 16 n := ⟨_, rfl⟩
  have la : a.length = 16 := by rw [ha]; simp
  have lb : b.length = 16 := by rw [hb]; simp
  have HDA : Hid (∀ d ∈ a, d < 65536) := by rw [ha]; exact dig_lt _ _
  have HDB : Hid (∀ d ∈ b, d < 65536) := by rw [hb]; exact dig_lt _ _
  have HVA : Hid (valN a = m) := by unfold Hid; rw [ha, valN_dig, pow2_256, Nat.mod_eq_of_lt hm]
  have HVB : Hid (valN b = n) := by unfold Hid; rw [hb, valN_dig, pow2_256, Nat.mod_eq_of_lt (by omega)]
  have HHM := Lib.hid hm
  have HNM := Lib.hid hnm
  rw [← ha, ← hb]
  clear ha hb hm hnm
  have hA0 : NAt (w.alloc (.cells (u64s a).toArray 56)) w.heap.size a := arr_new w _ _
  have hA1 : NAt ((w.alloc (.cells (u64s a).toArray 56)).alloc (.cells (u64s b).toArray 56)) (w.heap.size + 1) b := arr_new2 w _ _ _
  obtain ⟨w1, hw1⟩ : ∃ w1, w1 = (w.alloc (.cells (u64s a).toArray 56)).alloc (.cells (u64s b).toArray 56) := ⟨_, rfl⟩
  have hs1 : w1.heap.size = w.heap.size + 2 := by rw [hw1]; simp
  have hA2 : NAt w1 w.heap.size a := by rw [hw1]; exact hA0.below (below_alloc _ _)
  rw [← hw1] at hA1
  have hb2 : Below w.heap.size w w1 := by rw [hw1]; exact Below.alloc (below_alloc _ _) (below_alloc _ _).size _
  have hz2 : NAt (w1.alloc zcells) (w.heap.size + 2) zerosN := by rw [← hs1]; exact arr_new w1 _ _
  have hz3 : NAt ((w1.alloc zcells).alloc zcells) (w.heap.size + 3) zerosN := by
    have h := arr_new2 w1 zcells (u64s zerosN) 56
    rw [hs1] at h; exact h
  have hb4 : Below w.heap.size w ((w1.alloc zcells).alloc zcells) := Below.alloc (Below.alloc hb2 hb2.size _) (Below.alloc hb2 hb2.size _).size _
  have k12 : Below w1.heap.size w1 ((w1.alloc zcells).alloc zcells) := Below.alloc (below_alloc _ _) (below_alloc _ _).size _
  have hA3 := hA1.below k12
  have hA4 := hA2.below k12
  have hz4 := hz2.below (below_alloc (w1.alloc zcells) zcells)
  have HW := Lib.hid hw1
  clear hw1 hA0 hA1 hA2 hb2 hz2 k12
  go_enter Tryz.func49, Tryz.ntmps49
  go_wp2_with (refine wpList_storeN rfl (.tmp 5) (.tmp 9) rfl (w.heap.size + 3) zerosN zerosN rfl rfl rfl rfl (by have h := hz3; rw [HW.out] at h; exact h) ?_; intro w2 hN2 hg2)
  rw [← HW.out] at hg2
  have hR2 := hz4.kept hg2 (by omega)
  have hA5 := hA4.kept hg2 (by omega)
  have hA6 := hA3.kept hg2 (by omega)
  have hb5 : Below w.heap.size w w2 := bkept hb4 hg2 (by omega) hb4.size
  clear hA3 hA4 hz4 hz3 hg2 hb4 HW hs1
  go_loopw [6, 10] (fun bo i wr => ∃ (k c : Nat) (l : List Nat), k ≤ 16 ∧ c ≤ 1 ∧ i = .int .i64 k ∧ bo = .int .u64 (c : Int) ∧ l.length = 16 ∧ Hid (∀ d ∈ l, d < 65536) ∧ Hid (valN (a.take k) + 65536 ^ k * c = valN (l.take k) + valN (b.take k)) ∧ NAt wr w.heap.size a ∧ NAt wr (w.heap.size + 1) b ∧ NAt wr (w.heap.size + 2) zerosN ∧ NAt wr (w.heap.size + 3) l ∧ Below w.heap.size w wr) (fun _ i _ => 16 - (intOf i).toNat)
  case atStart => exact ⟨0, 0, zerosN, Nat.zero_le _, Nat.zero_le _, rfl, rfl, rfl, (by decide : ∀ d ∈ zerosN, d < 65536), (by unfold Hid; simp [valN]), hA5, hA6, hR2, hN2, hb5⟩
  case round =>
    obtain ⟨k, c, l, hk, hc, rfl, rfl, hl, HL, HE, hNa, hNb, hR, hN, hbw⟩ := hrel
    by_cases hlt : k < 16
    · have ca := hNa.cell k (by simp; omega)
      have cb := hNb.cell k (by simp; omega)
      rw [u64s_get] at ca cb
      have hta := valN_take_succ a k (by omega)
      have htb := valN_take_succ b k (by omega)
      have hda := HDA.out (a[k]) (List.getElem_mem _)
      have hdb := HDB.out (b[k]) (List.getElem_mem _)
      generalize a[k] = x at *
      generalize b[k] = y at *
      have HTA := Lib.hid hta; clear hta
      have HTB := Lib.hid htb; clear htb
      obtain ⟨d, hd⟩ : ∃ d, d = x + 65536 - y - c := ⟨_, rfl⟩
      have e1 : IntKind.u64.wrap ((x : Int) + 65536) = (x : Int) + 65536 := IntWalk.u64_in _ (by omega)
      have e2 : IntKind.u64.wrap ((x : Int) + 65536 - (y : Int)) = (x : Int) + 65536 - (y : Int) := IntWalk.u64_in _ (by omega)
      have e3 : IntKind.u64.wrap ((x : Int) + 65536 - (y : Int) - (c : Int)) = (d : Int) := (IntWalk.u64_in _ (by omega)).trans (by omega)
      have hd2 : d ≤ 131071 := by omega
      have HD := Lib.hid hd; clear hd
      have j0 : (0 : Int) ≤ (k : Int) := by omega
      have j1 : (k : Int) < 16 := by omega
      go_wp2_with fail
      go_quiet (fail)
      clear e1 e2 e3
      have fk : (wr.drewN nq).frozen? ⟨w.heap.size + 3, k, none⟩ = false := hN.fr k
      have ck : (wr.drewN nq).cell? ⟨w.heap.size + 3, k, none⟩ = some _ := hN.cell k (by simp; omega)
      obtain ⟨q, hq⟩ : ∃ q, q = d / 65536 := ⟨_, rfl⟩
      obtain ⟨r, hr⟩ : ∃ r, r = d % 65536 := ⟨_, rfl⟩
      have e4 : (d : Int) / 65536 = (q : Int) := by omega
      have e5 : (d : Int) % 65536 = (r : Int) := by omega
      have e6 : IntKind.u64.wrap (1 - (q : Int)) = ((1 - q : Nat) : Int) := (IntWalk.u64_in _ (by omega)).trans (by omega)
      have HQ := Lib.hid hq; clear hq
      have HRR := Lib.hid hr; clear hr
      go_wp2_with fail
      go_roundw
      case rel =>
        refine ⟨k + 1, 1 - q, l.set k r, by omega, by omega, by go_num, rfl, by simpa using hl, ?_, ?_, Arr.other (show NAt (wr.drewN nq) _ _ from hNa) (by omega), Arr.other (show NAt (wr.drewN nq) _ _ from hNb) (by omega), Arr.other (show NAt (wr.drewN nq) _ _ from hR) (by omega), ?_, ?_⟩
        · intro u hu
          rcases List.mem_or_eq_of_mem_set hu with h | h
          · exact HL.out u h
          · rw [h, HRR.out]; omega
        · unfold Hid
          rw [HTA.out, HTB.out, valN_take_set l k r (by omega), Nat.pow_succ]
          exact borrow_step x y c r (1 - q) _ _ _ _ HE.out (by rw [HQ.out, HRR.out, HD.out]; omega)
        · exact nat_set (show NAt (wr.drewN nq) _ _ from hN) k r (by omega)
        · exact Below.setCell (show Below w.heap.size w (wr.drewN nq) from ⟨hbw.os, hbw.tape, hbw.output, hbw.size, hbw.block⟩) (by show w.heap.size ≤ w.heap.size + 3; omega) _
      case measure => simp [intOf]; omega
    · obtain rfl : k = 16 := by omega
      clear hlt
      have hs5 := hbw.size
      have hfin : l = dig 16 (m - n) := by
        refine dig_val_eq l _ hl HL.out ?_
        have h := HE.out
        rw [List.take_of_length_le (by omega), List.take_of_length_le (by omega), List.take_of_length_le (by omega), HVA.out, HVB.out, pow2_256] at h
        have hlv := valN_lt l HL.out
        rw [hl, pow2_256] at hlv
        exact minus_end m n _ c HHM.out HNM.out hlv h
      have HF := Lib.hid hfin; clear hfin
      go_wp2_with (first | (refine wpList_loadN rfl (.tmp 5) rfl (w.heap.size + 3) l hl rfl hN ?_) | (refine wpList_storeN rfl (.tmp 4) (.tmp 31) rfl (w.heap.size + 2) l zerosN hl rfl rfl rfl hR ?_; intro w9 hN9 hg9))
      rw [← HF.out]
      exact ret_n rfl (w.heap.size + 2) _ hl rfl hN9 rfl ⟨rfl, bkept hbw hg9 (by omega) hs5⟩
end Go.Proofs.YthjminkkmljjhaaGreatDoor

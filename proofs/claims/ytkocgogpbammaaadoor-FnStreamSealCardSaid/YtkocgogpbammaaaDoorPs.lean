/- The reference's five and settled: digits of any size as a number below the prime. Condition: digits below 2^20. (Printed by wip/genps.py.) -/
import Derived.Test.YtkocgogpbammaaaDoorPn
import Derived.Test.YtkocgogpbammaaaDoorHarr
import Derived.Deep.LoopGhost
import Derived.Handy
import Derived.BigRegion
import Derived.Deep.QuietTactic
import Derived.BigQuiet
set_option linter.unusedVariables false
set_option linter.unusedSimpArgs false
namespace Go.Proofs.YtkocgogpbammaaaDoor
open Go.RowKit

theorem d9_und : Tryd.prog.underlying 84 = some (.array 9 83) := by kernel_rfl
theorem d9_size : (Tryd.prog.info? 84).map (·.size) = some 9 := by kernel_rfl
abbrev DAt (w : World) (g : Nat) (l : List Nat) : Prop := Arr w g 84 (u64s l)
abbrev dv (l : List Nat) : Value := .agg (u64s l).toArray
abbrev objD (l : List Nat) : Obj := .cells (u64s l).toArray 84
def zer9 : List Nat := [0, 0, 0, 0, 0, 0, 0, 0, 0]
def p9 : List Nat := [65531, 65535, 65535, 65535, 65535, 65535, 65535, 65535, 3]
theorem p9_eq : p9 = dig 9 p5 := by decide
theorem p9_val : valN p9 = p5 := by decide
theorem p9_lt : ∀ d ∈ p9, d < 65536 := by decide
theorem dat_set {w : World} {g : Nat} {t : TypeId} {l : List Nat} (h : Arr w g t (u64s l)) (k r : Nat) (hk : k < l.length) : Arr (w.setCell ⟨g, k, none⟩ (.int .u64 (r : Int))) g t (u64s (l.set k r)) := by
  rw [u64s_set]; exact Arr.set h k _ (by simpa using hk)

set_option maxRecDepth 100000 in
set_option maxHeartbeats 1000000 in
theorem five_any (w : World) : Calls Tryd.prog 38 #[] w fun e w' => e = .returned (dv p9) ∧ Below w.heap.size w w' := by
  have hA0 : DAt (w.alloc (objD zer9)) w.heap.size zer9 := arr_new w _ _
  have hb1 : Below w.heap.size w (w.alloc (objD zer9)) := below_alloc _ _
  go_enter Tryd.func38, Tryd.ntmps38
  go_wp2_with (refine wpList_storeV d9_size rfl (.tmp 0) (.tmp 1) rfl w.heap.size (u64s p9) (u64s zer9) rfl rfl (u64s_oneCell _) rfl rfl hA0 ?_; intro w1 hN1 hg1)
  exact ret_V d9_und d9_size rfl w.heap.size _ rfl rfl hN1 rfl ⟨rfl, bkept hb1 hg1 (Nat.le_refl _) hb1.size⟩

theorem sub_end (m v c : Nat) (hm : m < 22300745198530623141535718272648361505980416) (hnm : p5 ≤ m) (hv : v < 22300745198530623141535718272648361505980416) (h : m + 22300745198530623141535718272648361505980416 * c = v + p5) : v = m - p5 := by
  unfold p5 at *
  rcases c with _ | c <;> omega

set_option maxRecDepth 100000 in
set_option maxHeartbeats 4000000 in
theorem settled_any (w : World) (l0 : List Nat) (hl0 : l0.length = 9) (hd0 : ∀ d ∈ l0, d ≤ 1048575) :
    Calls Tryd.prog 34 #[dv l0] w fun e w' => e = .returned (dv (dig 9 (valN l0 % p5))) ∧ Below w.heap.size w w' := by
  have HD0 := Lib.hid (okP_small l0 hl0 hd0)
  clear hd0
  have hA0 : DAt (w.alloc (objD l0)) w.heap.size l0 := arr_new w _ _
  have hR1 : DAt ((w.alloc (objD l0)).alloc (objD zer9)) (w.heap.size + 1) zer9 := arr_new2 w _ _ _
  have hA1 : DAt ((w.alloc (objD l0)).alloc (objD zer9)) w.heap.size l0 := hA0.below (below_alloc _ _)
  have hb1 : Below w.heap.size w ((w.alloc (objD l0)).alloc (objD zer9)) := Below.alloc (below_alloc _ _) (below_alloc _ _).size _
  clear hA0
  go_enter Tryd.func34, Tryd.ntmps34
  go_wp2
  go_loopg [3] (measN l0 1) (fun g cv wr => ∃ (l : List Nat) (c : Nat), cv = .int .u64 (c : Int) ∧ l.length = 9 ∧ Hid (okP l) ∧ Hid (valN l % p5 = valN l0 % p5) ∧ Hid (c = 0 → l = dig 9 (valN l) ∧ valN l < q130) ∧ g = measN l c ∧ DAt wr w.heap.size l ∧ DAt wr (w.heap.size + 1) zer9 ∧ Below w.heap.size w wr)
  case atStart => exact ⟨l0, 1, rfl, hl0, HD0, rfl, (fun h => absurd h (by decide)), rfl, hA1, hR1, hb1⟩
  case round =>
    obtain ⟨l, c, rfl, hl, HD, HM, HC, hg, hN, hR, hb⟩ := hrel
    have HG := Lib.hid hg
    clear hg hA1 hR1 hb1
    by_cases hc : c = 0
    · subst hc
      obtain ⟨he, hlt⟩ := HC.out rfl
      have HV := HM.out
      have HDA : Hid (∀ d ∈ l, d < 65536) := by unfold Hid; rw [he]; exact dig_lt _ _
      have HL := Lib.hid hlt
      clear HD HM HC HG hlt he
      have c1 : decide (((0 : Nat) : Int) > 0) = false := by decide
      go_wp2_with fail
      refine (five_any _).mono ?_
      rintro e w2 ⟨rfl, hb2⟩
      have hsz2 : w.heap.size + 1 < w2.heap.size := Nat.lt_of_lt_of_le hR.lt hb2.size
      have hN2 := (hN.below hb2).below (below_alloc w2 (objD zer9))
      have hR2 := (hR.below hb2).below (below_alloc w2 (objD zer9))
      have hb3 := Below.alloc (hb.trans (hb2.mono hb.size)) (hb.trans (hb2.mono hb.size)).size (objD zer9)
      have hP2 : DAt (w2.alloc (objD zer9)) w2.heap.size zer9 := arr_new w2 _ _
      obtain ⟨gp, hgp⟩ : ∃ gp, gp = w2.heap.size := ⟨_, rfl⟩
      go_wp2_with (refine wpList_storeV d9_size rfl (.tmp 5) (.tmp 41) rfl w2.heap.size (u64s p9) (u64s zer9) rfl rfl (u64s_oneCell _) rfl rfl hP2 ?_; intro w3 hP3 hg3)
      have hN3 := hN2.kept hg3 (by omega)
      have hR3 := hR2.kept hg3 (by omega)
      have hb4 := bkept hb3 hg3 (by omega) hb3.size
      rw [← hgp] at hP3 hsz2 ⊢
      clear hN2 hR2 hb3 hP2 hN hR hb hb2 hg3 hgp
      go_loopw [6] (fun i wr => ∃ (k : Nat) (z : Int), k ≤ 9 ∧ z = (k : Int) - 1 ∧ i = .int .i64 z ∧ Hid (l.drop k = p9.drop k) ∧ DAt wr w.heap.size l ∧ DAt wr (w.heap.size + 1) zer9 ∧ DAt wr gp p9 ∧ Below w.heap.size w wr) (fun i _ => (intOf i + 1).toNat)
      case atStart => exact ⟨9, 8, Nat.le_refl _, rfl, rfl, (by unfold Hid; rw [List.drop_of_length_le (by omega), List.drop_of_length_le (by decide)]), hN3, hR3, hP3, hb4⟩
      case round =>
        obtain ⟨k, z, hk, hz, rfl, HE, hN, hR, hP, hb⟩ := hrel
        clear hN3 hR3 hP3 hb4
        rcases k with _ | j
        · obtain rfl : z = -1 := by omega
          clear hz
          have d0 : decide ((-1 : Int) ≥ 0) = false := by decide
          have HNM : Hid (p5 ≤ valN l) := by
            unfold Hid
            have h : l = p9 := HE.out
            rw [h, p9_val]; exact Nat.le_refl _
          clear HE
          go_wp2
          have HLT := Lib.hid HL
          go_loopw [7, 61] (fun bo i wr => ∃ (k c : Nat) (m : List Nat), k ≤ 9 ∧ c ≤ 1 ∧ i = .int .i64 k ∧ bo = .int .u64 (c : Int) ∧ m.length = 9 ∧ Hid (∀ d ∈ m, d < 65536) ∧ Hid (m.drop k = l.drop k) ∧ Hid (valN (l.take k) + 65536 ^ k * c = valN (m.take k) + valN (p9.take k)) ∧ DAt wr w.heap.size m ∧ DAt wr (w.heap.size + 1) zer9 ∧ DAt wr gp p9 ∧ Below w.heap.size w wr) (fun _ i _ => 9 - (intOf i).toNat)
          case atStart => exact ⟨0, 0, l, Nat.zero_le _, Nat.zero_le _, rfl, rfl, hl, HDA, rfl, (by unfold Hid; simp [valN]), hN, hR, hP, (hb)⟩
          case round =>
            obtain ⟨k, c, m, hk, hc, rfl, rfl, hm, HMD, HDR, HE, hN5, hR5, hP5, hb5⟩ := hrel
            clear hN hR hP hb
            by_cases hlt : k < 9
            · have ca := hN5.cell k (by simp; omega)
              have cb := hP5.cell k (by simp [p9]; omega)
              have hp9l : p9.length = 9 := rfl
              rw [u64s_get] at ca cb
              have hmk : m[k]'(by omega) = l[k]'(by omega) := by
                have h := HDR.out
                rw [List.drop_eq_getElem_cons (l := m) (i := k) (by omega), List.drop_eq_getElem_cons (l := l) (i := k) (by omega)] at h
                exact (List.cons.inj h).1
              have hmt : m.drop (k + 1) = l.drop (k + 1) := by
                have h := HDR.out
                rw [List.drop_eq_getElem_cons (l := m) (i := k) (by omega), List.drop_eq_getElem_cons (l := l) (i := k) (by omega)] at h
                exact (List.cons.inj h).2
              rw [hmk] at ca
              have hta := valN_take_succ l k (by omega)
              have htb := valN_take_succ p9 k (by omega)
              have hda := HDA.out (l[k]'(by omega)) (List.getElem_mem _)
              have hdb := p9_lt (p9[k]'(by omega)) (List.getElem_mem _)
              clear hmk
              generalize (l[k]'(by omega)) = x at *
              generalize (p9[k]'(by omega)) = y at *
              have HTA := Lib.hid hta; clear hta
              have HTB := Lib.hid htb; clear htb
              have HMT := Lib.hid hmt; clear hmt
              obtain ⟨d, hd⟩ : ∃ d, d = x + 65536 - y - c := ⟨_, rfl⟩
              have e1 : IntKind.u64.wrap ((x : Int) + 65536) = (x : Int) + 65536 := IntWalk.u64_in _ (by omega)
              have e2 : IntKind.u64.wrap ((x : Int) + 65536 - (y : Int)) = (x : Int) + 65536 - (y : Int) := IntWalk.u64_in _ (by omega)
              have e3 : IntKind.u64.wrap ((x : Int) + 65536 - (y : Int) - (c : Int)) = (d : Int) := (IntWalk.u64_in _ (by omega)).trans (by omega)
              have hd2 : d ≤ 131071 := by omega
              have HD := Lib.hid hd; clear hd
              have j0 : (0 : Int) ≤ (k : Int) := by omega
              have j1 : (k : Int) < 9 := by omega
              go_wp2_with fail
              go_quiet (fail)
              clear e1 e2 e3
              have fk : (wr.drewN nq).frozen? ⟨w.heap.size, k, none⟩ = false := hN5.fr k
              have ck : (wr.drewN nq).cell? ⟨w.heap.size, k, none⟩ = some _ := hN5.cell k (by simp; omega)
              obtain ⟨q, hq⟩ : ∃ q, q = d / 65536 := ⟨_, rfl⟩
              obtain ⟨r, hr⟩ : ∃ r, r = d % 65536 := ⟨_, rfl⟩
              have e4 : (d : Int) / 65536 = (q : Int) := by omega
              have e5 : (d : Int) % 65536 = (r : Int) := by omega
              have e6 : IntKind.u64.wrap (1 - (q : Int)) = ((1 - q : Nat) : Int) := (IntWalk.u64_in _ (by omega)).trans (by omega)
              have HQ := Lib.hid hq; clear hq
              have HRR := Lib.hid hr; clear hr
              go_wp2_with fail
              go_roundw
              case rel =>
                refine ⟨k + 1, 1 - q, m.set k r, by omega, by omega, by go_num, rfl, by simpa using hm, ?_, ?_, ?_, ?_, Arr.other (show DAt (wr.drewN nq) _ _ from hR5) (by omega), Arr.other (show DAt (wr.drewN nq) _ _ from hP5) (by omega), ?_⟩
                · intro u hu
                  rcases List.mem_or_eq_of_mem_set hu with h | h
                  · exact HMD.out u h
                  · rw [h, HRR.out]; omega
                · unfold Hid; rw [List.drop_set_of_lt (by omega)]; exact HMT.out
                · unfold Hid
                  rw [HTA.out, HTB.out, valN_take_set m k r (by omega), Nat.pow_succ]
                  exact borrow_step x y c r (1 - q) _ _ _ _ HE.out (by rw [HQ.out, HRR.out, HD.out]; omega)
                · exact dat_set (show DAt (wr.drewN nq) _ _ from hN5) k r (by omega)
                · exact Below.setCell (below_drewN hb5 nq) (Nat.le_refl _) _
              case measure => simp [intOf]; omega
            · obtain rfl : k = 9 := by omega
              clear hlt
              have hs5 := hb5.size
              have hfin : m = dig 9 (valN l0 % p5) := by
                have h := HE.out
                rw [List.take_of_length_le (by omega), List.take_of_length_le (by omega), List.take_of_length_le (by decide), p9_val, pow2_144] at h
                have hmv := valN_lt m HMD.out
                rw [hm, pow2_144] at hmv
                have h9 := sub_end (valN l) (valN m) c (Nat.lt_trans HL.out (by decide)) HNM.out hmv h
                refine dig_eq 9 m _ hm HMD.out ?_
                have hq := HL.out
                have hpp := HNM.out
                rw [← HV, h9]
                unfold p5 q130 at *
                omega
              have HF := Lib.hid hfin; clear hfin
              go_wp2_with (first | (refine wpList_loadV d9_und d9_size rfl (.tmp 1) rfl w.heap.size (u64s m) (by simpa using hm) rfl hN5 ?_) | (refine wpList_storeV d9_size rfl (.tmp 2) (.tmp 82) rfl (w.heap.size + 1) (u64s m) (u64s zer9) (by simpa using hm) rfl (u64s_oneCell _) rfl rfl hR5 ?_; intro w9 hN9 hg9))
              exact ret_V d9_und d9_size rfl (w.heap.size + 1) (u64s m) (by simpa using hm) rfl hN9 rfl ⟨by rw [← HF.out], bkept hb5 hg9 (by omega) hs5⟩
        · obtain rfl : z = (j : Int) := by omega
          clear hz
          have hj : j < 9 := by omega
          have ca := hN.cell j (by simp; omega)
          have cb := hP.cell j (by simp [p9]; omega)
          rw [u64s_get] at ca cb
          have hp9l : p9.length = 9 := rfl
          have hiff := valN_less_iff l p9 (by omega) HDA.out p9_lt j (by omega) HE.out
          have hcons : l[j] = p9[j] → l.drop j = p9.drop j := fun e => by
            rw [List.drop_eq_getElem_cons (l := l) (i := j) (by omega), List.drop_eq_getElem_cons (l := p9) (i := j) (by omega), e, HE.out]; rfl
          generalize l[j] = x at *
          generalize p9[j] = y at *
          have j0 : (0 : Int) ≤ (j : Int) := by omega
          have j1 : (j : Int) < 9 := by omega
          rw [p9_val] at hiff
          by_cases hxy : x < y
          · have d1 : decide ((x : Int) < (y : Int)) = true := by simp; omega
            have hlt := (hiff (by omega)).1 hxy
            have HF : Hid (l = dig 9 (valN l0 % p5)) := by
              unfold Hid
              rw [← HV, Nat.mod_eq_of_lt hlt]
              exact dig_eq 9 l _ hl HDA.out rfl
            clear hiff hcons
            go_wp2_with fail
            go_quiet (fail)
            have kN : DAt (wr.drewN nq) w.heap.size l := hN
            have kR : DAt (wr.drewN nq) (w.heap.size + 1) zer9 := hR
            go_wp2_with (first | (refine wpList_loadV d9_und d9_size rfl (.tmp 1) rfl w.heap.size (u64s l) (by simpa using hl) rfl kN ?_) | (refine wpList_storeV d9_size rfl (.tmp 2) (.tmp 53) rfl (w.heap.size + 1) (u64s l) (u64s zer9) (by simpa using hl) rfl (u64s_oneCell _) rfl rfl kR ?_; intro w9 hN9 hg9))
            try simp only [Exit.inBlock, Exit.then]
            refine ret_V d9_und d9_size rfl (w.heap.size + 1) (u64s l) (by simpa using hl) rfl hN9 rfl ⟨by rw [← HF.out], bkept (below_drewN hb nq) hg9 (by omega) hb.size⟩
          · have d1 : decide ((x : Int) < (y : Int)) = false := by simp; omega
            by_cases hxe : x = y
            · have d2 : decide (y < x) = false := by simp; omega
              have HC := Lib.hid (hcons hxe)
              clear hiff hcons hxe
              go_wp2_with fail
              go_quiet (fail)
              go_wp2_with fail
              go_quiet (fail)
              go_wp2_with fail
              go_roundw
              case rel => exact ⟨j, (j : Int) - 1, by omega, rfl, by go_num, HC.out, hN, hR, hP, ⟨hb.os, hb.tape, hb.output, hb.size, hb.block⟩⟩
              case measure => simp [intOf]
            · have d2 : decide (y < x) = true := by simp; omega
              have hnlt : ¬ valN l < p5 := fun h => hxy ((hiff hxe).2 h)
              have HNM : Hid (p5 ≤ valN l) := by unfold Hid; omega
              clear hiff hcons hxe hnlt HE
              go_wp2_with fail
              go_quiet (fail)
              go_wp2_with fail
              go_quiet (fail)
              have kN : DAt (wr.drewN nq) w.heap.size l := hN
              have kR : DAt (wr.drewN nq) (w.heap.size + 1) zer9 := hR
              have kP : DAt (wr.drewN nq) gp p9 := hP
              have kb : ∀ a b, Below w.heap.size w ((wr.drewN a).drewN b) := fun a b => below_drewN (below_drewN hb a) b
              clear hN hR hP hb
              go_wp2_with fail
              have HLT := Lib.hid HL
              go_loopw [7, 61] (fun bo i wr => ∃ (k c : Nat) (m : List Nat), k ≤ 9 ∧ c ≤ 1 ∧ i = .int .i64 k ∧ bo = .int .u64 (c : Int) ∧ m.length = 9 ∧ Hid (∀ d ∈ m, d < 65536) ∧ Hid (m.drop k = l.drop k) ∧ Hid (valN (l.take k) + 65536 ^ k * c = valN (m.take k) + valN (p9.take k)) ∧ DAt wr w.heap.size m ∧ DAt wr (w.heap.size + 1) zer9 ∧ DAt wr gp p9 ∧ Below w.heap.size w wr) (fun _ i _ => 9 - (intOf i).toNat)
              case atStart => exact ⟨0, 0, l, Nat.zero_le _, Nat.zero_le _, rfl, rfl, hl, HDA, rfl, (by unfold Hid; simp [valN]), kN, kR, kP, (kb _ _)⟩
              case round =>
                obtain ⟨k, c, m, hk, hc, rfl, rfl, hm, HMD, HDR, HE, hN5, hR5, hP5, hb5⟩ := hrel
                clear kN kR kP kb
                by_cases hlt : k < 9
                · have ca := hN5.cell k (by simp; omega)
                  have cb := hP5.cell k (by simp [p9]; omega)
                  have hp9l : p9.length = 9 := rfl
                  rw [u64s_get] at ca cb
                  have hmk : m[k]'(by omega) = l[k]'(by omega) := by
                    have h := HDR.out
                    rw [List.drop_eq_getElem_cons (l := m) (i := k) (by omega), List.drop_eq_getElem_cons (l := l) (i := k) (by omega)] at h
                    exact (List.cons.inj h).1
                  have hmt : m.drop (k + 1) = l.drop (k + 1) := by
                    have h := HDR.out
                    rw [List.drop_eq_getElem_cons (l := m) (i := k) (by omega), List.drop_eq_getElem_cons (l := l) (i := k) (by omega)] at h
                    exact (List.cons.inj h).2
                  rw [hmk] at ca
                  have hta := valN_take_succ l k (by omega)
                  have htb := valN_take_succ p9 k (by omega)
                  have hda := HDA.out (l[k]'(by omega)) (List.getElem_mem _)
                  have hdb := p9_lt (p9[k]'(by omega)) (List.getElem_mem _)
                  clear hmk
                  generalize (l[k]'(by omega)) = x at *
                  generalize (p9[k]'(by omega)) = y at *
                  have HTA := Lib.hid hta; clear hta
                  have HTB := Lib.hid htb; clear htb
                  have HMT := Lib.hid hmt; clear hmt
                  obtain ⟨d, hd⟩ : ∃ d, d = x + 65536 - y - c := ⟨_, rfl⟩
                  have e1 : IntKind.u64.wrap ((x : Int) + 65536) = (x : Int) + 65536 := IntWalk.u64_in _ (by omega)
                  have e2 : IntKind.u64.wrap ((x : Int) + 65536 - (y : Int)) = (x : Int) + 65536 - (y : Int) := IntWalk.u64_in _ (by omega)
                  have e3 : IntKind.u64.wrap ((x : Int) + 65536 - (y : Int) - (c : Int)) = (d : Int) := (IntWalk.u64_in _ (by omega)).trans (by omega)
                  have hd2 : d ≤ 131071 := by omega
                  have HD := Lib.hid hd; clear hd
                  have j0 : (0 : Int) ≤ (k : Int) := by omega
                  have j1 : (k : Int) < 9 := by omega
                  go_wp2_with fail
                  go_quiet (fail)
                  clear e1 e2 e3
                  have fk : (wr.drewN nq).frozen? ⟨w.heap.size, k, none⟩ = false := hN5.fr k
                  have ck : (wr.drewN nq).cell? ⟨w.heap.size, k, none⟩ = some _ := hN5.cell k (by simp; omega)
                  obtain ⟨q, hq⟩ : ∃ q, q = d / 65536 := ⟨_, rfl⟩
                  obtain ⟨r, hr⟩ : ∃ r, r = d % 65536 := ⟨_, rfl⟩
                  have e4 : (d : Int) / 65536 = (q : Int) := by omega
                  have e5 : (d : Int) % 65536 = (r : Int) := by omega
                  have e6 : IntKind.u64.wrap (1 - (q : Int)) = ((1 - q : Nat) : Int) := (IntWalk.u64_in _ (by omega)).trans (by omega)
                  have HQ := Lib.hid hq; clear hq
                  have HRR := Lib.hid hr; clear hr
                  go_wp2_with fail
                  go_roundw
                  case rel =>
                    refine ⟨k + 1, 1 - q, m.set k r, by omega, by omega, by go_num, rfl, by simpa using hm, ?_, ?_, ?_, ?_, Arr.other (show DAt (wr.drewN nq) _ _ from hR5) (by omega), Arr.other (show DAt (wr.drewN nq) _ _ from hP5) (by omega), ?_⟩
                    · intro u hu
                      rcases List.mem_or_eq_of_mem_set hu with h | h
                      · exact HMD.out u h
                      · rw [h, HRR.out]; omega
                    · unfold Hid; rw [List.drop_set_of_lt (by omega)]; exact HMT.out
                    · unfold Hid
                      rw [HTA.out, HTB.out, valN_take_set m k r (by omega), Nat.pow_succ]
                      exact borrow_step x y c r (1 - q) _ _ _ _ HE.out (by rw [HQ.out, HRR.out, HD.out]; omega)
                    · exact dat_set (show DAt (wr.drewN nq) _ _ from hN5) k r (by omega)
                    · exact Below.setCell (below_drewN hb5 nq) (Nat.le_refl _) _
                  case measure => simp [intOf]; omega
                · obtain rfl : k = 9 := by omega
                  clear hlt
                  have hs5 := hb5.size
                  have hfin : m = dig 9 (valN l0 % p5) := by
                    have h := HE.out
                    rw [List.take_of_length_le (by omega), List.take_of_length_le (by omega), List.take_of_length_le (by decide), p9_val, pow2_144] at h
                    have hmv := valN_lt m HMD.out
                    rw [hm, pow2_144] at hmv
                    have h9 := sub_end (valN l) (valN m) c (Nat.lt_trans HL.out (by decide)) HNM.out hmv h
                    refine dig_eq 9 m _ hm HMD.out ?_
                    have hq := HL.out
                    have hpp := HNM.out
                    rw [← HV, h9]
                    unfold p5 q130 at *
                    omega
                  have HF := Lib.hid hfin; clear hfin
                  go_wp2_with (first | (refine wpList_loadV d9_und d9_size rfl (.tmp 1) rfl w.heap.size (u64s m) (by simpa using hm) rfl hN5 ?_) | (refine wpList_storeV d9_size rfl (.tmp 2) (.tmp 82) rfl (w.heap.size + 1) (u64s m) (u64s zer9) (by simpa using hm) rfl (u64s_oneCell _) rfl rfl hR5 ?_; intro w9 hN9 hg9))
                  exact ret_V d9_und d9_size rfl (w.heap.size + 1) (u64s m) (by simpa using hm) rfl hN9 rfl ⟨by rw [← HF.out], bkept hb5 hg9 (by omega) hs5⟩
    · have c1 : decide ((c : Int) > 0) = true := by simp; omega
      have htop := okP_top l hl HD.out
      go_wp2_with fail
      clear c1
      go_loopw [3, 12] (fun cv i wr2 => ∃ (k cc : Nat) (L : List Nat), k ≤ 9 ∧ i = .int .i64 k ∧ cv = .int .u64 (cc : Int) ∧ Hid ((k ≤ 8 ∧ L = passed l k ∧ cc = carryN l k) ∨ (k = 9 ∧ L = dig 9 (valN l % q130) ∧ cc = top9 l / 4)) ∧ L.length = 9 ∧ DAt wr2 w.heap.size L ∧ DAt wr2 (w.heap.size + 1) zer9 ∧ Below w.heap.size w wr2) (fun _ i _ => 9 - (intOf i).toNat)
      case atStart => exact ⟨0, 0, l, by omega, rfl, rfl, .inl ⟨by omega, by rw [passed_zero], by rw [carryN_zero]⟩, hl, hN, hR, hb⟩
      case round =>
        clear hN hR hb
        obtain ⟨k, cc, L, hk, rfl, rfl, HH, hL, hN, hR, hb⟩ := hrel
        by_cases hlt : k < 8
        · obtain ⟨_, hLp, hcc⟩ : k ≤ 8 ∧ L = passed l k ∧ cc = carryN l k := by
            rcases HH.out with h | h
            · exact h
            · omega
          have hcs := carryN_succ l k (by omega)
          have hps := passed_succ l k (by omega)
          have hc1 := carry9_le l k (by omega) HD.out
          have hx1 := HD.out.1 l[k] (List.getElem_mem _)
          have ck := hN.cell k (by simp; omega)
          have hLk : L[k]'(by omega) = l[k]'(by omega) := by
            subst hLp
            unfold passed
            rw [List.getElem_append_right (by simp)]
            simp
          rw [u64s_get, hLk] at ck
          rw [← hcc] at hcs hps hc1
          rw [← hLp] at hps
          generalize l[k] = x at *
          have HCS := Lib.hid hcs; clear hcs
          have HPS := Lib.hid hps; clear hps
          clear hLp hcc hLk HH
          have fk := hN.fr k
          have e1 : IntKind.u64.wrap ((cc : Int) + (x : Int)) = ((cc + x : Nat) : Int) := (IntWalk.u64_in _ (by omega)).trans (by omega)
          obtain ⟨q, hq⟩ : ∃ q, q = (cc + x) / 65536 := ⟨_, rfl⟩
          obtain ⟨r, hr⟩ : ∃ r, r = (cc + x) % 65536 := ⟨_, rfl⟩
          have e4 : ((cc : Int) + (x : Int)) / 65536 = (q : Int) := by omega
          have e5 : ((cc : Int) + (x : Int)) % 65536 = (r : Int) := by omega
          rw [← hr] at HPS
          rw [← hq] at HCS
          clear hq hr
          go_wp2
          go_roundw
          case rel =>
            try rw [e4]
            try rw [e5]
            exact ⟨k + 1, q, L.set k r, by omega, by go_num, rfl, .inl ⟨by omega, HPS.out.symm, HCS.out.symm⟩, by simpa using hL, dat_set hN k r (by omega), hR.other (by omega), hb.setCell (Nat.le_refl _) _⟩
          case measure => simp [intOf]; omega
        · by_cases h8 : k = 8
          · subst h8
            obtain ⟨_, hLp, hcc⟩ : 8 ≤ 8 ∧ L = passed l 8 ∧ cc = carryN l 8 := by
              rcases HH.out with h | h
              · exact h
              · omega
            have hpass := pass9 l hl
            have htd : top9 l = cc + l[8]'(by omega) := by unfold top9; rw [hcc]; simp [List.getD_eq_getElem?_getD, hl]
            have hc1 := carry9_le l 8 (by omega) HD.out
            have hx1 := HD.out.1 (l[8]'(by omega)) (List.getElem_mem _)
            have ck := hN.cell 8 (by simp; omega)
            have hLk : L[8]'(by omega) = l[8]'(by omega) := by
              subst hLp
              unfold passed
              rw [List.getElem_append_right (by simp)]
              simp
            rw [u64s_get, hLk] at ck
            rw [← hcc] at hc1
            rw [← hLp] at hpass
            generalize (l[8]'(by omega)) = x at *
            have HTD := Lib.hid htd; clear htd
            have HPS := Lib.hid hpass; clear hpass
            clear hLp hcc hLk HH
            have fk := hN.fr 8
            have e1 : IntKind.u64.wrap ((cc : Int) + (x : Int)) = ((cc + x : Nat) : Int) := (IntWalk.u64_in _ (by omega)).trans (by omega)
            obtain ⟨q, hq⟩ : ∃ q, q = (cc + x) / 4 := ⟨_, rfl⟩
            obtain ⟨r, hr⟩ : ∃ r, r = (cc + x) % 4 := ⟨_, rfl⟩
            have e4 : ((cc : Int) + (x : Int)) / 4 = (q : Int) := by omega
            have e5 : ((cc : Int) + (x : Int)) % 4 = (r : Int) := by omega
            have HQ : Hid (q = top9 l / 4) := by unfold Hid; rw [HTD.out, hq]
            have HRR : Hid (L.set 8 r = dig 9 (valN l % q130)) := by unfold Hid; rw [← HPS.out, HTD.out, hr]
            clear hq hr
            go_wp2
            go_roundw
            case rel =>
              try rw [e4]
              try rw [e5]
              exact ⟨9, q, L.set 8 r, by omega, by go_num, rfl, .inr ⟨rfl, HRR.out, HQ.out⟩, by simpa using hL, dat_set hN 8 r (by omega), hR.other (by omega), hb.setCell (Nat.le_refl _) _⟩
            case measure => simp [intOf]
          · obtain rfl : k = 9 := by omega
            clear hlt h8
            obtain ⟨_, hLp, hcc⟩ : 9 = 9 ∧ L = dig 9 (valN l % q130) ∧ cc = top9 l / 4 := by
              rcases HH.out with h | h
              · omega
              · exact h
            have hc0 := hN.cell 0 (by simp; omega)
            rw [u64s_get] at hc0
            have f0 := hN.fr 0
            have hv0 : L[0]'(by omega) = valN l % q130 % 65536 := by simp [hLp, dig_get]
            rw [hv0] at hc0
            have HRN : Hid (roundP l = L.set 0 (valN l % q130 % 65536 + 5 * cc)) := by unfold Hid roundP; rw [hLp, hcc]
            have hvl : valN l % q130 % 65536 < 65536 := Nat.mod_lt _ (by decide)
            have HMEAS : Hid (measN (roundP l) cc < measN l c) := by unfold Hid; rw [hcc]; exact roundP_meas l hl c hc
            have HM2 : Hid (valN (roundP l) % p5 = valN l % p5) := roundP_mod l hl
            have HO2 : Hid (okP (roundP l)) := roundP_ok l hl HD.out
            have HE2 : Hid (cc = 0 → roundP l = dig 9 (valN l) ∧ valN l < q130) := by unfold Hid; rw [hcc]; exact roundP_end l hl
            rw [← hcc] at htop
            clear hLp hcc hv0 HH
            generalize valN l % q130 % 65536 = v0 at *
            have e1 : IntKind.u64.wrap (5 * (cc : Int)) = ((5 * cc : Nat) : Int) := (IntWalk.u64_in _ (by omega)).trans (by omega)
            have e2 : IntKind.u64.wrap ((v0 : Int) + 5 * (cc : Int)) = ((v0 + 5 * cc : Nat) : Int) := (IntWalk.u64_in _ (by omega)).trans (by omega)
            have hset := dat_set hN 0 (v0 + 5 * cc) (by omega)
            rw [← HRN.out] at hset
            go_wp2
            go_roundg (measN (roundP l) cc)
            case measure => rw [HG.out]; exact HMEAS.out
            case rel => exact ⟨roundP l, cc, rfl, roundP_length l, HO2.out, (by unfold Hid; rw [HM2.out, HM.out]), (fun h => by obtain ⟨h1, h2⟩ := HE2.out h; rw [h1, valN_dig, pow2_144, Nat.mod_eq_of_lt (Nat.lt_trans h2 (by decide))]; exact ⟨rfl, h2⟩), rfl, hset, hR.other (by omega), hb.setCell (Nat.le_refl _) _⟩
end Go.Proofs.YtkocgogpbammaaaDoor

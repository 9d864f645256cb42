/- Poly1305's MAC in the package: New and Write. Conditions: a key of 32 bytes; what is written lies in another block than the state. (Printed by wip/genpm.py.) -/
import Derived.Test.YtkocgogpbammaaaDoorPi
import Derived.Test.YtkocgogpbammaaaDoorPl
set_option linter.unusedVariables false
set_option linter.unusedSimpArgs false
namespace Go.Proofs.YtkocgogpbammaaaDoor
open Go.RowKit

theorem bs_undE : Tryd.prog.underlying 23 = some (.slice 5) := Tryd.underlying23
theorem u8_size1 : (Tryd.prog.info? 5).map (·.size) = some 1 := by kernel_rfl
theorem wanted_step {c : Bool} {p q : Prop} (h : c = true) (hp : p) : if c = true then p else q := by rw [if_pos h]; exact hp
/-- The state's cells: the sum, the key, what has been kept for the next piece. -/
def macC (hh : Nat) (ky buf : List UInt8) (o : Nat) : List Value := stK hh (wd ky 0 &&& 1152921487695413247) (wd ky 8 &&& 1152921487695413244) (wd ky 16) (wd ky 24) (u8s buf ++ [.int .i64 (o : Int), .bool false])
@[simp] theorem macC_length (hh : Nat) (ky buf : List UInt8) (o : Nat) : (macC hh ky buf o).length = 9 + buf.length := by simp [macC, stK, stC]; omega
/-- The block g holds the state of a sum over M. -/
def MacAt (w : World) (g : Nat) (ky M : List UInt8) : Prop := ∃ hh buf, okH hh ∧ buf.length = 16 ∧ hh % p5 = polyA (rN ky) 0 (M.take (16 * (M.length / 16))) ∧ buf.take (M.length % 16) = M.drop (16 * (M.length / 16)) ∧ Arr w g 135 (macC hh ky buf (M.length % 16))
theorem MacAt.lt {w : World} {g : Nat} {ky M : List UInt8} (h : MacAt w g ky M) : g < w.heap.size := by obtain ⟨_, _, _, _, _, _, h⟩ := h; exact h.lt
theorem MacAt.below {w w' : World} {g : Nat} {ky M : List UInt8} (h : MacAt w g ky M) (hb : Below w.heap.size w w') : MacAt w' g ky M := by
  obtain ⟨hh, buf, h1, h2, h3, h4, h5⟩ := h
  exact ⟨hh, buf, h1, h2, h3, h4, h5.below hb⟩
theorem MacAt.kept {w w' : World} {g k : Nat} {ky M : List UInt8} (h : MacAt w g ky M) (hb : w.grownBy w' (some k)) (hne : g ≠ k) : MacAt w' g ky M := by
  obtain ⟨hh, buf, h1, h2, h3, h4, h5⟩ := h
  exact ⟨hh, buf, h1, h2, h3, h4, h5.kept hb hne⟩
theorem Arr.cellE {w : World} {g k : Nat} {t : TypeId} {vs : List Value} {v : Value} (h : Arr w g t vs) (hj : vs[k]? = some v) : w.cell? ⟨g, k, none⟩ = some v := by
  obtain ⟨hl, rfl⟩ := List.getElem?_eq_some_iff.1 hj
  exact h.cell k hl
theorem macC_off (hh : Nat) (ky buf : List UInt8) (o : Nat) (hb : buf.length = 16) : (macC hh ky buf o)[23]? = some (.int .i64 (o : Int)) := by
  simp only [macC, stK, stC, List.getElem?_cons_succ]
  rw [List.getElem?_append_right (by simp [hb])]
  simp [hb]
theorem macC_fin (hh : Nat) (ky buf : List UInt8) (o : Nat) (hb : buf.length = 16) : (macC hh ky buf o)[24]? = some (.bool false) := by
  simp only [macC, stK, stC, List.getElem?_cons_succ]
  rw [List.getElem?_append_right (by simp [hb])]
  simp [hb]
theorem macC_set (hh : Nat) (ky buf : List UInt8) (o k : Nat) (hb : buf.length = 16) : (macC hh ky buf o).set 23 (.int .i64 (k : Int)) = macC hh ky buf k := by
  simp only [macC, stK, stC, List.set_cons_succ]
  rw [List.set_append_right _ _ (by simp [hb])]
  simp [hb]
theorem macC_copy (hh : Nat) (ky buf bs : List UInt8) (o i : Nat) (hb : buf.length = 16) (hi : i + bs.length ≤ 16) :
    (macC hh ky buf o).take (7 + i) ++ u8s bs ++ (macC hh ky buf o).drop (7 + i + (u8s bs).length) = macC hh ky (buf.take i ++ bs ++ buf.drop (i + bs.length)) o := by
  have e1 : ∀ (L : List Value) (k : Nat), k ≤ 16 → (u8s buf ++ L).take k = u8s (buf.take k) := fun L k hk => by
    rw [List.take_append_of_le_length (by simp [hb]; omega)]; simp [u8s, List.map_take]
  have e2 : ∀ (L : List Value) (k : Nat), k ≤ 16 → (u8s buf ++ L).drop k = u8s (buf.drop k) ++ L := fun L k hk => by
    rw [List.drop_append_of_le_length (by simp [hb]; omega)]; simp [u8s, List.map_drop]
  simp only [macC, stK, stC, u8s_length]
  rw [show 7 + i = i + 7 by omega, show i + 7 + bs.length = i + bs.length + 7 by omega]
  simp only [List.take_succ_cons, List.drop_succ_cons]
  rw [e1 _ _ (by omega), e2 _ _ (by omega)]
  simp [u8s_append]
theorem macC_stC (hh : Nat) (ky buf : List UInt8) (o : Nat) : macC hh ky buf o = stC hh (wd ky 0 &&& 1152921487695413247) (wd ky 8 &&& 1152921487695413244) (.int .u64 (wd ky 16 : Int) :: .int .u64 (wd ky 24 : Int) :: (u8s buf ++ [.int .i64 (o : Int), .bool false])) := rfl
theorem buf_range {w : World} {g : Nat} {t : TypeId} {hh o : Nat} {ky buf : List UInt8} (h : Arr w g t (macC hh ky buf o)) (hb : buf.length = 16) : w.rangeAt g 7 (u8s buf) := by
  intro j v hj
  have h2 := h.range (7 + j) v
  rw [Nat.zero_add] at h2
  refine h2 ?_
  simp only [macC, stK, stC]
  rw [show 7 + j = j + 7 by omega]
  simp only [List.getElem?_cons_succ]
  rw [List.getElem?_append_left (by have := (List.getElem?_eq_some_iff.1 hj).1; exact this)]
  exact hj
theorem GH.upd {W w w2 : World} {r n : Nat} {T : TypeId} {z : List Value} (h : GH W w r n T) (hg : w.grownBy w2 (some r)) (hn : z.length = n) (hz : Arr w2 r T z) : GH W w2 r n T := ⟨grown_trans' h.g hg, z, hn, hz⟩

set_option maxRecDepth 100000 in
set_option maxHeartbeats 2000000 in
theorem macNew_any (w : World) (gk : Nat) (tk : TypeId) (ky : List UInt8) (hK : ky.length = 32) (hA : Arr w gk tk (u8s ky)) :
    Calls Tryd.prog 64 #[.pointer (some ⟨gk, 0, none⟩)] w fun e w' => e = .returned (.pointer (some ⟨w.heap.size, 0, none⟩)) ∧ MacAt w' w.heap.size ky [] ∧ Below w.heap.size w w' := by
  obtain ⟨zb, hzb⟩ : ∃ zb : List UInt8, zb = [0, 0, 0, 0, 0, 0, 0, 0, 0, 0, 0, 0, 0, 0, 0, 0] := ⟨_, rfl⟩
  have hN : Arr (w.alloc (.cells (stK 0 0 0 0 0 (u8s [0, 0, 0, 0, 0, 0, 0, 0, 0, 0, 0, 0, 0, 0, 0, 0] ++ [.int .i64 0, .bool false])).toArray 135)) w.heap.size 135 (stK 0 0 0 0 0 (u8s [0, 0, 0, 0, 0, 0, 0, 0, 0, 0, 0, 0, 0, 0, 0, 0] ++ [.int .i64 0, .bool false])) := arr_new w _ _
  have hlt := hA.lt
  have hA1 := hA.below (below_alloc w (.cells (stK 0 0 0 0 0 (u8s [0, 0, 0, 0, 0, 0, 0, 0, 0, 0, 0, 0, 0, 0, 0, 0] ++ [.int .i64 0, .bool false])).toArray 135))
  have hb := below_alloc w (.cells (stK 0 0 0 0 0 (u8s [0, 0, 0, 0, 0, 0, 0, 0, 0, 0, 0, 0, 0, 0, 0, 0] ++ [.int .i64 0, .bool false])).toArray 135)
  go_enter Tryd.func64, Tryd.ntmps64
  go_wp2_with fail
  refine (initialize_any _ w.heap.size gk 135 tk ky hK _ hN hA1 (by omega)).mono ?_
  rintro e w1 ⟨rfl, hS1, hg1⟩
  go_wp2_with fail
  go_ret
  refine ⟨rfl, ⟨0, [0, 0, 0, 0, 0, 0, 0, 0, 0, 0, 0, 0, 0, 0, 0, 0], by unfold okH; decide, rfl, ?_, ?_, hS1⟩, bkept hb hg1 (Nat.le_refl _) (by simp)⟩
  · simp only [List.take_nil]; rw [polyA_nil]; exact Nat.zero_mod _
  · simp

set_option maxRecDepth 100000 in
set_option maxHeartbeats 4000000 in
theorem gwrite0_any (w : World) (g : Nat) (ky M p : List UInt8) (a : Option Addr) (cap : Nat) (hky : ky.length = 32) (hM : MacAt w g ky M) (h0 : M.length % 16 = 0) (ha : At w a (u8s p)) (hcap : p.length ≤ cap) (hne : ∀ b o s, a = some ⟨b, o, s⟩ → b ≠ g) (hp : p.length ≤ 1099511627776) :
    Calls Tryd.prog 79 #[.pointer (some ⟨g, 0, none⟩), .slice a p.length cap] w fun e w' => e = .returned (.tuple #[.int .i64 (p.length : Int), .nilIface]) ∧ MacAt w' g ky (M ++ p) ∧ w.grownBy w' (some g) := by
  obtain ⟨hh, buf, hok, hbl, hpoly, hbuf, hA⟩ := hM
  rw [h0] at hA hbuf
  have HPO := Lib.hid hpoly
  clear hpoly hbuf
  obtain ⟨r, hr⟩ : ∃ r, r = p.length % 16 := ⟨_, rfl⟩
  obtain ⟨q, hq⟩ : ∃ q, q = 16 * (p.length / 16) := ⟨_, rfl⟩
  have hqr : p.length = q + r := by omega
  have lr : r < 16 := by omega
  have HQ16 := Lib.hid (show q % 16 = 0 by omega)
  have HPL := Lib.hid hqr
  have em : (p.length : Int).tmod 16 = (r : Int) := by rw [Int.tmod_eq_emod_of_nonneg (by omega)]; omega
  have es : IntKind.i64.wrap ((p.length : Int) - (r : Int)) = (q : Int) := (IntWalk.i64_in _ (by omega)).trans (by omega)
  have lq : q ≤ p.length := by omega
  have lq2 : q ≤ cap := by omega
  have lpr : p.length ≤ q + 15 := by omega
  -- the message, and what is left of it
  have HF : Hid (∀ h2 buf2, okH h2 → buf2.length = 16 → h2 % p5 = polyA (rN ky) (hh % p5) (p.take q) → buf2.take r = p.drop q → ∀ w', Arr w' g 135 (macC h2 ky buf2 r) → MacAt w' g ky (M ++ p)) := Lib.hid (by
    intro h2 buf2 k1 k2 k3 k4 w' k5
    have e1 : (M ++ p).length % 16 = r := by rw [List.length_append]; omega
    have e2 : 16 * ((M ++ p).length / 16) = M.length + q := by rw [List.length_append]; omega
    have e3 : M.take (16 * (M.length / 16)) = M := List.take_of_length_le (by omega)
    refine ⟨h2, buf2, k1, k2, ?_, ?_, by rw [e1]; exact k5⟩
    · rw [e2, List.take_append, List.take_of_length_le (show M.length ≤ M.length + q by omega), show M.length + q - M.length = q by omega, polyA_append _ (M.length / 16) _ _ _ (by omega), k3, HPO.out, e3]
    · rw [e1, e2, k4, List.drop_append, List.drop_of_length_le (show M.length ≤ M.length + q by omega), show M.length + q - M.length = q by omega, List.nil_append])
  have c23 := hA.cellE (macC_off hh ky buf 0 hbl)
  have f23 := hA.fr 23
  simp only [Int.natCast_zero] at c23
  clear hr hq hqr
  go_enter Tryd.func79, Tryd.ntmps79
  by_cases hq0 : q = 0
  · subst hq0
    simp only [Int.natCast_zero] at es
    have hrp : r = p.length := by have := HPL.out; omega
    subst hrp
    have hpo2 : hh % p5 = polyA (rN ky) (hh % p5) (p.take 0) := by rw [List.take_zero, polyA_nil]
    have HP2 := Lib.hid hpo2
    clear hpo2
    by_cases hr0 : p.length = 0
    · have d0 : decide ((p.length : Int) > 0) = false := decide_eq_false (by omega)
      have d00 : decide (0 < p.length) = false := decide_eq_false (by omega)
      have hpn : p = [] := List.eq_nil_of_length_eq_zero hr0
      have HPN := Lib.hid hpn
      clear hr0 hpn
      go_wp2_with fail
      go_ret2
      exact ⟨rfl, HF.out hh buf hok hbl HP2.out (by rw [HPN.out]; rfl) w (by rw [show p.length = 0 from by rw [HPN.out]; rfl]; exact hA), World.grownBy.refl _ _⟩
    · have d2 : decide ((p.length : Int) > 0) = true := by simp; omega
      have d20 : decide (0 < p.length) = true := by simp; omega
      obtain ⟨b, o, rfl, hcc⟩ := ha (by simp; omega)
      have hnb := hne b o none rfl
      have hrg2 : w.rangeAt b o (u8s p) := fun j v hj => by
        obtain ⟨hl, rfl⟩ := List.getElem?_eq_some_iff.1 hj
        exact hcc j hl
      clear hcc ha hne
      obtain ⟨buf2, hb2⟩ : ∃ x, x = buf.take 0 ++ p ++ buf.drop (0 + p.length) := ⟨_, rfl⟩
      have HB2 : Hid (buf2.length = 16) := Lib.hid (by rw [hb2]; simp only [List.length_append, List.length_take, List.length_drop]; omega)
      have HB3 : Hid (buf2.take p.length = p.drop 0) := Lib.hid (by rw [hb2, List.take_zero, List.nil_append, List.take_left, List.drop_zero])
      have HCP := Lib.hid (macC_copy hh ky buf p 0 0 hbl (by omega))
      rw [← hb2] at HCP
      have er : IntKind.i64.wrap (p.length : Int) = (p.length : Int) := IntWalk.i64_in _ (by omega)
      clear hb2
      go_wp2_with fail
      go_region_law ((refine step_copyV (TS := 23) bs_undE u8_size1 rfl (.tmp 88) (.tmp 89) rfl g 7 16 16 b o p.length cap (macC hh ky buf 0) (u8s p) (by rw [u8s_length]; exact (Nat.min_eq_left (by omega)).symm) rfl rfl (show Arr w.drew _ _ _ from hA) hrg2 (by rw [u8s_length, macC_length, hbl]; omega) (u8s_oneCell _) ?_; intro w6 hA6 hg6; rw [HCP.out] at hA6; have c6 := hA6.cellE (macC_off hh ky buf2 0 HB2.out); have f6 := hA6.fr 23; simp only [Int.natCast_zero] at c6; have hA7 := hA6.set 23 (.int .i64 (p.length : Int)) (by rw [macC_length, HB2.out]; decide); rw [macC_set hh ky buf2 0 p.length HB2.out] at hA7))
      all_goals (
        go_wp2_with fail
        go_ret2
        exact ⟨rfl, HF.out hh buf2 hok HB2.out HP2.out HB3.out _ hA7, grown_set0 (grown_trans' (grown_drewN (World.grownBy.refl w (some g)) 1) hg6) 23 _⟩)
  · have d1 : decide ((q : Int) > 0) = true := by simp; omega
    obtain ⟨b, o, rfl, hcc⟩ := ha (by simp; omega)
    have hnb := hne b o none rfl
    have hrg : w.rangeAt b o (u8s p) := fun j v hj => by
      obtain ⟨hl, rfl⟩ := List.getElem?_eq_some_iff.1 hj
      exact hcc j hl
    have HRG := Lib.hid hrg
    clear hcc ha hne
    have hqt : (p.take q).length = q := by simp; omega
    go_wp2_with fail
    refine wp_region_held_drew (S := fun w' => GH w w' g 25 135) (by kernel_rfl) (GH.start hA (by simp [hbl])) (fun hH => ?_)
    refine wpAnyH_take (i := 0) (v := ?_) rfl (by kernel_rfl) (by kernel_rfl) (by kernel_rfl) (fun _ _ _ h => h) (Or.inl ⟨by rfl, fun w' hSw => by go_simp; with_reducible rfl⟩) hH ?_
    simp only [Act.put, List.getElem_toArray, List.getElem_cons_succ, List.getElem_cons_zero, List.setIfInBounds_toArray, List.set_cons_zero, List.set_cons_succ]
    refine wpAnyH_take (i := 1) (v := ?_) rfl (by kernel_rfl) (by kernel_rfl) (by kernel_rfl) (fun _ _ _ h => h) (Or.inl ⟨by rfl, fun w' hSw => by go_simp; with_reducible rfl⟩) hH ?_
    simp only [Act.put, List.getElem_toArray, List.getElem_cons_succ, List.getElem_cons_zero, List.setIfInBounds_toArray, List.set_cons_zero, List.set_cons_succ]
    refine wpAnyH_take (i := 2) (v := ?_) rfl (by kernel_rfl) (by kernel_rfl) (by kernel_rfl) (fun _ _ _ h => h) (Or.inl ⟨by rfl, fun w' hSw => by go_simp; with_reducible rfl⟩) hH ?_
    simp only [Act.put, List.getElem_toArray, List.getElem_cons_succ, List.getElem_cons_zero, List.setIfInBounds_toArray, List.set_cons_zero, List.set_cons_succ]
    refine wpAnyH_take (i := 3) (v := ?_) rfl (by kernel_rfl) (by kernel_rfl) (by kernel_rfl) (fun _ _ _ h => h) (Or.inl ⟨by rfl, fun w' hSw => by go_simp; with_reducible rfl⟩) hH ?_
    simp only [Act.put, List.getElem_toArray, List.getElem_cons_succ, List.getElem_cons_zero, List.setIfInBounds_toArray, List.set_cons_zero, List.set_cons_succ]
    refine wpAnyH_take (i := 4) (v := ?_) rfl (by kernel_rfl) (by kernel_rfl) (by kernel_rfl) (fun _ _ _ h => h) (Or.inl ⟨by rfl, fun w' hSw => by go_simp; with_reducible rfl⟩) hH ?_
    simp only [Act.put, List.getElem_toArray, List.getElem_cons_succ, List.getElem_cons_zero, List.setIfInBounds_toArray, List.set_cons_zero, List.set_cons_succ]
    refine wpAnyH_take (i := 5) (v := ?_) rfl (by kernel_rfl) (by kernel_rfl) (by kernel_rfl) (fun _ _ _ h => h) (Or.inl ⟨by rfl, fun w' hSw => by go_simp; with_reducible rfl⟩) hH ?_
    simp only [Act.put, List.getElem_toArray, List.getElem_cons_succ, List.getElem_cons_zero, List.setIfInBounds_toArray, List.set_cons_zero, List.set_cons_succ]
    refine wpAnyH_ready (rs := [6]) (by kernel_rfl) (by simp) ?_
    refine AllReadyH.cons rfl (fun K hK => ?_) AllReadyH.nil
    try simp only [List.getElem_toArray, List.getElem_cons_succ, List.getElem_cons_zero]
    go_simp
    have hup := update_any w.drew g 135 hh _ _ _ (some ⟨b, o, none⟩) cap (p.take q) (show Arr w.drew g 135 (macC hh ky buf 0) from hA) hok (and_lt60 (wd ky 0) _ (by decide)) (and_lt60 (wd ky 8) _ (by decide)) (range_at (show w.drew.rangeAt b o (u8s (p.take q)) from by have h := range_sub HRG.out 0 q; rw [Nat.add_zero, List.drop_zero] at h; exact h)) (by rw [hqt]; exact HQ16.out) (by rw [hqt]; exact lq2)
    rw [hqt, ← rN_words ky hky] at hup
    go_at_call 80
    refine (hup).mono ?_
    rintro e w2 ⟨rfl, h2, hok2, hpo2, hA2, hg2⟩
    refine hK.out _ _ (hH.upd hg2 (by simp [macC_stC, stC, hbl]) hA2) (fun hH => ?_)
    clear hK K
    try simp only [Act.put, List.getElem_toArray, List.getElem_cons_succ, List.getElem_cons_zero, List.setIfInBounds_toArray, List.set_cons_zero, List.set_cons_succ]
    refine wpAnyH_done (by kernel_rfl) ?_ _
    have hA2 : Arr w2 g 135 (macC h2 ky buf 0) := hA2
    have hg0 := grown_trans' (grown_drewN (World.grownBy.refl w (some g)) 1) hg2
    clear hH hg2
    obtain ⟨o2, ho2⟩ : ∃ x, x = fromO o cap q := ⟨_, rfl⟩
    have hrg2 : w2.rangeAt b o2 (u8s (p.drop q)) := by
      rw [ho2]
      have h := range_from (k := q) (range_kept HRG.out hg0 hnb) (c := cap) (by simpa using hcap)
      unfold u8s at h ⊢; rw [List.map_drop]; exact h
    have hsl : ∀ W, (Instr.sliceAt 23 (.slice (some ⟨b, o, none⟩) p.length cap) (some (.int .i64 (q : Int))) none none).run Tryd.prog W = .ok (.slice (some ⟨b, o2, none⟩) r (cap - q)) W := fun W => by
      have h := run_from W .i64 b o p.length cap q lq hcap
      rw [ho2, h, show p.length - q = r from by have := HPL.out; omega]
    have hdl : (p.drop q).length = r := by rw [List.length_drop]; have := HPL.out; omega
    clear ho2
    have c23 := hA2.cellE (macC_off h2 ky buf 0 hbl)
    have f23 := hA2.fr 23
    simp only [Int.natCast_zero] at c23
    by_cases hr0 : r = 0
    · subst hr0
      go_wp2_with fail
      go_ret2
      exact ⟨rfl, HF.out h2 buf hok2 hbl hpo2 (by rw [List.take_zero]; exact (List.eq_nil_of_length_eq_zero hdl).symm) w2 hA2, hg0⟩
    · have d2 : decide ((r : Int) > 0) = true := by simp; omega
      obtain ⟨buf2, hb2⟩ : ∃ x, x = buf.take 0 ++ p.drop q ++ buf.drop (0 + (p.drop q).length) := ⟨_, rfl⟩
      have HB2 : Hid (buf2.length = 16) := Lib.hid (by rw [hb2]; simp only [List.length_append, List.length_take, List.length_drop]; omega)
      have HB3 : Hid (buf2.take r = p.drop q) := Lib.hid (by rw [hb2, List.take_zero, List.nil_append, ← hdl, List.take_left])
      have HCP := Lib.hid (macC_copy h2 ky buf (p.drop q) 0 0 hbl (by omega))
      rw [← hb2] at HCP
      have er : IntKind.i64.wrap (r : Int) = (r : Int) := IntWalk.i64_in _ (by omega)
      clear hb2
      go_wp2_with fail
      go_region_law ((refine step_copyV (TS := 23) bs_undE u8_size1 rfl (.tmp 88) (.tmp 89) rfl g 7 16 16 b o2 r (cap - q) (macC h2 ky buf 0) (u8s (p.drop q)) (by rw [u8s_length, hdl]; exact (Nat.min_eq_left (by omega)).symm) rfl rfl (show Arr w2.drew _ _ _ from hA2) hrg2 (by rw [u8s_length, hdl, macC_length, hbl]; omega) (u8s_oneCell _) ?_; intro w6 hA6 hg6; rw [HCP.out] at hA6; have c6 := hA6.cellE (macC_off h2 ky buf2 0 HB2.out); have f6 := hA6.fr 23; simp only [Int.natCast_zero] at c6; have hA7 := hA6.set 23 (.int .i64 (r : Int)) (by rw [macC_length, HB2.out]; decide); rw [macC_set h2 ky buf2 0 r HB2.out] at hA7))
      all_goals (
        go_wp2_with fail
        go_ret2
        exact ⟨rfl, HF.out h2 buf2 hok2 HB2.out hpo2 HB3.out _ hA7, grown_set0 (grown_trans' (grown_drewN hg0 1) hg6) 23 _⟩)
end Go.Proofs.YtkocgogpbammaaaDoor

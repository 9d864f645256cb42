/- Poly1305's MAC in the package: a write that fills up a piece. Conditions: as many bytes as are lacking. (Printed by wip/genpm.py.) -/
import Derived.Test.YtkocgogpbammaaaDoorPm
import Derived.ArgAppend
set_option linter.unusedVariables false
set_option linter.unusedSimpArgs false
namespace Go.Proofs.YtkocgogpbammaaaDoor
open Go.RowKit

set_option maxRecDepth 100000 in
set_option maxHeartbeats 4000000 in
theorem gwriteF_any (w : World) (g : Nat) (ky M p : List UInt8) (b o cap : Nat) (hky : ky.length = 32) (hM : MacAt w g ky M) (h0 : 0 < M.length % 16) (hpl : M.length % 16 + p.length = 16) (ha : w.rangeAt b o (u8s p)) (hcap : p.length ≤ cap) (hnb : b ≠ g) :
    Calls Tryd.prog 79 #[.pointer (some ⟨g, 0, none⟩), .slice (some ⟨b, o, none⟩) p.length cap] w fun e w' => e = .returned (.tuple #[.int .i64 (p.length : Int), .nilIface]) ∧ MacAt w' g ky (M ++ p) ∧ w.grownBy w' (some g) := by
  obtain ⟨hh, buf, hok, hbl, hpoly, hbuf, hA⟩ := hM
  have HPO := Lib.hid hpoly
  have HBU := Lib.hid hbuf
  have HML := Lib.hid (show M.length = 16 * (M.length / 16) + M.length % 16 by omega)
  clear hpoly hbuf
  obtain ⟨f, hf⟩ : ∃ f, f = M.length % 16 := ⟨_, rfl⟩
  rw [← hf] at hA HBU h0 hpl HML
  have HFE := Lib.hid hf
  have lf : f < 16 := by rw [hf]; exact Nat.mod_lt _ (by decide)
  clear hf
  obtain ⟨n, hn⟩ : ∃ n, n = p.length := ⟨_, rfl⟩
  have HN := Lib.hid hn
  rw [← hn] at hpl hcap ⊢
  clear hn
  have hf16 : ¬ (16 = f) := by omega
  have ln : n < 16 := by omega
  have ln0 : 0 < n := by omega
  have HPL := Lib.hid hpl
  have e16 : IntKind.i64.wrap ((f : Int) + (n : Int)) = 16 := (IntWalk.i64_in _ (by omega)).trans (by omega)
  have d1 : decide ((f : Int) > 0) = true := decide_eq_true (by omega)
  have d10 : decide (0 < f) = true := decide_eq_true (by omega)
  have j0 : (0 : Int) ≤ (f : Int) := by omega
  have j1 : (f : Int) ≤ 16 := by omega
  have s16 : 16 - f = n := by omega
  obtain ⟨buf2, hb2⟩ : ∃ x, x = buf.take f ++ p ++ buf.drop (f + p.length) := ⟨_, rfl⟩
  have HB2 : Hid (buf2.length = 16) := Lib.hid (by rw [hb2]; simp only [List.length_append, List.length_take, List.length_drop, ← HN.out]; omega)
  have HB3 : Hid (buf2 = M.drop (16 * (M.length / 16)) ++ p) := Lib.hid (by rw [hb2, HBU.out, show buf.drop (f + p.length) = [] from List.drop_of_length_le (by rw [← HN.out]; omega), List.append_nil])
  have HCP := Lib.hid (macC_copy hh ky buf p f f hbl (by rw [← HN.out]; omega))
  rw [← hb2] at HCP
  clear hb2 hpl
  have c23 := hA.cellE (macC_off hh ky buf f hbl)
  have f23 := hA.fr 23
  obtain ⟨o2, ho2⟩ : ∃ x, x = fromO o cap n := ⟨_, rfl⟩
  have hsl : ∀ W, (Instr.sliceAt 23 (.slice (some ⟨b, o, none⟩) n cap) (some (.int .i64 (n : Int))) none none).run Tryd.prog W = .ok (.slice (some ⟨b, o2, none⟩) 0 (cap - n)) W := fun W => by
    have h := run_from W .i64 b o n cap n (Nat.le_refl _) hcap
    rw [ho2, h, Nat.sub_self]
  clear ho2
  go_enter Tryd.func79, Tryd.ntmps79
  go_wp2_with fail
  go_region_law ((refine step_copyV (TS := 23) bs_undE u8_size1 rfl (.tmp 23) (.tmp 24) rfl g (7 + f) n n b o n cap (macC hh ky buf f) (u8s p) (by rw [u8s_length, ← HN.out]; exact (Nat.min_self n).symm) rfl rfl (show Arr w.drew _ _ _ from hA) ha (by rw [u8s_length, macC_length, hbl, ← HN.out]; have := HPL.out; omega) (u8s_oneCell _) ?_; intro w6 hA6 hg6; rw [HCP.out] at hA6; rw [u8s_length, ← HN.out]))
  have c6 := hA6.cellE (macC_off hh ky buf2 f HB2.out)
  have f6 := hA6.fr 23
  have hA7 := hA6.set 23 (.int .i64 (0 : Nat)) (by rw [macC_length, HB2.out]; decide)
  rw [macC_set hh ky buf2 f 0 HB2.out] at hA7
  have hg7 := grown_set0 (grown_trans' (grown_drewN (World.grownBy.refl w (some g)) 1) hg6) 23 (.int .i64 (0 : Nat))
  simp only [Int.natCast_zero] at hA7 hg7
  go_wp2_with fail
  obtain ⟨w7, hw7⟩ : ∃ x, x = w6.setCell ⟨g, 23, none⟩ (.int .i64 0) := ⟨_, rfl⟩
  rw [← hw7] at hA7 hg7 ⊢
  clear hw7 c6 f6 hA6 hg6 c23 f23
  have hbl2 := HB2.out
  refine wp_region_held_drew (S := fun w' => GH w7 w' g 25 135) (by kernel_rfl) (GH.start hA7 (by simp [hbl2])) (fun hH => ?_)
  refine wpAnyH_take (i := 0) (v := ?_) rfl (by kernel_rfl) (by kernel_rfl) (by kernel_rfl) (fun _ _ _ h => h) (Or.inl ⟨by rfl, fun w' hSw => by go_simp; with_reducible rfl⟩) hH ?_
  simp only [Act.put, List.getElem_toArray, List.getElem_cons_succ, List.getElem_cons_zero, List.setIfInBounds_toArray, List.set_cons_zero, List.set_cons_succ]
  refine wpAnyH_take (i := 1) (v := ?_) rfl (by kernel_rfl) (by kernel_rfl) (by kernel_rfl) (fun _ _ _ h => h) (Or.inl ⟨by rfl, fun w' hSw => by go_simp; with_reducible rfl⟩) hH ?_
  simp only [Act.put, List.getElem_toArray, List.getElem_cons_succ, List.getElem_cons_zero, List.setIfInBounds_toArray, List.set_cons_zero, List.set_cons_succ]
  refine wpAnyH_take (i := 2) (v := ?_) rfl (by kernel_rfl) (by kernel_rfl) (by kernel_rfl) (fun _ _ _ h => h) (Or.inl ⟨by rfl, fun w' hSw => by go_simp; with_reducible rfl⟩) hH ?_
  simp only [Act.put, List.getElem_toArray, List.getElem_cons_succ, List.getElem_cons_zero, List.setIfInBounds_toArray, List.set_cons_zero, List.set_cons_succ]
  refine wpAnyH_take (i := 3) (v := ?_) rfl (by kernel_rfl) (by kernel_rfl) (by kernel_rfl) (fun _ _ _ h => h) (Or.inl ⟨by rfl, fun w' hSw => by go_simp; with_reducible rfl⟩) hH ?_
  simp only [Act.put, List.getElem_toArray, List.getElem_cons_succ, List.getElem_cons_zero, List.setIfInBounds_toArray, List.set_cons_zero, List.set_cons_succ]
  refine wpAnyH_take (i := 4) (v := ?_) rfl (by kernel_rfl) (by kernel_rfl) (by kernel_rfl) (fun _ _ _ h => h) (Or.inl ⟨by rfl, fun w' hSw => by go_simp; with_reducible rfl⟩) hH ?_
  simp only [Act.put, List.getElem_toArray, List.getElem_cons_succ, List.getElem_cons_zero, List.setIfInBounds_toArray, List.set_cons_zero, List.set_cons_succ]
  refine wpAnyH_take (i := 5) (v := ?_) rfl (by kernel_rfl) (by kernel_rfl) (by kernel_rfl) (fun _ _ _ h => h) (Or.inl ⟨by rfl, fun w' hSw => by go_simp; with_reducible rfl⟩) hH ?_
  simp only [Act.put, List.getElem_toArray, List.getElem_cons_succ, List.getElem_cons_zero, List.setIfInBounds_toArray, List.set_cons_zero, List.set_cons_succ]
  refine wpAnyH_take (i := 6) (v := ?_) rfl (by kernel_rfl) (by kernel_rfl) (by kernel_rfl) (fun _ _ _ h => h) (Or.inl ⟨by rfl, fun w' hSw => by go_simp; with_reducible rfl⟩) hH ?_
  simp only [Act.put, List.getElem_toArray, List.getElem_cons_succ, List.getElem_cons_zero, List.setIfInBounds_toArray, List.set_cons_zero, List.set_cons_succ]
  refine wpAnyH_ready (rs := [7]) (by kernel_rfl) (by simp) ?_
  refine AllReadyH.cons rfl (fun K hK => ?_) AllReadyH.nil
  try simp only [List.getElem_toArray, List.getElem_cons_succ, List.getElem_cons_zero]
  go_simp
  have hup := update_any w7.drew g 135 hh _ _ _ (some ⟨g, 7, none⟩) 16 buf2 (show Arr w7.drew g 135 (macC hh ky buf2 0) from hA7) hok (and_lt60 (wd ky 0) _ (by decide)) (and_lt60 (wd ky 8) _ (by decide)) (range_at (buf_range (show Arr w7.drew g 135 (macC hh ky buf2 0) from hA7) hbl2)) (by rw [hbl2]) (by rw [hbl2]; decide)
  rw [hbl2, ← rN_words ky hky] at hup
  go_at_call 80
  refine (hup).mono ?_
  rintro e w2 ⟨rfl, h2, hok2, hpo2, hA2, hg2⟩
  refine hK.out _ _ (hH.upd hg2 (by simp [macC_stC, stC, hbl2]) hA2) (fun hH => ?_)
  clear hK K
  try simp only [Act.put, List.getElem_toArray, List.getElem_cons_succ, List.getElem_cons_zero, List.setIfInBounds_toArray, List.set_cons_zero, List.set_cons_succ]
  refine wpAnyH_done (by kernel_rfl) ?_ _
  have hA2 : Arr w2 g 135 (macC h2 ky buf2 0) := hA2
  have hg0 := grown_trans' (grown_drewN hg7 1) hg2
  have c23 := hA2.cellE (macC_off h2 ky buf2 0 hbl2)
  clear hH hg2
  go_wp2_with fail
  go_ret2
  have e1 : (M ++ p).length = 16 * (M.length / 16) + 16 := by rw [List.length_append, ← HN.out]; have h1 := HML.out; have h2 := HPL.out; omega
  have hp16 : p.length = n := HN.out.symm
  refine ⟨rfl, ⟨h2, buf2, hok2, hbl2, ?_, ?_, ?_⟩, hg0⟩
  · rw [e1, show 16 * ((16 * (M.length / 16) + 16) / 16) = 16 * (M.length / 16) + 16 by omega, List.take_of_length_le (by omega), hpo2, HB3.out, HPO.out]
    rw [← polyA_append _ (M.length / 16) _ _ _ (by rw [List.length_take]; have h1 := HML.out; omega), ← List.append_assoc, List.take_append_drop]
  · rw [e1, show (16 * (M.length / 16) + 16) % 16 = 0 by omega, show 16 * ((16 * (M.length / 16) + 16) / 16) = 16 * (M.length / 16) + 16 by omega, List.take_zero, List.drop_of_length_le (by omega)]
  · rw [e1, show (16 * (M.length / 16) + 16) % 16 = 0 by omega]; exact hA2
end Go.Proofs.YtkocgogpbammaaaDoor

/- Poly1305's tag out of the sum, in the package. Conditions: the sum as large as it grows. (Printed by wip/genpf.py.) -/

namespace Go.Proofs.YtkocgogpbammaaaDoor
open Go.RowKit

theorem leBytes_add : ∀ (k j v : Nat), Lib.leBytes (k + j) v = Lib.leBytes k v ++ Lib.leBytes j (v / 256 ^ k)
  | 0, j, v => by simp [Lib.leBytes]
  | k + 1, j, v => by
    have h := leBytes_add k j (v / 256)
    rw [show k + 1 + j = (k + j) + 1 by omega, Lib.leBytes, h, Lib.leBytes, Nat.div_div_eq_div_mul, Nat.pow_succ, Nat.mul_comm 256]
    rfl
theorem putU_at (w : World) (g i n c v : Nat) (t : TypeId) (L : List UInt8) (hg : Arr w g t (u8s L)) (hi : i + 8 ≤ L.length) (hn : 8 ≤ n) (hv : v < 18446744073709551616) :
    Calls Tryd.prog 90 #[.agg #[], .slice (some ⟨g, i, none⟩) n c, .int .u64 (v : Int)] w fun e w' => e = .returned (.tuple #[]) ∧ Arr w' g t (u8s (L.take i ++ Lib.leBytes 8 v ++ L.drop (i + 8))) ∧ w.grownBy w' (some g) := by
  have hc : ∀ j (hj : j < 8), w.cell? ⟨g, i + j, none⟩ = some ((u8s L)[i + j]'(by simp; omega)) := fun j hj => hg.cell (i + j) (by simp; omega)
  refine (Tryd.binary_LE_PutUint64 g i n c v hv _ _ _ _ _ _ _ _ w hn (hc 0 (by omega)) (hc 1 (by omega)) (hc 2 (by omega)) (hc 3 (by omega)) (hc 4 (by omega)) (hc 5 (by omega)) (hc 6 (by omega)) (hc 7 (by omega))
    (hg.fr _) (hg.fr _) (hg.fr _) (hg.fr _) (hg.fr _) (hg.fr _) (hg.fr _) (hg.fr _)).mono ?_
  rintro e w' ⟨rfl, rfl⟩
  have h1 := arr_setCells (u8s (Lib.leBytes 8 v)) i _ _ (hg.below (below_alloc w (.cells #[] 144))) (by simp [Lib.leBytes_length]; omega)
  refine ⟨rfl, ?_, grown_setCells _ _ _ _ (below_then_grown (below_alloc w _) (World.grownBy.refl _ _))⟩
  have e1 : (u8s L).take i ++ u8s (Lib.leBytes 8 v) ++ (u8s L).drop (i + (u8s (Lib.leBytes 8 v)).length) = u8s (L.take i ++ Lib.leBytes 8 v ++ L.drop (i + 8)) := by
    simp [u8s, List.map_take, List.map_drop, Lib.leBytes_length]
  rw [e1] at h1
  exact h1
/-- The end in limbs. -/
theorem tag_limbs (hh x0 x1 x2 d0 d1 b0 b1 b2 z0 z1 s0 s1 y0 y1 c k : Nat) (hok : okH hh) (hx : hh = x0 + 18446744073709551616 * x1 + 340282366920938463463374607431768211456 * x2) (lx0 : x0 < 18446744073709551616) (lx1 : x1 < 18446744073709551616)
    (ld0 : d0 < 18446744073709551616) (ld1 : d1 < 18446744073709551616) (e0 : x0 + 18446744073709551616 * b0 = d0 + 18446744073709551611) (e1 : x1 + 18446744073709551616 * b1 = d1 + 18446744073709551615 + b0) (e2 : b2 = if x2 < 3 + b1 then 1 else 0)
    (hz : b2 = 1 ∧ z0 = x0 ∧ z1 = x1 ∨ b2 = 0 ∧ z0 = d0 ∧ z1 = d1) (q0 : z0 + s0 = y0 + 18446744073709551616 * c) (q1 : z1 + s1 + c = y1 + 18446744073709551616 * k) (ly0 : y0 < 18446744073709551616) (ly1 : y1 < 18446744073709551616) :
    Lib.leBytes 8 y0 ++ Lib.leBytes 8 y1 = Lib.leBytes 16 (hh % p5 + (s0 + 18446744073709551616 * s1)) := by
  have hm : ∃ u, hh % p5 = z0 + 18446744073709551616 * z1 + 340282366920938463463374607431768211456 * u := by
    unfold okH at hok
    rcases hz with ⟨hb, rfl, rfl⟩ | ⟨hb, rfl, rfl⟩
    · have hlt : x2 < 3 + b1 := by
        rcases Nat.lt_or_ge x2 (3 + b1) with h | h
        · exact h
        · rw [if_neg (by omega)] at e2; omega
      exact ⟨x2, by rw [Nat.mod_eq_of_lt (by unfold p5; omega)]; exact hx⟩
    · have hge : 3 + b1 ≤ x2 := by
        rcases Nat.lt_or_ge x2 (3 + b1) with h | h
        · rw [if_pos h] at e2; omega
        · exact h
      refine ⟨x2 - 3 - b1, ?_⟩
      have h1 : p5 ≤ hh := by unfold p5; omega
      rw [Nat.mod_eq_sub_mod h1, Nat.mod_eq_of_lt (by unfold p5; omega)]
      unfold p5; omega
  obtain ⟨u, hu⟩ := hm
  have hV : hh % p5 + (s0 + 18446744073709551616 * s1) = y0 + 256 ^ 8 * (y1 + 256 ^ 8 * (k + u)) := by
    rw [hu, show (256 : Nat) ^ 8 = 18446744073709551616 from by decide]; omega
  rw [hV, show (16 : Nat) = 8 + 8 from rfl, leBytes_add, leBytes_mod, Nat.add_mul_div_left _ _ (by decide), Nat.div_eq_of_lt (by rw [show (256 : Nat) ^ 8 = 18446744073709551616 from by decide]; exact ly0), Nat.zero_add, leBytes_mod]

set_option maxRecDepth 100000 in
set_option maxHeartbeats 4000000 in
theorem finalize_any (w : World) (go gs : Nat) (ts tO : TypeId) (hh r0 r1 s0 s1 : Nat) (rest : List Value) (L : List UInt8) (hok : okH hh) (hs0 : s0 < 18446744073709551616) (hs1 : s1 < 18446744073709551616) (hS : Arr w gs ts (stK hh r0 r1 s0 s1 rest)) (hO : Arr w go tO (u8s L)) (hL : L.length = 16) (hne : go ≠ gs) :
    Calls Tryd.prog 81 #[.pointer (some ⟨go, 0, none⟩), .pointer (some ⟨gs, 0, none⟩), .pointer (some ⟨gs, 5, none⟩)] w fun e w' => e = .returned (.tuple #[]) ∧ Arr w' go tO (u8s (Lib.leBytes 16 (hh % p5 + (s0 + 18446744073709551616 * s1)))) ∧ w.grownBy w' (some go) := by
  obtain ⟨x0, hx0⟩ : ∃ x, x = lim0 hh := ⟨_, rfl⟩
  obtain ⟨x1, hx1⟩ : ∃ x, x = lim1 hh := ⟨_, rfl⟩
  obtain ⟨x2, hx2⟩ : ∃ x, x = lim2 hh := ⟨_, rfl⟩
  have c0 := hS.cell 0 (by simp [stK, stC])
  have c1 := hS.cell 1 (by simp [stK, stC])
  have c2 := hS.cell 2 (by simp [stK, stC])
  have c5 := hS.cell 5 (by simp [stK, stC])
  have c6 := hS.cell 6 (by simp [stK, stC])
  simp only [stK, stC, List.getElem_cons_succ, List.getElem_cons_zero, ← hx0, ← hx1, ← hx2] at c0 c1 c2 c5 c6
  have lx0 : x0 < 18446744073709551616 := by rw [hx0]; exact lim0_lt _
  have lx1 : x1 < 18446744073709551616 := by rw [hx1]; exact lim1_lt _
  have lx2 : x2 < 18446744073709551616 := by rw [hx2]; exact Nat.lt_of_le_of_lt (lim2_le _ hok) (by decide)
  have HX : Hid (hh = x0 + 18446744073709551616 * x1 + 340282366920938463463374607431768211456 * x2) := Lib.hid (by rw [hx0, hx1, hx2]; exact lim_eq hh)
  clear hx0 hx1 hx2
  obtain ⟨b0, hb0⟩ : ∃ b : Nat, b = if x0 < 18446744073709551611 + 0 then 1 else 0 := ⟨_, rfl⟩
  obtain ⟨d0, hd0⟩ : ∃ d, d = (x0 + 18446744073709551616 - 18446744073709551611 - 0) % 18446744073709551616 := ⟨_, rfl⟩
  have lb0 : b0 ≤ 1 := by rw [hb0]; split <;> omega
  obtain ⟨b1, hb1⟩ : ∃ b : Nat, b = if x1 < 18446744073709551615 + b0 then 1 else 0 := ⟨_, rfl⟩
  obtain ⟨d1, hd1⟩ : ∃ d, d = (x1 + 18446744073709551616 - 18446744073709551615 - b0) % 18446744073709551616 := ⟨_, rfl⟩
  have lb1 : b1 ≤ 1 := by rw [hb1]; split <;> omega
  obtain ⟨b2, hb2⟩ : ∃ b : Nat, b = if x2 < 3 + b1 then 1 else 0 := ⟨_, rfl⟩
  obtain ⟨d2, hd2⟩ : ∃ d, d = (x2 + 18446744073709551616 - 3 - b1) % 18446744073709551616 := ⟨_, rfl⟩
  have ld0 : d0 < 18446744073709551616 := by rw [hd0]; exact Nat.mod_lt _ (by decide)
  have ld1 : d1 < 18446744073709551616 := by rw [hd1]; exact Nat.mod_lt _ (by decide)
  have E0 : Hid (x0 + 18446744073709551616 * b0 = d0 + 18446744073709551611) := Lib.hid (by
    rw [hb0, hd0]; split <;> omega)
  have E1 : Hid (x1 + 18446744073709551616 * b1 = d1 + 18446744073709551615 + b0) := Lib.hid (by
    rw [hb1, hd1]; split <;> omega)
  have hA := fun w => sub64_run x0 18446744073709551611 0 (by decide) w
  have hB := fun w => sub64_run x1 18446744073709551615 b0 lb0 w
  have hC := fun w => sub64_run x2 3 b1 lb1 w
  rw [← hb0, ← hd0] at hA
  rw [← hb1, ← hd1] at hB
  rw [← hb2, ← hd2] at hC
  have E2 := Lib.hid hb2
  clear hb0 hd0 hb1 hd1 hd2
  simp only [Int.natCast_zero, show ((18446744073709551611 : Nat) : Int) = 18446744073709551611 from rfl] at hA
  simp only [show ((18446744073709551615 : Nat) : Int) = 18446744073709551615 from rfl] at hB
  simp only [show ((3 : Nat) : Int) = 3 from rfl] at hC
  rcases (show b2 = 1 ∨ b2 = 0 by rw [hb2]; split <;> simp) with hbb | hbb
  · clear hb2
    have HB2 := Lib.hid hbb
    rw [hbb] at hC
    simp only [Int.natCast_one] at hC
    clear hbb
    obtain ⟨y0, hy0⟩ : ∃ x, x = (x0 + s0 + 0) % 18446744073709551616 := ⟨_, rfl⟩
    obtain ⟨k0, hk0⟩ : ∃ x, x = (x0 + s0 + 0) / 18446744073709551616 := ⟨_, rfl⟩
    have lk0 : k0 ≤ 1 := by omega
    have ly0 : y0 < 18446744073709551616 := by omega
    obtain ⟨y1, hy1⟩ : ∃ x, x = (x1 + s1 + k0) % 18446744073709551616 := ⟨_, rfl⟩
    obtain ⟨k1, hk1⟩ : ∃ x, x = (x1 + s1 + k0) / 18446744073709551616 := ⟨_, rfl⟩
    have ly1 : y1 < 18446744073709551616 := by omega
    have Q0 := Lib.hid (show x0 + s0 = y0 + 18446744073709551616 * k0 by omega)
    have Q1 := Lib.hid (show x1 + s1 + k0 = y1 + 18446744073709551616 * k1 by omega)
    have hD := fun w => add64_run x0 s0 0 (by decide) w
    have hE := fun w => add64_run x1 s1 k0 lk0 w
    rw [← hy0, ← hk0] at hD
    rw [← hy1, ← hk1] at hE
    simp only [Int.natCast_zero] at hD
    clear hy0 hk0 hy1 hk1
    go_enter Tryd.func81, Tryd.ntmps81
    go_wp2_with fail
    go_quiet (fail)
    have hg0 : w.grownBy (w.drewN nq) (some go) := grown_drewN (World.grownBy.refl w (some go)) nq
    have hO1 : Arr (w.drewN nq) go tO (u8s L) := hO
    have k5 : (w.drewN nq).cell? ⟨gs, 5, none⟩ = _ := c5
    have k6 : (w.drewN nq).cell? ⟨gs, 6, none⟩ = _ := c6
    generalize w.drewN nq = w1 at *
    clear c0 c1 c2 c5 c6
    go_wp2_with fail
    refine (select64_1 _ x0 d0 lx0 ld0).mono ?_
    rintro e w ⟨rfl, rfl⟩
    go_wp2_with fail
    refine (select64_1 _ x1 d1 lx1 ld1).mono ?_
    rintro e w ⟨rfl, rfl⟩
    go_wp2_with fail
    refine wp_region_held_drew (S := fun w' => GH w w' go 16 tO) (by kernel_rfl) (GH.start hO1 (by simp [hL])) (fun hH => ?_)
    refine wpAnyH_take (i := 0) (v := ?_) rfl (by kernel_rfl) (by kernel_rfl) (by kernel_rfl) (fun _ _ _ h => h) (Or.inl ⟨by rfl, fun w' hSw => by go_simp; with_reducible rfl⟩) hH ?_
    simp only [Act.put, List.getElem_toArray, List.getElem_cons_succ, List.getElem_cons_zero, List.setIfInBounds_toArray, List.set_cons_zero, List.set_cons_succ]
    refine wpAnyH_take (i := 1) (v := ?_) rfl (by kernel_rfl) (by kernel_rfl) (by kernel_rfl) (fun _ _ _ h => h) (Or.inl ⟨by rfl, fun w' hSw => by go_simp; with_reducible rfl⟩) hH ?_
    simp only [Act.put, List.getElem_toArray, List.getElem_cons_succ, List.getElem_cons_zero, List.setIfInBounds_toArray, List.set_cons_zero, List.set_cons_succ]
    refine wpAnyH_take (i := 2) (v := ?_) rfl (by kernel_rfl) (by kernel_rfl) (by kernel_rfl) (fun _ _ _ h => h) (Or.inl ⟨by rfl, fun w' hSw => by go_simp; with_reducible rfl⟩) hH ?_
    simp only [Act.put, List.getElem_toArray, List.getElem_cons_succ, List.getElem_cons_zero, List.setIfInBounds_toArray, List.set_cons_zero, List.set_cons_succ]
    refine wpAnyH_take (i := 3) (v := ?_) rfl (by kernel_rfl) (by kernel_rfl) (by kernel_rfl) (fun _ _ _ h => h) (Or.inl ⟨by rfl, fun w' hSw => by go_simp; with_reducible rfl⟩) hH ?_
    simp only [Act.put, List.getElem_toArray, List.getElem_cons_succ, List.getElem_cons_zero, List.setIfInBounds_toArray, List.set_cons_zero, List.set_cons_succ]
    refine wpAnyH_take (i := 4) (v := ?_) rfl (by kernel_rfl) (by kernel_rfl) (by kernel_rfl) (fun _ _ _ h => h) (Or.inl ⟨by rfl, fun w' hSw => by go_simp; with_reducible rfl⟩) hH ?_
    simp only [Act.put, List.getElem_toArray, List.getElem_cons_succ, List.getElem_cons_zero, List.setIfInBounds_toArray, List.set_cons_zero, List.set_cons_succ]
    refine wpAnyH_ready (rs := [5]) (by kernel_rfl) (by simp) ?_
    refine AllReadyH.cons rfl (fun K hK => ?_) AllReadyH.nil
    try simp only [List.getElem_toArray, List.getElem_cons_succ, List.getElem_cons_zero]
    go_simp
    go_at_call 90
    refine (putU_at _ go 0 _ _ y0 tO _ (show Arr w.drew go tO _ from hO1) (by simp [hL, Lib.leBytes_length]) (by omega) ly0).mono ?_
    rintro e w5 ⟨rfl, hO2, hg5⟩
    refine hK.out _ _ (hH.upd hg5 (by simp [hL, Lib.leBytes_length]) hO2) (fun hH => ?_)
    clear hK K
    try simp only [Act.put, List.getElem_toArray, List.getElem_cons_succ, List.getElem_cons_zero, List.setIfInBounds_toArray, List.set_cons_zero, List.set_cons_succ]
    refine wpAnyH_done (by kernel_rfl) ?_ _
    have hg0 := grown_trans' (grown_drewN hg0 1) hg5
    clear hH hg5
    go_wp2_with fail
    refine wp_region_held_drew (S := fun w' => GH w5 w' go 16 tO) (by kernel_rfl) (GH.start hO2 (by simp [hL, Lib.leBytes_length])) (fun hH => ?_)
    refine wpAnyH_take (i := 0) (v := ?_) rfl (by kernel_rfl) (by kernel_rfl) (by kernel_rfl) (fun _ _ _ h => h) (Or.inl ⟨by rfl, fun w' hSw => by go_simp; with_reducible rfl⟩) hH ?_
    simp only [Act.put, List.getElem_toArray, List.getElem_cons_succ, List.getElem_cons_zero, List.setIfInBounds_toArray, List.set_cons_zero, List.set_cons_succ]
    refine wpAnyH_take (i := 1) (v := ?_) rfl (by kernel_rfl) (by kernel_rfl) (by kernel_rfl) (fun _ _ _ h => h) (Or.inl ⟨by rfl, fun w' hSw => by go_simp; with_reducible rfl⟩) hH ?_
    simp only [Act.put, List.getElem_toArray, List.getElem_cons_succ, List.getElem_cons_zero, List.setIfInBounds_toArray, List.set_cons_zero, List.set_cons_succ]
    refine wpAnyH_take (i := 2) (v := ?_) rfl (by kernel_rfl) (by kernel_rfl) (by kernel_rfl) (fun _ _ _ h => h) (Or.inl ⟨by rfl, fun w' hSw => by go_simp; with_reducible rfl⟩) hH ?_
    simp only [Act.put, List.getElem_toArray, List.getElem_cons_succ, List.getElem_cons_zero, List.setIfInBounds_toArray, List.set_cons_zero, List.set_cons_succ]
    refine wpAnyH_take (i := 3) (v := ?_) rfl (by kernel_rfl) (by kernel_rfl) (by kernel_rfl) (fun _ _ _ h => h) (Or.inl ⟨by rfl, fun w' hSw => by go_simp; with_reducible rfl⟩) hH ?_
    simp only [Act.put, List.getElem_toArray, List.getElem_cons_succ, List.getElem_cons_zero, List.setIfInBounds_toArray, List.set_cons_zero, List.set_cons_succ]
    refine wpAnyH_take (i := 4) (v := ?_) rfl (by kernel_rfl) (by kernel_rfl) (by kernel_rfl) (fun _ _ _ h => h) (Or.inl ⟨by rfl, fun w' hSw => by go_simp; with_reducible rfl⟩) hH ?_
    simp only [Act.put, List.getElem_toArray, List.getElem_cons_succ, List.getElem_cons_zero, List.setIfInBounds_toArray, List.set_cons_zero, List.set_cons_succ]
    refine wpAnyH_ready (rs := [5]) (by kernel_rfl) (by simp) ?_
    refine AllReadyH.cons rfl (fun K hK => ?_) AllReadyH.nil
    try simp only [List.getElem_toArray, List.getElem_cons_succ, List.getElem_cons_zero]
    go_simp
    go_at_call 90
    refine (putU_at _ go 8 _ _ y1 tO _ (show Arr w5.drew go tO _ from hO2) (by simp [hL, Lib.leBytes_length]) (by omega) ly1).mono ?_
    rintro e w6 ⟨rfl, hO3, hg6⟩
    refine hK.out _ _ (hH.upd hg6 (by simp [hL, Lib.leBytes_length]) hO3) (fun hH => ?_)
    clear hK K
    try simp only [Act.put, List.getElem_toArray, List.getElem_cons_succ, List.getElem_cons_zero, List.setIfInBounds_toArray, List.set_cons_zero, List.set_cons_succ]
    refine wpAnyH_done (by kernel_rfl) ?_ _
    have hg0 := grown_trans' (grown_drewN hg0 1) hg6
    clear hH hg6
    go_wp2_with fail
    go_end0
    have ht := tag_limbs hh x0 x1 x2 d0 d1 b0 b1 b2 x0 x1 s0 s1 y0 y1 k0 k1 hok HX.out lx0 lx1 ld0 ld1 E0.out E1.out E2.out (Or.inl ⟨HB2.out, rfl, rfl⟩) Q0.out Q1.out ly0 ly1
    refine ⟨rfl, ?_, hg0⟩
    rw [← ht]
    have el : (L.take 0 ++ Lib.leBytes 8 y0 ++ L.drop (0 + 8)).take 8 ++ Lib.leBytes 8 y1 ++ (L.take 0 ++ Lib.leBytes 8 y0 ++ L.drop (0 + 8)).drop (8 + 8) = Lib.leBytes 8 y0 ++ Lib.leBytes 8 y1 := by
      rw [List.take_zero, List.nil_append, List.take_append_of_le_length (by rw [Lib.leBytes_length]; omega), List.take_of_length_le (by rw [Lib.leBytes_length]; omega), List.drop_of_length_le (by simp [Lib.leBytes_length, hL]), List.append_nil]
    rw [el] at hO3
    exact hO3
  · clear hb2
    have HB2 := Lib.hid hbb
    rw [hbb] at hC
    simp only [Int.natCast_zero] at hC
    clear hbb
    obtain ⟨y0, hy0⟩ : ∃ x, x = (d0 + s0 + 0) % 18446744073709551616 := ⟨_, rfl⟩
    obtain ⟨k0, hk0⟩ : ∃ x, x = (d0 + s0 + 0) / 18446744073709551616 := ⟨_, rfl⟩
    have lk0 : k0 ≤ 1 := by omega
    have ly0 : y0 < 18446744073709551616 := by omega
    obtain ⟨y1, hy1⟩ : ∃ x, x = (d1 + s1 + k0) % 18446744073709551616 := ⟨_, rfl⟩
    obtain ⟨k1, hk1⟩ : ∃ x, x = (d1 + s1 + k0) / 18446744073709551616 := ⟨_, rfl⟩
    have ly1 : y1 < 18446744073709551616 := by omega
    have Q0 := Lib.hid (show d0 + s0 = y0 + 18446744073709551616 * k0 by omega)
    have Q1 := Lib.hid (show d1 + s1 + k0 = y1 + 18446744073709551616 * k1 by omega)
    have hD := fun w => add64_run d0 s0 0 (by decide) w
    have hE := fun w => add64_run d1 s1 k0 lk0 w
    rw [← hy0, ← hk0] at hD
    rw [← hy1, ← hk1] at hE
    simp only [Int.natCast_zero] at hD
    clear hy0 hk0 hy1 hk1
    go_enter Tryd.func81, Tryd.ntmps81
    go_wp2_with fail
    go_quiet (fail)
    have hg0 : w.grownBy (w.drewN nq) (some go) := grown_drewN (World.grownBy.refl w (some go)) nq
    have hO1 : Arr (w.drewN nq) go tO (u8s L) := hO
    have k5 : (w.drewN nq).cell? ⟨gs, 5, none⟩ = _ := c5
    have k6 : (w.drewN nq).cell? ⟨gs, 6, none⟩ = _ := c6
    generalize w.drewN nq = w1 at *
    clear c0 c1 c2 c5 c6
    go_wp2_with fail
    refine (select64_0 _ x0 d0 lx0 ld0).mono ?_
    rintro e w ⟨rfl, rfl⟩
    go_wp2_with fail
    refine (select64_0 _ x1 d1 lx1 ld1).mono ?_
    rintro e w ⟨rfl, rfl⟩
    go_wp2_with fail
    refine wp_region_held_drew (S := fun w' => GH w w' go 16 tO) (by kernel_rfl) (GH.start hO1 (by simp [hL])) (fun hH => ?_)
    refine wpAnyH_take (i := 0) (v := ?_) rfl (by kernel_rfl) (by kernel_rfl) (by kernel_rfl) (fun _ _ _ h => h) (Or.inl ⟨by rfl, fun w' hSw => by go_simp; with_reducible rfl⟩) hH ?_
    simp only [Act.put, List.getElem_toArray, List.getElem_cons_succ, List.getElem_cons_zero, List.setIfInBounds_toArray, List.set_cons_zero, List.set_cons_succ]
    refine wpAnyH_take (i := 1) (v := ?_) rfl (by kernel_rfl) (by kernel_rfl) (by kernel_rfl) (fun _ _ _ h => h) (Or.inl ⟨by rfl, fun w' hSw => by go_simp; with_reducible rfl⟩) hH ?_
    simp only [Act.put, List.getElem_toArray, List.getElem_cons_succ, List.getElem_cons_zero, List.setIfInBounds_toArray, List.set_cons_zero, List.set_cons_succ]
    refine wpAnyH_take (i := 2) (v := ?_) rfl (by kernel_rfl) (by kernel_rfl) (by kernel_rfl) (fun _ _ _ h => h) (Or.inl ⟨by rfl, fun w' hSw => by go_simp; with_reducible rfl⟩) hH ?_
    simp only [Act.put, List.getElem_toArray, List.getElem_cons_succ, List.getElem_cons_zero, List.setIfInBounds_toArray, List.set_cons_zero, List.set_cons_succ]
    refine wpAnyH_take (i := 3) (v := ?_) rfl (by kernel_rfl) (by kernel_rfl) (by kernel_rfl) (fun _ _ _ h => h) (Or.inl ⟨by rfl, fun w' hSw => by go_simp; with_reducible rfl⟩) hH ?_
    simp only [Act.put, List.getElem_toArray, List.getElem_cons_succ, List.getElem_cons_zero, List.setIfInBounds_toArray, List.set_cons_zero, List.set_cons_succ]
    refine wpAnyH_take (i := 4) (v := ?_) rfl (by kernel_rfl) (by kernel_rfl) (by kernel_rfl) (fun _ _ _ h => h) (Or.inl ⟨by rfl, fun w' hSw => by go_simp; with_reducible rfl⟩) hH ?_
    simp only [Act.put, List.getElem_toArray, List.getElem_cons_succ, List.getElem_cons_zero, List.setIfInBounds_toArray, List.set_cons_zero, List.set_cons_succ]
    refine wpAnyH_ready (rs := [5]) (by kernel_rfl) (by simp) ?_
    refine AllReadyH.cons rfl (fun K hK => ?_) AllReadyH.nil
    try simp only [List.getElem_toArray, List.getElem_cons_succ, List.getElem_cons_zero]
    go_simp
    go_at_call 90
    refine (putU_at _ go 0 _ _ y0 tO _ (show Arr w.drew go tO _ from hO1) (by simp [hL, Lib.leBytes_length]) (by omega) ly0).mono ?_
    rintro e w5 ⟨rfl, hO2, hg5⟩
    refine hK.out _ _ (hH.upd hg5 (by simp [hL, Lib.leBytes_length]) hO2) (fun hH => ?_)
    clear hK K
    try simp only [Act.put, List.getElem_toArray, List.getElem_cons_succ, List.getElem_cons_zero, List.setIfInBounds_toArray, List.set_cons_zero, List.set_cons_succ]
    refine wpAnyH_done (by kernel_rfl) ?_ _
    have hg0 := grown_trans' (grown_drewN hg0 1) hg5
    clear hH hg5
    go_wp2_with fail
    refine wp_region_held_drew (S := fun w' => GH w5 w' go 16 tO) (by kernel_rfl) (GH.start hO2 (by simp [hL, Lib.leBytes_length])) (fun hH => ?_)
    refine wpAnyH_take (i := 0) (v := ?_) rfl (by kernel_rfl) (by kernel_rfl) (by kernel_rfl) (fun _ _ _ h => h) (Or.inl ⟨by rfl, fun w' hSw => by go_simp; with_reducible rfl⟩) hH ?_
    simp only [Act.put, List.getElem_toArray, List.getElem_cons_succ, List.getElem_cons_zero, List.setIfInBounds_toArray, List.set_cons_zero, List.set_cons_succ]
    refine wpAnyH_take (i := 1) (v := ?_) rfl (by kernel_rfl) (by kernel_rfl) (by kernel_rfl) (fun _ _ _ h => h) (Or.inl ⟨by rfl, fun w' hSw => by go_simp; with_reducible rfl⟩) hH ?_
    simp only [Act.put, List.getElem_toArray, List.getElem_cons_succ, List.getElem_cons_zero, List.setIfInBounds_toArray, List.set_cons_zero, List.set_cons_succ]
    refine wpAnyH_take (i := 2) (v := ?_) rfl (by kernel_rfl) (by kernel_rfl) (by kernel_rfl) (fun _ _ _ h => h) (Or.inl ⟨by rfl, fun w' hSw => by go_simp; with_reducible rfl⟩) hH ?_
    simp only [Act.put, List.getElem_toArray, List.getElem_cons_succ, List.getElem_cons_zero, List.setIfInBounds_toArray, List.set_cons_zero, List.set_cons_succ]
    refine wpAnyH_take (i := 3) (v := ?_) rfl (by kernel_rfl) (by kernel_rfl) (by kernel_rfl) (fun _ _ _ h => h) (Or.inl ⟨by rfl, fun w' hSw => by go_simp; with_reducible rfl⟩) hH ?_
    simp only [Act.put, List.getElem_toArray, List.getElem_cons_succ, List.getElem_cons_zero, List.setIfInBounds_toArray, List.set_cons_zero, List.set_cons_succ]
    refine wpAnyH_take (i := 4) (v := ?_) rfl (by kernel_rfl) (by kernel_rfl) (by kernel_rfl) (fun _ _ _ h => h) (Or.inl ⟨by rfl, fun w' hSw => by go_simp; with_reducible rfl⟩) hH ?_
    simp only [Act.put, List.getElem_toArray, List.getElem_cons_succ, List.getElem_cons_zero, List.setIfInBounds_toArray, List.set_cons_zero, List.set_cons_succ]
    refine wpAnyH_ready (rs := [5]) (by kernel_rfl) (by simp) ?_
    refine AllReadyH.cons rfl (fun K hK => ?_) AllReadyH.nil
    try simp only [List.getElem_toArray, List.getElem_cons_succ, List.getElem_cons_zero]
    go_simp
    go_at_call 90
    refine (putU_at _ go 8 _ _ y1 tO _ (show Arr w5.drew go tO _ from hO2) (by simp [hL, Lib.leBytes_length]) (by omega) ly1).mono ?_
    rintro e w6 ⟨rfl, hO3, hg6⟩
    refine hK.out _ _ (hH.upd hg6 (by simp [hL, Lib.leBytes_length]) hO3) (fun hH => ?_)
    clear hK K
    try simp only [Act.put, List.getElem_toArray, List.getElem_cons_succ, List.getElem_cons_zero, List.setIfInBounds_toArray, List.set_cons_zero, List.set_cons_succ]
    refine wpAnyH_done (by kernel_rfl) ?_ _
    have hg0 := grown_trans' (grown_drewN hg0 1) hg6
    clear hH hg6
    go_wp2_with fail
    go_end0
    have ht := tag_limbs hh x0 x1 x2 d0 d1 b0 b1 b2 d0 d1 s0 s1 y0 y1 k0 k1 hok HX.out lx0 lx1 ld0 ld1 E0.out E1.out E2.out (Or.inr ⟨HB2.out, rfl, rfl⟩) Q0.out Q1.out ly0 ly1
    refine ⟨rfl, ?_, hg0⟩
    rw [← ht]
    have el : (L.take 0 ++ Lib.leBytes 8 y0 ++ L.drop (0 + 8)).take 8 ++ Lib.leBytes 8 y1 ++ (L.take 0 ++ Lib.leBytes 8 y0 ++ L.drop (0 + 8)).drop (8 + 8) = Lib.leBytes 8 y0 ++ Lib.leBytes 8 y1 := by
      rw [List.take_zero, List.nil_append, List.take_append_of_le_length (by rw [Lib.leBytes_length]; omega), List.take_of_length_le (by rw [Lib.leBytes_length]; omega), List.drop_of_length_le (by simp [Lib.leBytes_length, hL]), List.append_nil]
    rw [el] at hO3
    exact hO3
end Go.Proofs.YtkocgogpbammaaaDoor

/- Poly1305's MAC in the package: Write and Sum as they are called. Conditions: as each states. -/

namespace Go.Proofs.YtkocgogpbammaaaDoor
open Go.RowKit

set_option maxRecDepth 100000 in
set_option maxHeartbeats 1000000 in
theorem mwrite0_any (w : World) (g : Nat) (ky M p : List UInt8) (a : Option Addr) (cap : Nat) (hky : ky.length = 32) (hM : MacAt w g ky M) (h0 : M.length % 16 = 0) (ha : At w a (u8s p)) (hcap : p.length ≤ cap) (hne : ∀ b o s, a = some ⟨b, o, s⟩ → b ≠ g) (hp : p.length ≤ 1099511627776) :
    Calls Tryd.prog 72 #[.pointer (some ⟨g, 0, none⟩), .slice a p.length cap] w fun e w' => e = .returned (.tuple #[.int .i64 (p.length : Int), .nilIface]) ∧ MacAt w' g ky (M ++ p) ∧ w.grownBy w' (some g) := by
  have HM := Lib.hid hM
  obtain ⟨hh, buf, _, hbl, _, _, hA⟩ := hM
  have c24 := hA.cellE (macC_fin hh ky buf (M.length % 16) hbl)
  clear hA
  go_enter Tryd.func72, Tryd.ntmps72
  go_wp2_with fail
  refine (gwrite0_any w g ky M p a cap hky HM.out h0 ha hcap hne hp).mono ?_
  rintro e w1 ⟨rfl, hM1, hg1⟩
  go_wp2_with fail
  go_ret2
  exact ⟨rfl, hM1, hg1⟩
set_option maxRecDepth 100000 in
set_option maxHeartbeats 1000000 in
theorem mwriteF_any (w : World) (g : Nat) (ky M p : List UInt8) (b o cap : Nat) (hky : ky.length = 32) (hM : MacAt w g ky M) (h0 : 0 < M.length % 16) (hpl : M.length % 16 + p.length = 16) (ha : w.rangeAt b o (u8s p)) (hcap : p.length ≤ cap) (hnb : b ≠ g) :
    Calls Tryd.prog 72 #[.pointer (some ⟨g, 0, none⟩), .slice (some ⟨b, o, none⟩) p.length cap] w fun e w' => e = .returned (.tuple #[.int .i64 (p.length : Int), .nilIface]) ∧ MacAt w' g ky (M ++ p) ∧ w.grownBy w' (some g) := by
  have HM := Lib.hid hM
  obtain ⟨hh, buf, _, hbl, _, _, hA⟩ := hM
  have c24 := hA.cellE (macC_fin hh ky buf (M.length % 16) hbl)
  have HPL := Lib.hid hpl
  clear hA hpl
  go_enter Tryd.func72, Tryd.ntmps72
  go_wp2_with fail
  refine (gwriteF_any w g ky M p b o cap hky HM.out h0 HPL.out ha hcap hnb).mono ?_
  rintro e w1 ⟨rfl, hM1, hg1⟩
  go_wp2_with fail
  go_ret2
  exact ⟨rfl, hM1, hg1⟩

section
variable {ops : Array Oper} {rest : List Oper} {o : Oper} {a : Act} {w : World} {Q : Exit → Act → World → Prop}
/-- A load of several cells in the midst of a block. -/
theorem wpList_loadMid (hgd : o.guard = none) (ty : TypeId) (x : Operand) (ho : o.op = .load ty x) (b f : Nat) (hx : a.eval x = .pointer (some ⟨b, f, none⟩)) (cs : List Value) (d : TypeDesc) (hS : w.rangeAt b f cs)
    (hu : Tryd.prog.underlying ty = some d) (hd : d.isRow = true) (hi : (Tryd.prog.info? ty).map (·.size) = some cs.length) (h : wpList Tryd.prog ops Q rest (a.put o.dst (.agg cs.toArray)) w) : wpList Tryd.prog ops Q (o :: rest) a w := by
  refine wpList_plain hgd fun K hK => ?_
  unfold Oper.wp execOp
  simp only [ho, hx, Instr.loadAt, Instr.sureAddr, Sem.run_bind, Sem.run_pure, Result.andThen_ok, run_loadVar_mid w b f ty cs d hS hu hd hi]
  exact hK _ _ h
/-- A store into a block that the value fills. -/
theorem wpList_storeG (hgd : o.guard = none) (ty : TypeId) (x y : Operand) (ho : o.op = .store ty x y) (g : Nat) (t : TypeId) (vs old : List Value) (hi : (Tryd.prog.info? ty).map (·.size) = some vs.length) (hold : old.length = vs.length) (h1 : ∀ u ∈ vs, u.oneCell' = true) (hx : a.eval x = .pointer (some ⟨g, 0, none⟩)) (hy : a.eval y = .agg vs.toArray) (hR : Arr w g t old)
    (h : ∀ w', Arr w' g t vs → w.grownBy w' (some g) → wpList Tryd.prog ops Q rest (a.put o.dst undef) w') : wpList Tryd.prog ops Q (o :: rest) a w :=
  wpList_store_row hgd _ x y ho g vs.toArray hx hy _ old.toArray hR (by rw [hi]; simp) (by simp [hold]) (by rw [all_oneCell_toArray h1])
    (h _ (setRow_heap w g _ _ _ (0, 0) hR) ⟨rfl, rfl, rfl, by simp [World.setRow], fun k _ hk => setRow_other w g k _ (fun e => hk (by rw [e]))⟩)
/-- append(s, r...) where there is room: bytes laid behind the slice's end, in its own block. -/
theorem wpList_appRoom (hgd : o.guard = none) (s x : Operand) (ho : o.op = .call { callee := .builtin .append, args := #[s, x], argTypes := #[23, 23] })
    (b f n c : Nat) (t : TypeId) (old : List Value) (hs : a.eval s = .slice (some ⟨b, f, none⟩) n c) (ad : Addr) (m mc : Nat) (news : List Value) (hx : a.eval x = .slice (some ad) m mc) (hm : news.length = m) (hn : ∀ j u, news[j]? = some u → w.cell? (ad.add j) = some u) (h1 : ∀ u ∈ news, u.oneCell' = true)
    (hroom : n + m ≤ c) (hA : Arr w b t old) (hfit : f + n + m ≤ old.length)
    (h : ∀ w', Arr w' b t (old.take (f + n) ++ news ++ old.drop (f + n + m)) → w.grownBy w' (some b) → wpList Tryd.prog ops Q rest (a.put o.dst (.slice (some ⟨b, f, none⟩) (n + m) c)) w') : wpList Tryd.prog ops Q (o :: rest) a w := by
  obtain ⟨i, hi, hz0, hz1, hz2⟩ := info_parts sty8.info
  refine wpList_plain hgd fun K hK => ?_
  have hr := run_append_room_cells (P := Tryd.prog) w 23 o.type 5 i Tryd.underlying23 hi b f n c ad m mc news (by rw [hz1, hm]; simp [Value.cells]) hn h1 hroom
    (fun j hj => by rw [hz1]; simp only [Value.cells, List.size_toArray, List.length_cons, List.length_nil, Nat.zero_add, Nat.mul_one]; rw [hA.cell (f + n + j) (by omega)]; rfl) (fun j hj => hA.fr _)
  rw [hz1] at hr
  simp only [Value.cells, List.size_toArray, List.length_cons, List.length_nil, Nat.zero_add, Nat.mul_one] at hr
  unfold Oper.wp execOp
  simp only [ho, resolve, invoke, builtin, Sem.run_bind, Sem.run_pure, Result.andThen_ok, List.map_toArray, List.map_cons, List.map_nil, hs, hx, hr]
  subst hm
  exact hK _ _ (h _ (arr_setCells news (f + n) _ _ hA hfit) (grown_setCells _ _ _ _ (World.grownBy.refl _ _)))
end
theorem mst_und : ∃ fs, Tryd.prog.underlying 128 = some (.struct fs) := ⟨_, Tryd.underlying128⟩
theorem mst_size : (Tryd.prog.info? 128).map (·.size) = some 7 := by kernel_rfl
theorem mst_isRow (d : TypeDesc) (fs) (h : d = .struct fs) : d.isRow = true := by subst h; rfl

set_option maxRecDepth 100000 in
set_option maxHeartbeats 2000000 in
theorem gsum_any (w : World) (g go : Nat) (tO : TypeId) (ky M L : List UInt8) (hky : ky.length = 32) (hM : MacAt w g ky M) (h0 : M.length % 16 = 0) (hO : Arr w go tO (u8s L)) (hL : L.length = 16) (hne : go ≠ g) :
    Calls Tryd.prog 73 #[.pointer (some ⟨g, 0, none⟩), .pointer (some ⟨go, 0, none⟩)] w fun e w' => e = .returned (.tuple #[]) ∧ Arr w' go tO (u8s (polyT ky M)) ∧ w.grownBy w' (some go) := by
  obtain ⟨hh, buf, hok, hbl, hpoly, hbuf, hA⟩ := hM
  rw [h0] at hA
  have HP : Hid (hh % p5 = polyA (rN ky) 0 M) := Lib.hid (by rw [hpoly, List.take_of_length_le (by omega)])
  clear hpoly hbuf
  obtain ⟨fs, hu⟩ := mst_und
  obtain ⟨vs, hvs⟩ : ∃ vs, vs = stK hh (wd ky 0 &&& 1152921487695413247) (wd ky 8 &&& 1152921487695413244) (wd ky 16) (wd ky 24) [] := ⟨_, rfl⟩
  have hvl : vs.length = 7 := by rw [hvs]; rfl
  have hmv : macC hh ky buf 0 = vs ++ (u8s buf ++ [.int .i64 (0 : Nat), .bool false]) := by rw [hvs]; rfl
  have hrg : w.rangeAt g 0 vs := by
    intro j v hj
    have h := hA.range j v
    rw [hmv] at h
    exact h (by rw [List.getElem?_append_left (List.getElem?_eq_some_iff.1 hj).1]; exact hj)
  have h1c : ∀ u ∈ vs, u.oneCell' = true := by
    rw [hvs]; intro u hu
    simp only [stK, stC, List.mem_cons, List.not_mem_nil, or_false] at hu
    rcases hu with rfl | rfl | rfl | rfl | rfl | rfl | rfl <;> rfl
  have c23 := hA.cellE (macC_off hh ky buf 0 hbl)
  simp only [Int.natCast_zero] at c23
  have hN : Arr (w.alloc (.cells #[.int .u64 0, .int .u64 0, .int .u64 0, .int .u64 0, .int .u64 0, .int .u64 0, .int .u64 0] 128)) w.heap.size 128 [.int .u64 0, .int .u64 0, .int .u64 0, .int .u64 0, .int .u64 0, .int .u64 0, .int .u64 0] := heap_alloc_new w _
  have hb1 := below_alloc w (.cells #[.int .u64 0, .int .u64 0, .int .u64 0, .int .u64 0, .int .u64 0, .int .u64 0, .int .u64 0] 128)
  have hA1 := hA.below hb1
  have hO1 := hO.below hb1
  have hlg := hA.lt
  have hlo := hO.lt
  have HVS := Lib.hid hvs
  clear hmv hvs
  go_enter Tryd.func73, Tryd.ntmps73
  go_wp2_with (first | (refine wpList_loadMid rfl 128 (.tmp 7) rfl g 0 rfl vs (.struct fs) hrg hu rfl (by rw [mst_size, hvl]) ?_) | (refine wpList_storeG rfl 128 (.tmp 4) (.tmp 8) rfl w.heap.size _ vs _ (by rw [mst_size, hvl]) (by rw [hvl]; rfl) h1c rfl rfl hN ?_; intro w2 hN2 hg2; refine Hid.out ?_))
  have hA2 := hA1.kept hg2 (by omega)
  have hO2 := hO1.kept hg2 (by omega)
  have c23' := hA2.cellE (macC_off hh ky buf 0 hbl)
  simp only [Int.natCast_zero] at c23'
  have hb2 := bkept hb1 hg2 (Nat.le_refl _) hb1.size
  rw [HVS.out] at hN2
  clear hN hb1 hA1 hO1 hg2 c23
  refine Lib.hid ?_
  go_wp2_with fail
  refine (finalize_any w2 go w.heap.size _ tO hh _ _ (wd ky 16) (wd ky 24) [] L hok (wd_lt _ _) (wd_lt _ _) hN2 hO2 hL (by omega)).mono ?_
  rintro e w3 ⟨rfl, hO3, hg3⟩
  go_wp2_with fail
  go_end0
  refine ⟨rfl, ?_, below_then_grown hb2 hg3⟩
  rw [HP.out, ← sN_words ky hky] at hO3
  exact hO3
end Go.Proofs.YtkocgogpbammaaaDoor

/- Poly1305's MAC in the package: Sum behind a text, and what chacha20poly1305 writes into it. Conditions: as each states. -/

namespace Go.Proofs.YtkocgogpbammaaaDoor
open Go.RowKit

/-- All blocks but those of S are as they were. -/
structure Keeps (w w' : World) (S : Nat → Prop) : Prop where
  os : w'.os = w.os
  tape : w'.tape = w.tape
  output : w'.output = w.output
  size : w.heap.size ≤ w'.heap.size
  block : ∀ k, k < w.heap.size → ¬ S k → w'.heap[k]? = w.heap[k]?
section
variable {w w1 w2 : World} {S T : Nat → Prop}
theorem Keeps.refl (w : World) (S : Nat → Prop) : Keeps w w S := ⟨rfl, rfl, rfl, Nat.le_refl _, fun _ _ _ => rfl⟩
theorem Keeps.trans (h : Keeps w w1 S) (k : Keeps w1 w2 S) : Keeps w w2 S :=
  ⟨k.os.trans h.os, k.tape.trans h.tape, k.output.trans h.output, Nat.le_trans h.size k.size, fun i hi hn => (k.block i (Nat.lt_of_lt_of_le hi h.size) hn).trans (h.block i hi hn)⟩
theorem Keeps.mono (h : Keeps w w1 S) (hST : ∀ k, k < w.heap.size → S k → T k) : Keeps w w1 T := ⟨h.os, h.tape, h.output, h.size, fun k hk hn => h.block k hk (fun hs => hn (hST k hk hs))⟩
theorem Keeps.of_below (h : Below w.heap.size w w1) (S : Nat → Prop) : Keeps w w1 S := ⟨h.os, h.tape, h.output, h.size, fun k hk _ => h.block k hk⟩
theorem Keeps.of_grown {g : Nat} (h : w.grownBy w1 (some g)) (hg : S g) : Keeps w w1 S := ⟨h.os, h.tape, h.output, h.size, fun k hk hn => h.block k hk (fun e => hn (by rw [← Option.some.inj e] at hg; exact hg))⟩
theorem Keeps.drewN (h : Keeps w w1 S) (n : Nat) : Keeps w (w1.drewN n) S := ⟨h.os, h.tape, h.output, h.size, h.block⟩
theorem Keeps.set (h : Keeps w w1 S) (g k : Nat) (v : Value) (hg : S g) : Keeps w (w1.setCell ⟨g, k, none⟩ v) S :=
  h.trans (Keeps.of_grown (grown_set0 (World.grownBy.refl w1 (some g)) k v) hg)
theorem Keeps.arr {g : Nat} {t : TypeId} {vs : List Value} (h : Keeps w w1 S) (hA : Arr w g t vs) (hg : ¬ S g) : Arr w1 g t vs := (h.block g hA.lt hg).trans hA
theorem Keeps.range {g o : Nat} {vs : List Value} (h : Keeps w w1 S) (hA : w.rangeAt g o vs) (hg : ¬ S g) : w1.rangeAt g o vs := by
  intro j v hj
  have h1 := hA j v hj
  exact (World.cell?_of_block (a := ⟨g, o + j, none⟩) (h.block g (World.block_lt_of_cell? w _ h1) hg)).trans h1
theorem Keeps.grown {g : Nat} (h : Keeps w w1 S) (hS : ∀ k, k < w.heap.size → S k → k = g) : w.grownBy w1 (some g) := ⟨h.os, h.tape, h.output, h.size, fun k hk hne => h.block k hk (fun hs => hne (by rw [hS k hk hs]))⟩
theorem Keeps.below (h : Keeps w w1 S) (hS : ∀ k, k < w.heap.size → ¬ S k) : Below w.heap.size w w1 := ⟨h.os, h.tape, h.output, h.size, fun k hk => h.block k hk (hS k hk)⟩
end
def zer16b : List UInt8 := [0, 0, 0, 0, 0, 0, 0, 0, 0, 0, 0, 0, 0, 0, 0, 0]

set_option maxRecDepth 100000 in
set_option maxHeartbeats 2000000 in
theorem msum_any (w : World) (g gb f c : Nat) (tB : TypeId) (ky M : List UInt8) (old : List Value) (hky : ky.length = 32) (hM : MacAt w g ky M) (h0 : M.length % 16 = 0) (hB : Arr w gb tB old) (hf : f + 16 ≤ old.length) (hc : 16 ≤ c) (hne : gb ≠ g) :
    Calls Tryd.prog 67 #[.pointer (some ⟨g, 0, none⟩), .slice (some ⟨gb, f, none⟩) 0 c] w fun e w' => e = .returned (.slice (some ⟨gb, f, none⟩) 16 c) ∧ Arr w' gb tB (old.take f ++ u8s (polyT ky M) ++ old.drop (f + 16)) ∧ Keeps w w' (fun k => k = g ∨ k = gb) := by
  have hN : Arr (w.alloc (.cells (u8s zer16b).toArray 129)) w.heap.size 129 (u8s zer16b) := arr_new w _ _
  have hb1 := below_alloc w (.cells (u8s zer16b).toArray 129)
  have hM1 := hM.below hb1
  have hB1 := hB.below hb1
  have hlg := hM.lt
  have hlb := hB.lt
  go_enter Tryd.func67, Tryd.ntmps67
  go_wp2_with fail
  refine (gsum_any _ g w.heap.size 129 ky M zer16b hky hM1 h0 hN rfl (by omega)).mono ?_
  rintro e w2 ⟨rfl, hO2, hg2⟩
  have hM2 := hM1.kept hg2 (by omega)
  have hB2 := hB1.kept hg2 (by omega)
  have hk2 : Keeps w w2 (fun k => k = g ∨ k = gb) := ((Keeps.of_below hb1 (fun k => k = w.heap.size)).trans (Keeps.of_grown hg2 rfl)).mono (fun k hk hs => by omega)
  clear hM1 hB1 hN hb1 hg2
  obtain ⟨hh, buf, _, hbl, _, _, hA⟩ := hM2
  rw [h0] at hA
  have c24 := hA.cellE (macC_fin hh ky buf 0 hbl)
  have f24 := hA.fr 24
  have hB3 : Arr (w2.setCell ⟨g, 24, none⟩ (.bool true)) gb tB old := hB2.other hne
  have hO3 : Arr (w2.setCell ⟨g, 24, none⟩ (.bool true)) w.heap.size 129 (u8s (polyT ky M)) := hO2.other (by omega)
  have hk3 := hk2.set g 24 (.bool true) (Or.inl rfl)
  have hn : ∀ j u, (u8s (polyT ky M))[j]? = some u → (w2.setCell ⟨g, 24, none⟩ (.bool true)).cell? ((⟨w.heap.size, 0, none⟩ : Addr).add j) = some u := by
    intro j u hj
    rw [Lib.addr_add]; exact hO3.range j u hj
  have HN := Lib.hid hn
  clear hA hB2 hO2 hk2 hn
  go_wp2_with (refine wpList_appRoom rfl _ _ rfl gb f 0 c tB old rfl ⟨w.heap.size, 0, none⟩ 16 16 (u8s (polyT ky M)) rfl (by simp) HN.out (u8s_oneCell _) (by omega) hB3 (by omega) ?_; intro w4 hB4 hg4)
  go_ret
  exact ⟨rfl, hB4, hk3.trans (Keeps.of_grown hg4 (Or.inr rfl))⟩

/-- The zeros that fill up a piece. -/
def padN (n : Nat) : Nat := (16 - n % 16) % 16
def padB (l : List UInt8) : List UInt8 := l ++ List.replicate (padN l.length) 0
theorem padB_len (l : List UInt8) : (padB l).length % 16 = 0 := by simp only [padB, padN, List.length_append, List.length_replicate]; omega
theorem u8s_zer (n : Nat) (h : n ≤ 16) : (u8s zer16b).take n = u8s (List.replicate n 0) := by
  apply List.ext_getElem (by simp [zer16b]; omega)
  intro j h1 h2
  simp only [u8s_length, List.length_replicate] at h2
  rw [List.getElem_take, u8s_get, u8s_get]
  have h3 : ∀ x ∈ zer16b, x = 0 := by decide
  rw [h3 _ (List.getElem_mem _), List.getElem_replicate]

set_option maxRecDepth 100000 in
set_option maxHeartbeats 2000000 in
theorem wpad_any (w : World) (g : Nat) (ky M p : List UInt8) (a : Option Addr) (cap : Nat) (hky : ky.length = 32) (hM : MacAt w g ky M) (h0 : M.length % 16 = 0) (ha : At w a (u8s p)) (hcap : p.length ≤ cap) (hne : ∀ b o s, a = some ⟨b, o, s⟩ → b ≠ g) (hp : p.length ≤ 1099511627776) :
    Calls Tryd.prog 65 #[.pointer (some ⟨g, 0, none⟩), .slice a p.length cap] w fun e w' => e = .returned (.tuple #[]) ∧ MacAt w' g ky (M ++ padB p) ∧ w.grownBy w' (some g) := by
  obtain ⟨r, hr⟩ : ∃ r, r = p.length % 16 := ⟨_, rfl⟩
  have lr : r < 16 := by omega
  have em : (p.length : Int).tmod 16 = (r : Int) := by rw [Int.tmod_eq_emod_of_nonneg (by omega)]; omega
  have HR := Lib.hid hr
  clear hr
  go_enter Tryd.func65, Tryd.ntmps65
  go_wp2_with fail
  refine (mwrite0_any w g ky M p a cap hky hM h0 ha hcap hne hp).mono ?_
  rintro e w1 ⟨rfl, hM1, hg1⟩
  by_cases hr0 : r = 0
  · have d0 : ((r : Int) != 0) = false := by simp; omega
    have HZ := Lib.hid hr0
    have d1 : (!decide (r = 0)) = false := by simp; omega
    clear hr0
    go_wp2_with fail
    go_end0
    refine ⟨rfl, ?_, hg1⟩
    have e1 : padB p = p := by
      have h1 := HR.out; have h2 := HZ.out
      simp only [padB, padN]; rw [show (16 - p.length % 16) % 16 = 0 by omega]; simp
    rw [e1]; exact hM1
  · have d0 : ((r : Int) != 0) = true := by simp; omega
    have d1 : (!decide (r = 0)) = true := by simp; omega
    obtain ⟨n, hn⟩ : ∃ n, n = 16 - r := ⟨_, rfl⟩
    have e16 : IntKind.i64.wrap (16 - (r : Int)) = (n : Int) := (IntWalk.i64_in _ (by omega)).trans (by omega)
    have ln : n ≤ 16 := by omega
    have j0 : (0 : Int) ≤ (n : Int) := by omega
    have j1 : (n : Int) ≤ 16 := by omega
    have HNR := Lib.hid hn
    clear hn
    have hN : Arr (w1.alloc (.cells (u8s zer16b).toArray 129)) w1.heap.size 129 (u8s zer16b) := arr_new w1 _ _
    have hb1 := below_alloc w1 (.cells (u8s zer16b).toArray 129)
    have hM2 := hM1.below hb1
    have hlt := hM1.lt
    have hrg : (w1.alloc (.cells (u8s zer16b).toArray 129)).rangeAt w1.heap.size 0 (u8s (List.replicate n 0)) := by
      intro j v hj
      rw [← u8s_zer n ln, List.getElem?_take] at hj
      split at hj
      · exact hN.range j v hj
      · cases hj
    have hl1 : (M ++ p).length % 16 = r := by rw [List.length_append]; have := HR.out; omega
    have HRG := Lib.hid hrg
    have hcon := mwriteF_any _ g ky (M ++ p) (List.replicate n 0) w1.heap.size 0 16 hky hM2 (by omega) (by rw [List.length_replicate]; have := HNR.out; omega) HRG.out (by rw [List.length_replicate]; exact ln) (by omega)
    rw [List.length_replicate] at hcon
    have HCON := Lib.hid hcon
    clear hrg hcon hl1 hN
    go_wp2_with fail
    refine HCON.out.mono ?_
    rintro e w3 ⟨rfl, hM3, hg3⟩
    go_wp2_with fail
    go_end0
    refine ⟨rfl, ?_, grown_trans' hg1 (below_then_grown hb1 hg3)⟩
    have e1 : M ++ padB p = M ++ p ++ List.replicate n 0 := by
      have h1 := HR.out; have h2 := HNR.out
      simp only [padB, padN]; rw [show (16 - p.length % 16) % 16 = n by omega, List.append_assoc]
    rw [e1]; exact hM3
end Go.Proofs.YtkocgogpbammaaaDoor

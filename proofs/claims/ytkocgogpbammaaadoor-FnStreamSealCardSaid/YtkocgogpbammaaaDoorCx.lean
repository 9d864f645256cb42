/- The cipher's XORKeyStream on a text in place. Conditions: a fresh buffer; a counter that does not pass 2^32. (Printed by wip/genxk.py.) -/
import Derived.Test.YtkocgogpbammaaaDoorCb
import Derived.Test.YtkocgogpbammaaaDoorPy
import Derived.Deep.MidRow
set_option linter.unusedVariables false
set_option linter.unusedSimpArgs false
namespace Go.Proofs.YtkocgogpbammaaaDoor
open Go.RowKit

theorem wpList_copyV {ops : Array Oper} {rest : List Oper} {o : Oper} {a : Act} {w : World} {Q : Exit → Act → World → Prop} {TS TS2 e T : TypeId} (hu : Tryd.prog.underlying TS = some (.slice e)) (hz : (Tryd.prog.info? e).map (·.size) = some 1) (hgd : o.guard = none) (d s : Operand)
    (ho : o.op = .call { callee := .builtin .copy, args := #[d, s], argTypes := #[TS, TS2] })
    (g go dn dc b so sn sc : Nat) (old news : List Value) (hn : news.length = Nat.min sn dn) (hd : a.eval d = .slice (some ⟨g, go, none⟩) dn dc) (hs : a.eval s = .slice (some ⟨b, so, none⟩) sn sc) (hg : Arr w g T old) (hat : w.rangeAt b so news) (hfit : go + news.length ≤ old.length) (h1 : ∀ u ∈ news, u.oneCell' = true)
    (h : ∀ w', Arr w' g T (old.take go ++ news ++ old.drop (go + news.length)) → w.grownBy w' (some g) → wpList Tryd.prog ops Q rest (a.put o.dst (goInt news.length)) w') : wpList Tryd.prog ops Q (o :: rest) a w := by
  refine wpList_plain hgd fun K hK => ?_
  have hrun := run_copy_cells (P := Tryd.prog) w TS TS2 o.type e g go dn dc ⟨b, so, none⟩ sn sc news hu hz hn
    (fun j v hj => by rw [Addr.add_mid]; exact hat j v hj)
    (fun j hj => by rw [hg.cell (go + j) (by omega)]; rfl) (fun j hj => hg.fr _) h1
  have h3 := arr_setCells news go w _ hg hfit
  have h2 := hK _ _ (h _ h3 (grown_setCells news go w w (World.grownBy.refl _ _)))
  unfold Oper.wp
  simp [execOp, ho, resolve, invoke, builtin, hd, hs, hrun, Result.andThen]
  exact h2
theorem b64_size' : (Tryd.prog.info? 61).map (·.size) = some 64 := by kernel_rfl
theorem range_piece {w : World} {g : Nat} {t : TypeId} {pre mid post : List Value} (h : Arr w g t (pre ++ mid ++ post)) (o : Nat) (ho : pre.length = o) : w.rangeAt g o mid := by
  intro j v hj
  obtain ⟨hl, rfl⟩ := List.getElem?_eq_some_iff.1 hj
  have h2 := h.cell (o + j) (by simp; omega)
  rw [h2]; congr 1
  subst ho
  rw [List.getElem_append_left (by simp; omega), List.getElem_append_right (by omega)]
  congr 1; omega
theorem seg_over (pre post : List Value) (buf p : List UInt8) (k : Nat) (hk : pre.length = k) (hp : p.length ≤ buf.length) :
    (pre ++ u8s buf ++ post).take k ++ u8s p ++ (pre ++ u8s buf ++ post).drop (k + p.length) = pre ++ u8s (p ++ buf.drop p.length) ++ post := by
  subst hk
  rw [List.append_assoc pre, List.take_left, ← List.drop_drop, List.drop_left, List.drop_append_of_le_length (by simpa using hp)]
  simp [u8s, List.map_drop]
theorem cph_over (kw nw ps : List Nat) (cnt len : Nat) (pd : Bool) (buf p : List UInt8) (hk : kw.length = 8) (hn : nw.length = 3) (hb : buf.length = 64) (hp : p.length ≤ 64) :
    (cphC kw cnt nw buf len pd ps).take 12 ++ u8s p ++ (cphC kw cnt nw buf len pd ps).drop (12 + p.length) = cphC kw cnt nw (p ++ buf.drop p.length) len pd ps := by
  rw [cph_seg, cph_seg]
  exact seg_over _ _ buf p 12 (by simp [hk, hn]) (by omega)

set_option maxRecDepth 100000 in
set_option maxHeartbeats 2000000 in
theorem blocks69_any (same : Bool) (w : World) (gc g o : Nat) (t : TypeId) (A B : List Value) (kw : List Nat) (cnt : Nat) (nw : List Nat) (buf l : List UInt8) (len : Nat) (pd : Bool) (ps : List Nat) (nb n cd cs : Nat)
    (hkw : kw.length = 8) (hnw : nw.length = 3) (hps : ps.length = 12) (hkb : ∀ x ∈ kw, x < 4294967296) (hnb : ∀ x ∈ nw, x < 4294967296) (hpd : pd = true → PC kw nw ps) (hX : XI same w gc g o t A B kw cnt nw buf l len pd ps)
    (hn : n = 64 * nb) (hl : n ≤ l.length) (hc : cnt + nb < 4294967296) (hcd : n ≤ cd) (hcs : n ≤ cs) (hbig : n ≤ 1099511627776) :
    Calls Tryd.prog 69 #[.pointer (some ⟨gc, 0, none⟩), .slice (some ⟨g, o, none⟩) n cd, .slice (some ⟨g, o, none⟩) n cs] w fun e w' => e = .returned (.tuple #[]) ∧
      ∃ ps', PC kw nw ps' ∧ XI same w' gc g o t A B kw (cnt + nb) nw buf (XM (ksf kw cnt nw) n l) len true ps' ∧ Keeps w w' (twoS gc g) := by
  have HC := Lib.hid (blocks_any same w gc g o t A B kw cnt nw buf l len pd ps nb n cd cs hkw hnw hps hkb hnb hpd hX hn hl hc hcd hcs hbig)
  clear hn
  go_enter Tryd.func69, Tryd.ntmps69
  go_wp2_with fail
  refine HC.out.mono ?_
  rintro e w1 ⟨rfl, h⟩
  go_wp2_with fail
  go_end0
  exact ⟨rfl, h⟩
theorem XM_take_pre (f : Nat → UInt8) (m : Nat) (l z : List UInt8) (hm : l.length ≤ m) : (XM f m (l ++ z)).take l.length = XM f l.length l := by
  apply List.ext_getElem (by simp)
  intro j h1 h2
  have hj : j < l.length := by simpa using h2
  simp only [XM, List.getElem_take, List.getElem_mapIdx]
  rw [List.getElem_append_left hj, if_pos (by omega), if_pos hj]
def fullN (n : Nat) : Nat := 64 * (n / 64)
set_option maxRecDepth 100000 in
set_option maxHeartbeats 8000000 in
theorem xksA (w : World) (gc g o : Nat) (t : TypeId) (A B : List Value) (kw : List Nat) (cnt : Nat) (nw : List Nat) (buf l : List UInt8) (pd : Bool) (ps : List Nat) (n cd cs : Nat)
    (hkw : kw.length = 8) (hnw : nw.length = 3) (hps : ps.length = 12) (hkb : ∀ x ∈ kw, x < 4294967296) (hnb : ∀ x ∈ nw, x < 4294967296) (hpd : pd = true → PC kw nw ps)
    (hX : XI false w gc g o t A B kw cnt nw buf l 0 pd ps) (hn : n = l.length) (hc : cnt + (n + 63) / 64 < 4294967296) (h0 : 0 < n) (hcd : n ≤ cd) (hcs : n ≤ cs) (hfd : fullN n < cd) (hfs : fullN n < cs) (hbig : n ≤ 1099511627776) (hfu : fullN n = 0) :
    Calls Tryd.prog 62 #[.pointer (some ⟨gc, 0, none⟩), .slice (some ⟨g, o, none⟩) n cd, .slice (some ⟨g, o, none⟩) n cs] w fun e w' => e = .returned (.tuple #[]) ∧
      ∃ buf' len' ps', buf'.length = 64 ∧ len' < 64 ∧ PC kw nw ps' ∧ XI false w' gc g o t A B kw (cnt + (n + 63) / 64) nw buf' (XM (ksf kw cnt nw) n l) len' true ps' ∧ Keeps w w' (twoS gc g) := by
  obtain ⟨hne, hAo, hbl, hG, hT⟩ := hX
  have c8 := hG.cellE (cph_cnt kw nw ps cnt 0 pd buf hkw)
  have c76 := hG.cellE (cph_tail kw nw ps cnt 0 pd buf hkw hnw hbl 0 _ rfl)
  have c77 := hG.cellE (cph_tail kw nw ps cnt 0 pd buf hkw hnw hbl 1 _ rfl)
  have f8 := hG.fr 8
  have f76 := hG.fr 76
  have f77 := hG.fr 77
  simp only [Nat.add_zero, Nat.reduceAdd, Int.natCast_zero] at c76 c77
  have hlen := cph_length kw nw ps cnt 0 pd buf hkw hnw hbl
  have HN := Lib.hid hn
  clear hn
  have hlt : n < 64 := by unfold fullN at hfu; omega
  have lcnt : cnt + 1 < 4294967296 := by omega
  clear hfu hfd hfs hc
  obtain ⟨c1, hc1⟩ : ∃ c1, c1 = cnt + 1 := ⟨_, rfl⟩
  have e64 : ((n : Int) + 64 - 1) / 64 = 1 := by omega
  have e64m : (n : Int) % 64 = (n : Int) := by omega
  have eu : IntKind.u64.wrap (cnt : Int) = (cnt : Int) := IntWalk.u64_in _ (by omega)
  have ea : IntKind.u64.wrap ((cnt : Int) + 1) = (c1 : Int) := (IntWalk.u64_in _ (by omega)).trans (by omega)
  have lc1 : c1 < 4294967296 := by omega
  have dc1 : decide ((c1 : Int) > 4294967296) = false := decide_eq_false (by omega)
  have dc2 : decide (4294967296 < c1) = false := decide_eq_false (by omega)
  have dc3 : ((c1 : Int) == 4294967296) = false := by simp; omega
  have dn0 : decide ((n : Int) > 0) = true := decide_eq_true (by omega)
  have dn1 : decide (0 < n) = true := decide_eq_true (by omega)
  clear hc1
  have sl : ∀ c : Nat, n ≤ c → ∀ W, (Instr.sliceAt 23 (.slice (some ⟨g, o, none⟩) n c) (some (.int .i64 0)) none none).run Tryd.prog W = .ok (.slice (some ⟨g, o, none⟩) n c) W := fun c hc W => by
    have h := run_from W .i64 g o n c 0 (Nat.zero_le _) hc
    rw [show fromO o c 0 = o by unfold fromO; split <;> rfl] at h
    exact h
  have sl1 := sl cd hcd
  have sl2 := sl cs hcs
  clear sl
  have i1 : (n : Int) ≤ (cd : Int) := by omega
  have i2 : (n : Int) ≤ (cs : Int) := by omega
  have n0 : ((n : Int) == 0) = false := by simp; omega
  have d0 : decide ((n : Int) = 0) = false := decide_eq_false (by omega)
  have d1 : decide ((n : Int) < (n : Int)) = false := decide_eq_false (by omega)
  go_enter Tryd.func62, Tryd.ntmps62
  go_wp2_with fail
  go_quiet (fail)
  have hG1 : Arr (w.drewN nq) gc 123 _ := hG
  have hz64 : (u8s zer64).toArray.size = 64 := by simp [zer64]
  go_wp2_with (refine wpList_store_mid rfl 61 (.tmp 191) (.tmp 189) rfl gc 12 (u8s zer64).toArray rfl rfl (fun j hj => ⟨by rw [hG1.cell (12 + j) (by rw [hlen]; rw [hz64] at hj; omega)]; rfl, hG1.fr _⟩) (by rw [b64_size', hz64]) (by rw [all_oneCell_toArray (u8s_oneCell _)]) ?_; refine Hid.out ?_)
  refine Lib.hid ?_
  have hG2 := arr_setCells (u8s zer64) 12 _ _ hG1 (by rw [hlen]; simp [zer64]; omega)
  have e64z : (u8s zer64).length = zer64.length := u8s_length _
  rw [e64z, cph_over kw nw ps cnt 0 pd buf zer64 hkw hnw hbl (by simp [zer64]), show zer64 ++ buf.drop zer64.length = zer64 by rw [List.drop_of_length_le (by rw [hbl]; simp [zer64]), List.append_nil]] at hG2
  have hg2 := grown_setCells (u8s zer64) 12 w _ (grown_drewN (World.grownBy.refl w (some gc)) nq)
  generalize World.setCells _ _ _ _ = w2 at hG2 hg2 ⊢
  have hT2 := hT.kept hg2 hne
  clear hG1 hG hT hz64 e64z c8 c76 c77 f8 f76 f77 hlen
  have hr2 := range_piece hT2 o hAo
  have hnl : n = (u8s l).length := by rw [u8s_length]; exact HN.out
  have hlen2 : (cphC kw cnt nw zer64 0 pd ps).length = 79 + ps.length := cph_length kw nw ps cnt 0 pd zer64 hkw hnw (by simp [zer64])
  have hmin : (u8s l).length = Nat.min n 64 := by rw [← hnl]; exact (Nat.min_eq_left (by omega)).symm
  have hfit : 12 + (u8s l).length ≤ (cphC kw cnt nw zer64 0 pd ps).length := by rw [← hnl, hlen2]; omega
  clear hnl
  go_wp2_with (refine wpList_copyV bs_undE u8_size1 rfl (.tmp 195) (.tmp 196) rfl gc 12 64 64 g o n cs (cphC kw cnt nw zer64 0 pd ps) (u8s l) hmin rfl rfl hG2 hr2 hfit (u8s_oneCell _) ?_; intro w3 hG3 hg3; refine Hid.out ?_)
  refine Lib.hid ?_
  have hll : l.length ≤ 64 := by rw [← HN.out]; omega
  rw [u8s_length, cph_over kw nw ps cnt 0 pd zer64 l hkw hnw (by simp [zer64]) hll] at hG3
  obtain ⟨b3, hb3⟩ : ∃ x, x = l ++ zer64.drop l.length := ⟨_, rfl⟩
  rw [← hb3] at hG3
  have hbl3 : b3.length = 64 := by rw [hb3]; simp [zer64]; omega
  have HB3 := Lib.hid hb3
  have hT3 := hT2.kept hg3 hne
  have hg3' := grown_trans' hg2 hg3
  clear hb3 hG2 hg2 hg3 hr2 hmin hfit hlen2 hT2
  go_wp2_with fail
  refine wp_region_still_tail 9 (by as_aux_lemma => kernel_rfl) (by as_aux_lemma => kernel_rfl) ?_
  change wpStill _ _ w3.drew (fun a' => wpList _ _ _ _ a' w3.drew) _ _
  have hG4 : Arr w3.drew gc 123 _ := hG3
  have hT4 : Arr w3.drew g t _ := hT3
  have hg4 := grown_drewN hg3' 1
  generalize hw4 : w3.drew = w4 at hG4 hT4 ⊢
  have hg4 : w.grownBy w4 (some gc) := by rw [← hw4]; exact hg4
  clear hw4 hG3 hT3 hg3'
  simp only [List.take_succ_cons, List.take_zero, List.drop_succ_cons, List.drop_zero]
  repeat still_step
  refine wpStill_nil ?_
  go_wp2_with fail
  have hX4 : XI true w4 gc gc 12 123 [] [] kw cnt nw buf b3 0 pd ps := ⟨rfl, rfl, hbl3, hG4⟩
  refine (blocks69_any true w4 gc gc 12 123 [] [] kw cnt nw buf b3 0 pd ps 1 64 64 64 hkw hnw hps hkb hnb hpd hX4 rfl (by omega) lcnt (Nat.le_refl _) (Nat.le_refl _) (by decide)).mono ?_
  rintro e w5 ⟨rfl, ps', hPC, hX5, hK5⟩
  obtain ⟨_, _, hl5, hG5⟩ := hX5
  obtain ⟨b5, hb5⟩ : ∃ x, x = XM (ksf kw cnt nw) 64 b3 := ⟨_, rfl⟩
  rw [← hb5] at hl5 hG5
  have hT5 := hK5.arr hT4 (by rintro (h | h) <;> exact hne h)
  obtain ⟨P, hP⟩ : ∃ x, x = b5.take n := ⟨_, rfl⟩
  have hPl : P.length = n := by rw [hP, List.length_take]; omega
  have hPX : P = XM (ksf kw cnt nw) n l := by rw [hP, hb5, HB3.out, HN.out, XM_take_pre _ _ _ _ (by omega)]
  have HPX := Lib.hid hPX
  have HPL := Lib.hid hPl
  have hr5 : w5.rangeAt gc 12 (u8s P) := by
    have h := hG5
    rw [cph_seg, ← List.take_append_drop n b5, ← hP, u8s_append, ← List.append_assoc, List.append_assoc (_ ++ u8s P)] at h
    exact range_piece h 12 (by simp [hkw, hnw])
  have hl6 : (cphC kw (cnt + 1) nw b5 0 true ps').length = 79 + ps'.length := cph_length kw nw ps' (cnt + 1) 0 true b5 hkw hnw hl5
  have hnP : (u8s P).length = Nat.min 64 n := by rw [u8s_length, hPl]; exact (Nat.min_eq_right (by omega)).symm
  have hPl2 : (u8s P).length = n := by rw [u8s_length]; exact hPl
  have hfit5 : o + (u8s P).length ≤ (A ++ u8s l ++ B).length := by rw [hPl2]; simp only [List.length_append, u8s_length, hAo, ← HN.out]; omega
  have ew : IntKind.i64.wrap (64 - (n : Int)) = ((64 - n : Nat) : Int) := (IntWalk.i64_in _ (by omega)).trans (by omega)
  obtain ⟨m, hm⟩ : ∃ x, x = 64 - n := ⟨_, rfl⟩
  rw [← hm] at ew
  have lm : m < 64 := by omega
  have HPC := Lib.hid hPC
  clear hP hPl hPX hb5 hm hPC
  go_wp2_with (refine wpList_copyV bs_undE u8_size1 rfl (.tmp 209) (.tmp 213) rfl g o n cd gc 12 64 64 (A ++ u8s l ++ B) (u8s P) hnP rfl rfl hT5 hr5 hfit5 (u8s_oneCell _) ?_; intro w6 hT6 hg6; have hG6 := hG5.kept hg6 (fun e => hne e.symm); have c76 := hG6.cellE (cph_tail kw nw ps' (cnt + 1) 0 true b5 hkw hnw hl5 0 _ rfl); have f76 := hG6.fr 76; simp only [Nat.add_zero] at c76; rw [hPl2])
  go_end0
  have hG7 := hG6.set 76 (.int .i64 (m : Int)) (by rw [hl6]; omega)
  rw [cph_setLen kw nw ps' (cnt + 1) 0 true b5 hkw hnw hl5] at hG7
  rw [u8s_length, seg_over A B l P o hAo (by rw [HPL.out, ← HN.out]; exact Nat.le_refl _), List.drop_of_length_le (by rw [HPL.out, ← HN.out]; exact Nat.le_refl _), List.append_nil, HPX.out] at hT6
  have hT7 := hT6.other (i := 76) (u := .int .i64 (m : Int)) hne
  refine ⟨rfl, b5, m, ps', hl5, lm, HPC.out, ?_, ?_⟩
  · rw [show (n + 63) / 64 = 1 by omega]
    exact ⟨hne, hAo, hl5, hG7, hT7⟩
  · refine (((Keeps.of_grown hg4 (Or.inl rfl)).trans (hK5.mono ?_)).trans (Keeps.of_grown hg6 (Or.inr rfl))).set gc 76 _ (Or.inl rfl)
    rintro k _ (h | h) <;> exact Or.inl h

theorem ksf_shift (kw nw : List Nat) (cnt q j : Nat) : ksf kw (cnt + q) nw j = ksf kw cnt nw (64 * q + j) := by
  unfold ksf
  rw [show (64 * q + j) / 64 = q + j / 64 by omega, show (64 * q + j) % 64 = j % 64 by omega, Nat.add_assoc]
theorem XM_split (f f' : Nat → UInt8) (fu n : Nat) (L : List UInt8) (hn : fu + n = L.length) (hf : ∀ j, f' j = f (fu + j)) :
    (XM f fu L).take fu ++ XM f' n ((XM f fu L).drop fu) = XM f L.length L := by
  apply List.ext_getElem (by simp; omega)
  intro j h1 h2
  have hj : j < L.length := by simpa using h2
  by_cases h : j < fu
  · rw [List.getElem_append_left (by simp; omega)]
    simp [XM, h, hj]
  · rw [List.getElem_append_right (by simp; omega)]
    have e : fu + (j - fu) = j := by omega
    simp [XM, hf, show min fu L.length = fu by omega, e, h, hj, show j - fu < n by omega]

set_option maxRecDepth 100000 in
set_option maxHeartbeats 8000000 in
theorem xksB (w : World) (gc g O : Nat) (t : TypeId) (A0 B : List Value) (kw : List Nat) (CNT : Nat) (nw : List Nat) (BUF L : List UInt8) (PD : Bool) (PS : List Nat) (N CD CS : Nat)
    (hkw : kw.length = 8) (hnw : nw.length = 3) (hPS : PS.length = 12) (hkb : ∀ x ∈ kw, x < 4294967296) (hnb : ∀ x ∈ nw, x < 4294967296) (hPD : PD = true → PC kw nw PS)
    (hX : XI false w gc g O t A0 B kw CNT nw BUF L 0 PD PS) (hN : N = L.length) (hc : CNT + (N + 63) / 64 < 4294967296) (hcd : N ≤ CD) (hcs : N ≤ CS) (hfd : fullN N < CD) (hfs : fullN N < CS) (hbig : N ≤ 1099511627776) (h64 : 64 ≤ N) :
    Calls Tryd.prog 62 #[.pointer (some ⟨gc, 0, none⟩), .slice (some ⟨g, O, none⟩) N CD, .slice (some ⟨g, O, none⟩) N CS] w fun e w' => e = .returned (.tuple #[]) ∧
      ∃ buf' len' ps', buf'.length = 64 ∧ len' < 64 ∧ PC kw nw ps' ∧ XI false w' gc g O t A0 B kw (CNT + (N + 63) / 64) nw buf' (XM (ksf kw CNT nw) N L) len' true ps' ∧ Keeps w w' (twoS gc g) := by
  have hX0 := hX
  obtain ⟨hne, hAO, hBL, hG0, hT0⟩ := hX
  have c8 := hG0.cellE (cph_cnt kw nw PS CNT 0 PD BUF hkw)
  have c76 := hG0.cellE (cph_tail kw nw PS CNT 0 PD BUF hkw hnw hBL 0 _ rfl)
  have c77 := hG0.cellE (cph_tail kw nw PS CNT 0 PD BUF hkw hnw hBL 1 _ rfl)
  have f8 := hG0.fr 8
  have f76 := hG0.fr 76
  have f77 := hG0.fr 77
  simp only [Nat.add_zero, Nat.reduceAdd, Int.natCast_zero] at c76 c77
  obtain ⟨q, hq⟩ : ∃ x, x = N / 64 := ⟨_, rfl⟩
  obtain ⟨fu, hfu⟩ : ∃ x, x = 64 * q := ⟨_, rfl⟩
  obtain ⟨n, hn⟩ : ∃ x, x = N - fu := ⟨_, rfl⟩
  obtain ⟨K, hK⟩ : ∃ x, x = (N + 63) / 64 := ⟨_, rfl⟩
  obtain ⟨c1, hc1⟩ : ∃ x, x = CNT + K := ⟨_, rfl⟩
  have efn : fullN N = fu := by unfold fullN; rw [hfu, hq]
  rw [efn] at hfd hfs
  have efu : (N : Int) - (N : Int) % 64 = (fu : Int) := by omega
  have efu2 : IntKind.i64.wrap (fu : Int) = (fu : Int) := IntWalk.i64_in _ (by omega)
  have eK : ((N : Int) + 64 - 1) / 64 = (K : Int) := by omega
  have eu : IntKind.u64.wrap (CNT : Int) = (CNT : Int) := IntWalk.u64_in _ (by omega)
  have ea : IntKind.u64.wrap ((CNT : Int) + (K : Int)) = (c1 : Int) := (IntWalk.u64_in _ (by omega)).trans (by omega)
  have lc1 : c1 < 4294967296 := by omega
  have dc1 : decide ((c1 : Int) > 4294967296) = false := decide_eq_false (by omega)
  have dc2 : decide (4294967296 < c1) = false := decide_eq_false (by omega)
  have dc3 : ((c1 : Int) == 4294967296) = false := by simp; omega
  have i1 : (N : Int) ≤ (CD : Int) := by omega
  have i2 : (N : Int) ≤ (CS : Int) := by omega
  have n0 : ((N : Int) == 0) = false := by simp; omega
  have d0 : decide ((N : Int) = 0) = false := decide_eq_false (by omega)
  have d1 : decide ((N : Int) < (N : Int)) = false := decide_eq_false (by omega)
  have df0 : decide ((fu : Int) > 0) = true := decide_eq_true (by omega)
  have df1 : decide (0 < fu) = true := decide_eq_true (by omega)
  have jf0 : (0 : Int) ≤ (fu : Int) := by omega
  have jf1 : (fu : Int) ≤ (CD : Int) := by omega
  have jf2 : (fu : Int) ≤ (CS : Int) := by omega
  have lfu : fu ≤ L.length := by omega
  have HN0 := Lib.hid hN
  have HQ := Lib.hid hq
  have HFU := Lib.hid hfu
  have HNN := Lib.hid hn
  have HK := Lib.hid hK
  have HC1 := Lib.hid hc1
  have lq : CNT + q < 4294967296 := by omega
  have lfc : fu ≤ CD := by omega
  have lfs : fu ≤ CS := by omega
  have lfb : fu ≤ 1099511627776 := by omega
  have ln64 : n < 64 := by omega
  have lq1 : 0 < n → CNT + q + 1 < 4294967296 := by omega
  have lq2 : CNT + q + 1 ≤ 4294967296 := by omega
  have hno : fromO O CD fu = O + fu := by unfold fromO; rw [if_neg (by omega)]
  have hno2 : fromO O CS fu = O + fu := by unfold fromO; rw [if_neg (by omega)]
  have sl1 : ∀ W, (Instr.sliceAt 23 (.slice (some ⟨g, O, none⟩) N CD) (some (.int .i64 (fu : Int))) none none).run Tryd.prog W = .ok (.slice (some ⟨g, O + fu, none⟩) n (CD - fu)) W := fun W => by
    have h := run_from W .i64 g O N CD fu (by omega) hcd
    rw [hno] at h; rw [hn]; exact h
  have sl2 : ∀ W, (Instr.sliceAt 23 (.slice (some ⟨g, O, none⟩) N CS) (some (.int .i64 (fu : Int))) none none).run Tryd.prog W = .ok (.slice (some ⟨g, O + fu, none⟩) n (CS - fu)) W := fun W => by
    have h := run_from W .i64 g O N CS fu (by omega) hcs
    rw [hno2] at h; rw [hn]; exact h
  clear hN hq hfu hn hK hc1 efn hno hno2 hc
  go_enter Tryd.func62, Tryd.ntmps62
  go_wp2_with fail
  refine wp_region_still_tail 7 (by as_aux_lemma => kernel_rfl) (by as_aux_lemma => kernel_rfl) ?_
  change wpStill _ _ w.drew (fun a' => wpList _ _ _ _ a' w.drew) _ _
  simp only [List.take_succ_cons, List.take_zero, List.drop_succ_cons, List.drop_zero]
  repeat still_step
  refine wpStill_nil ?_
  go_wp2_with fail
  have hXd : XI false w.drew gc g O t A0 B kw CNT nw BUF L 0 PD PS := hX0.drew
  refine (blocks69_any false w.drew gc g O t A0 B kw CNT nw BUF L 0 PD PS q fu CD CS hkw hnw hPS hkb hnb hPD hXd HFU.out lfu lq lfc lfs lfb).mono ?_
  rintro e w1 ⟨rfl, ps, hPC0, hX1, hK1⟩
  obtain ⟨_, _, hbl, hG, hT1⟩ := hX1
  obtain ⟨L1, hL1⟩ : ∃ x, x = XM (ksf kw CNT nw) fu L := ⟨_, rfl⟩
  rw [← hL1] at hT1
  have hL1l : L1.length = L.length := by rw [hL1, XM_length]
  obtain ⟨l, hl⟩ : ∃ x, x = L1.drop fu := ⟨_, rfl⟩
  obtain ⟨A, hA⟩ : ∃ x, x = A0 ++ u8s (L1.take fu) := ⟨_, rfl⟩
  obtain ⟨o, ho⟩ : ∃ x, x = O + fu := ⟨_, rfl⟩
  obtain ⟨cd, hcd'⟩ : ∃ x, x = CD - fu := ⟨_, rfl⟩
  obtain ⟨cs, hcs'⟩ : ∃ x, x = CS - fu := ⟨_, rfl⟩
  obtain ⟨cnt, hcnt⟩ : ∃ x, x = CNT + q := ⟨_, rfl⟩
  rw [← ho, ← hcd'] at sl1
  rw [← ho, ← hcs'] at sl2
  rw [← hcnt] at hG lq1 lq2 lq
  have hAo : A.length = o := by rw [hA, ho]; simp only [List.length_append, u8s_length, List.length_take, hAO, hL1l]; omega
  have hT : Arr w1 g t (A ++ u8s l ++ B) := by
    rw [← List.take_append_drop fu L1, u8s_append, ← List.append_assoc, ← hl, ← hA] at hT1; exact hT1
  have hnl0 : n = l.length := by rw [hl, List.length_drop, hL1l, HNN.out, HN0.out]
  have HN := Lib.hid hnl0
  have HL1 := Lib.hid hL1
  have HL := Lib.hid hl
  have HA := Lib.hid hA
  have HO := Lib.hid ho
  have HCT := Lib.hid hcnt
  have HK1 := Lib.hid hK1
  have HPC0 := Lib.hid hPC0
  have hps : ps.length = 12 := by
    obtain ⟨a1, a2, a3, a4, b1, b2, b3, b4, e1, e2, e3, e4, h, _⟩ := hPC0
    rw [h]; rfl
  clear hL1 hl hA ho hcd' hcs' hcnt hnl0 hT1 hK1 hPC0 hX0 hXd c8 c76 c77 f8 f76 f77
  skip
  go_wp2_with fail
  go_quiet (fail)
  have c8 := hG.cellE (cph_cnt kw nw ps cnt 0 true BUF hkw)
  have c76 := hG.cellE (cph_tail kw nw ps cnt 0 true BUF hkw hnw hbl 0 _ rfl)
  have c77 := hG.cellE (cph_tail kw nw ps cnt 0 true BUF hkw hnw hbl 1 _ rfl)
  have f8 := hG.fr 8
  have f76 := hG.fr 76
  have f77 := hG.fr 77
  simp only [Nat.add_zero, Nat.reduceAdd, Int.natCast_zero] at c76 c77
  have hlen := cph_length kw nw ps cnt 0 true BUF hkw hnw hbl
  obtain ⟨c2, hc2⟩ : ∃ x, x = cnt + 1 := ⟨_, rfl⟩
  have eu2 : IntKind.u64.wrap (cnt : Int) = (cnt : Int) := IntWalk.u64_in _ (by omega)
  have eb : IntKind.u64.wrap ((cnt : Int) + 1) = (c2 : Int) := (IntWalk.u64_in _ (by omega)).trans (by omega)
  have lc2 : c2 ≤ 4294967296 := by omega
  have dd1 : decide ((c2 : Int) > 4294967296) = false := decide_eq_false (by omega)
  have dd2 : decide (4294967296 < c2) = false := decide_eq_false (by omega)
  have HC2 := Lib.hid hc2
  clear hc2
  have hXM : A ++ u8s (XM (ksf kw cnt nw) n l) ++ B = A0 ++ u8s (XM (ksf kw CNT nw) N L) ++ B := by
    have hs := XM_split (ksf kw CNT nw) (ksf kw cnt nw) fu n L (by have h1 := HNN.out; have h2 := HN0.out; omega) (fun j => by rw [HCT.out, HFU.out]; exact ksf_shift _ _ _ _ _)
    rw [HA.out, HL.out, HL1.out, HN0.out, List.append_assoc A0, ← u8s_append, hs]
  have HXM := Lib.hid hXM
  have HE0 : Hid (n = 0 → CNT + (N + 63) / 64 = cnt) := Lib.hid (fun h => by have h1 := HNN.out; have h2 := HCT.out; have h3 := HFU.out; have h4 := HQ.out; omega)
  have HE1 : Hid (0 < n → CNT + (N + 63) / 64 = cnt + 1) := Lib.hid (fun h => by have h1 := HNN.out; have h2 := HCT.out; have h3 := HFU.out; have h4 := HQ.out; omega)
  clear hXM
  rcases Nat.eq_zero_or_pos n with h0 | h0
  · have dn0 : decide ((n : Int) > 0) = false := decide_eq_false (by omega)
    have dn1 : decide (0 < n) = false := decide_eq_false (by omega)
    have H0 := Lib.hid h0
    clear h0
    go_wp2_with fail
    go_end0
    refine ⟨rfl, BUF, 0, ps, hbl, by decide, HPC0.out, ?_, ?_⟩
    · rw [HE0.out H0.out]
      have hx := HXM.out
      rw [H0.out, XM_zero] at hx
      refine ⟨hne, hAO, hbl, hG, ?_⟩
      rw [← hx]; exact hT
    · exact (((Keeps.refl w (twoS gc g)).drewN 1).trans HK1.out).drewN nq
  · have dn0 : decide ((n : Int) > 0) = true := decide_eq_true (by omega)
    have dn1 : decide (0 < n) = true := decide_eq_true (by omega)
    have hlt := ln64
    have hG1 : Arr (w1.drewN nq) gc 123 _ := hG
    have hz64 : (u8s zer64).toArray.size = 64 := by simp [zer64]
    go_wp2_with (refine wpList_store_mid rfl 61 (.tmp 191) (.tmp 189) rfl gc 12 (u8s zer64).toArray rfl rfl (fun j hj => ⟨by rw [hG1.cell (12 + j) (by rw [hlen]; rw [hz64] at hj; omega)]; rfl, hG1.fr _⟩) (by rw [b64_size', hz64]) (by rw [all_oneCell_toArray (u8s_oneCell _)]) ?_; refine Hid.out ?_)
    refine Lib.hid ?_
    have hG2 := arr_setCells (u8s zer64) 12 _ _ hG1 (by rw [hlen]; simp [zer64]; omega)
    have e64z : (u8s zer64).length = zer64.length := u8s_length _
    rw [e64z, cph_over kw nw ps cnt 0 true BUF zer64 hkw hnw hbl (by simp [zer64]), show zer64 ++ BUF.drop zer64.length = zer64 by rw [List.drop_of_length_le (by rw [hbl]; simp [zer64]), List.append_nil]] at hG2
    have hg2 := grown_setCells (u8s zer64) 12 w1 _ (grown_drewN (World.grownBy.refl w1 (some gc)) nq)
    generalize World.setCells _ _ _ _ = w2 at hG2 hg2 ⊢
    have hT2 := hT.kept hg2 hne
    clear hG1 hG hT hz64 e64z c8 c76 c77 f8 f76 f77 hlen
    have hr2 := range_piece hT2 o hAo
    have hnl : n = (u8s l).length := by rw [u8s_length]; exact HN.out
    have hlen2 : (cphC kw cnt nw zer64 0 true ps).length = 79 + ps.length := cph_length kw nw ps cnt 0 true zer64 hkw hnw (by simp [zer64])
    have hmin : (u8s l).length = Nat.min n 64 := by rw [← hnl]; exact (Nat.min_eq_left (by omega)).symm
    have hfit : 12 + (u8s l).length ≤ (cphC kw cnt nw zer64 0 true ps).length := by rw [← hnl, hlen2]; omega
    clear hnl
    go_wp2_with (refine wpList_copyV bs_undE u8_size1 rfl (.tmp 195) (.tmp 196) rfl gc 12 64 64 g o n cs (cphC kw cnt nw zer64 0 true ps) (u8s l) hmin rfl rfl hG2 hr2 hfit (u8s_oneCell _) ?_; intro w3 hG3 hg3; refine Hid.out ?_)
    refine Lib.hid ?_
    have hll : l.length ≤ 64 := by rw [← HN.out]; omega
    rw [u8s_length, cph_over kw nw ps cnt 0 true zer64 l hkw hnw (by simp [zer64]) hll] at hG3
    obtain ⟨b3, hb3⟩ : ∃ x, x = l ++ zer64.drop l.length := ⟨_, rfl⟩
    rw [← hb3] at hG3
    have hbl3 : b3.length = 64 := by rw [hb3]; simp [zer64]; omega
    have HB3 := Lib.hid hb3
    have hT3 := hT2.kept hg3 hne
    have hg3' := grown_trans' hg2 hg3
    clear hb3 hG2 hg2 hg3 hr2 hmin hfit hlen2 hT2
    go_wp2_with fail
    refine wp_region_still_tail 9 (by as_aux_lemma => kernel_rfl) (by as_aux_lemma => kernel_rfl) ?_
    change wpStill _ _ w3.drew (fun a' => wpList _ _ _ _ a' w3.drew) _ _
    have hG4 : Arr w3.drew gc 123 _ := hG3
    have hT4 : Arr w3.drew g t _ := hT3
    have hg4 := grown_drewN hg3' 1
    generalize hw4 : w3.drew = w4 at hG4 hT4 ⊢
    have hg4 : w1.grownBy w4 (some gc) := by rw [← hw4]; exact hg4
    clear hw4 hG3 hT3 hg3'
    simp only [List.take_succ_cons, List.take_zero, List.drop_succ_cons, List.drop_zero]
    repeat still_step
    refine wpStill_nil ?_
    go_wp2_with fail
    have hX4 : XI true w4 gc gc 12 123 [] [] kw cnt nw BUF b3 0 true ps := ⟨rfl, rfl, hbl3, hG4⟩
    refine (blocks69_any true w4 gc gc 12 123 [] [] kw cnt nw BUF b3 0 true ps 1 64 64 64 hkw hnw hps hkb hnb (fun _ => HPC0.out) hX4 rfl (by omega) (lq1 h0) (Nat.le_refl _) (Nat.le_refl _) (by decide)).mono ?_
    rintro e w5 ⟨rfl, ps', hPC, hX5, hK5⟩
    obtain ⟨_, _, hl5, hG5⟩ := hX5
    obtain ⟨b5, hb5⟩ : ∃ x, x = XM (ksf kw cnt nw) 64 b3 := ⟨_, rfl⟩
    rw [← hb5] at hl5 hG5
    have hT5 := hK5.arr hT4 (by rintro (h | h) <;> exact hne h)
    obtain ⟨P, hP⟩ : ∃ x, x = b5.take n := ⟨_, rfl⟩
    have hPl : P.length = n := by rw [hP, List.length_take]; omega
    have hPX : P = XM (ksf kw cnt nw) n l := by rw [hP, hb5, HB3.out, HN.out, XM_take_pre _ _ _ _ (by omega)]
    have HPX := Lib.hid hPX
    have HPL := Lib.hid hPl
    have hr5 : w5.rangeAt gc 12 (u8s P) := by
      have h := hG5
      rw [cph_seg, ← List.take_append_drop n b5, ← hP, u8s_append, ← List.append_assoc, List.append_assoc (_ ++ u8s P)] at h
      exact range_piece h 12 (by simp [hkw, hnw])
    have hl6 : (cphC kw (cnt + 1) nw b5 0 true ps').length = 79 + ps'.length := cph_length kw nw ps' (cnt + 1) 0 true b5 hkw hnw hl5
    have hnP : (u8s P).length = Nat.min 64 n := by rw [u8s_length, hPl]; exact (Nat.min_eq_right (by omega)).symm
    have hPl2 : (u8s P).length = n := by rw [u8s_length]; exact hPl
    have hfit5 : o + (u8s P).length ≤ (A ++ u8s l ++ B).length := by rw [hPl2]; simp only [List.length_append, u8s_length, hAo, ← HN.out]; omega
    have ew : IntKind.i64.wrap (64 - (n : Int)) = ((64 - n : Nat) : Int) := (IntWalk.i64_in _ (by omega)).trans (by omega)
    obtain ⟨m, hm⟩ : ∃ x, x = 64 - n := ⟨_, rfl⟩
    rw [← hm] at ew
    have lm : m < 64 := by omega
    have HPC := Lib.hid hPC
    clear hP hPl hPX hb5 hm hPC
    go_wp2_with (refine wpList_copyV bs_undE u8_size1 rfl (.tmp 209) (.tmp 213) rfl g o n cd gc 12 64 64 (A ++ u8s l ++ B) (u8s P) hnP rfl rfl hT5 hr5 hfit5 (u8s_oneCell _) ?_; intro w6 hT6 hg6; have hG6 := hG5.kept hg6 (fun e => hne e.symm); have c76 := hG6.cellE (cph_tail kw nw ps' (cnt + 1) 0 true b5 hkw hnw hl5 0 _ rfl); have f76 := hG6.fr 76; simp only [Nat.add_zero] at c76; rw [hPl2])
    go_end0
    have hG7 := hG6.set 76 (.int .i64 (m : Int)) (by rw [hl6]; omega)
    rw [cph_setLen kw nw ps' (cnt + 1) 0 true b5 hkw hnw hl5] at hG7
    rw [u8s_length, seg_over A B l P o hAo (by rw [HPL.out, ← HN.out]; exact Nat.le_refl _), List.drop_of_length_le (by rw [HPL.out, ← HN.out]; exact Nat.le_refl _), List.append_nil, HPX.out, HXM.out] at hT6
    have hT7 := hT6.other (i := 76) (u := .int .i64 (m : Int)) hne
    refine ⟨rfl, b5, m, ps', hl5, lm, HPC.out, ?_, ?_⟩
    · rw [HE1.out h0]
      exact ⟨hne, hAO, hl5, hG7, hT7⟩
    · refine ((((((Keeps.refl w (twoS gc g)).drewN 1).trans HK1.out).trans (Keeps.of_grown hg4 (Or.inl rfl))).trans (hK5.mono ?_)).trans (Keeps.of_grown hg6 (Or.inr rfl))).set gc 76 _ (Or.inl rfl)
      rintro k _ (h | h) <;> exact Or.inl h
theorem xks_any (w : World) (gc g o : Nat) (t : TypeId) (A B : List Value) (kw : List Nat) (cnt : Nat) (nw : List Nat) (buf l : List UInt8) (pd : Bool) (ps : List Nat) (n cd cs : Nat)
    (hkw : kw.length = 8) (hnw : nw.length = 3) (hps : ps.length = 12) (hkb : ∀ x ∈ kw, x < 4294967296) (hnb : ∀ x ∈ nw, x < 4294967296) (hpd : pd = true → PC kw nw ps)
    (hX : XI false w gc g o t A B kw cnt nw buf l 0 pd ps) (hn : n = l.length) (hc : cnt + (n + 63) / 64 < 4294967296) (h0 : 0 < n) (hcd : n ≤ cd) (hcs : n ≤ cs) (hfd : fullN n < cd) (hfs : fullN n < cs) (hbig : n ≤ 1099511627776) :
    Calls Tryd.prog 62 #[.pointer (some ⟨gc, 0, none⟩), .slice (some ⟨g, o, none⟩) n cd, .slice (some ⟨g, o, none⟩) n cs] w fun e w' => e = .returned (.tuple #[]) ∧
      ∃ buf' len' ps', buf'.length = 64 ∧ len' < 64 ∧ PC kw nw ps' ∧ XI false w' gc g o t A B kw (cnt + (n + 63) / 64) nw buf' (XM (ksf kw cnt nw) n l) len' true ps' ∧ Keeps w w' (twoS gc g) := by
  by_cases h : n < 64
  · exact xksA w gc g o t A B kw cnt nw buf l pd ps n cd cs hkw hnw hps hkb hnb hpd hX hn hc h0 hcd hcs hfd hfs hbig (by unfold fullN; omega)
  · exact xksB w gc g o t A B kw cnt nw buf l pd ps n cd cs hkw hnw hps hkb hnb hpd hX hn hc hcd hcs hfd hfs hbig (by omega)
end Go.Proofs.YtkocgogpbammaaaDoor

/- The reference's StreamSeal. Conditions: a key of 32 bytes; sizes. -/
import Derived.Test.YtkocgogpbammaaaDoorCc
import Derived.Test.YtkocgogpbammaaaDoorIs
import Derived.Deep.RegionWith
import Derived.Deep.RegionLaw
set_option linter.unusedVariables false
set_option linter.unusedSimpArgs false
namespace Go.Proofs.YtkocgogpbammaaaDoor
open Go.RowKit

theorem nonceL_false (c : Nat) (h : c < 256) : nonceL c false = nonceC c := by
  unfold nonceL
  simp only [Bool.false_eq_true, if_false]
  have h1 : c / 256 = 0 := Nat.div_eq_of_lt h
  have hz : ∀ j, 1 ≤ j → c / 256 ^ j = 0 := fun j hj => by
    obtain ⟨i, rfl⟩ : ∃ i, j = i + 1 := ⟨j - 1, by omega⟩
    rw [Nat.pow_succ, Nat.mul_comm, ← Nat.div_div_eq_div_mul, h1, Nat.zero_div]
  show (List.range 12).map (nonceF c 8) = nonceC c
  simp only [List.range, List.range.loop, List.map, nonceF, nonceC]
  simp [hz]
  refine ⟨?_, ?_, ?_, ?_, ?_, ?_, ?_⟩ <;> (rw [Nat.div_eq_of_lt (by omega)]; rfl)
theorem nonceL_true (c : Nat) (h : c < 256) : nonceL c true = (nonceC c).set 11 1 := by
  rw [← nonceL_false c h]
  rfl
theorem run_uptoO (a : Option Addr) (n c k : Nat) (W : World) (hk : k ≤ c) (ha : ∀ g o s, a = some ⟨g, o, s⟩ → s = none) :
    (Instr.sliceAt 23 (.slice a n c) none (some (.int .i64 (k : Int))) none).run Tryd.prog W = .ok (.slice a k c) W := by
  match a, ha with
  | none, _ =>
    rw [run_sliceAt_slice W _ _ _ _ _ bs_und, run_slice_h W _ _ _ _ bs_und .i64 (k : Int) (by omega) (by omega)]
    simp only [bs_one, Result.andThen, sliced, Int.toNat_natCast, Nat.sub_zero]
    split <;> rfl
  | some ⟨g, o, s⟩, ha =>
    obtain rfl := ha g o s rfl
    exact run_upto W .i64 g o n c k hk

theorem own_range {w : World} {base g n c : Nat} {e : TypeId} {vs : List Value} (h : Own w base e (.slice (some ⟨g, 0, none⟩) n c) vs) (hn : 0 < vs.length) : w.rangeAt g 0 vs := by
  obtain ⟨g', c', e1, -, -, -, -, hr⟩ := h.row hn
  cases e1
  exact hr
/-- append, as one step of a region that draws. -/
theorem step_append_at {P : Program} {ops : Array Oper} {o : Oper} {a : Act} {w : World} {K : Act → World → Prop} {Q : Exit → Act → World → Prop} {E : Prop} {t e : TypeId} {z : Value} {bytes : Nat} (S : STy P t e z bytes) (hgd : o.guard = none) (s x : Operand)
    (ho : o.op = .call { callee := .builtin .append, args := #[s, x], argTypes := #[t, t] })
    (base : Nat) (v : Value) (xs : List Value) (hs : a.eval s = v) (hown : Own w base e v xs) (ad : Addr) (ys : List Value) (m c : Nat)
    (hx : a.eval x = .slice (some ad) m c) (hm : ys.length = m) (hat : ∀ j u, ys[j]? = some u → w.cell? (ad.add j) = some u) (hy : ∀ u ∈ ys, u.oneCell' = true)
    (hb : (xs.length + ys.length) * bytes ≤ 140737488355328) (h63 : xs.length + ys.length ≤ maxLen) (hbase : base ≤ w.heap.size)
    (h : ∀ v' w', Own w' base e v' (xs ++ ys) → w.grownBy w' v.ownBlock → K (a.put o.dst v') w') :
    if Region.wanted o (yielded ops a.tmps) = true then Oper.wp P o a w K Q else E := by
  subst hm
  have hw : Region.wanted o (yielded ops a.tmps) = true := by simp [Region.wanted, hgd]
  rw [if_pos hw]
  obtain ⟨i, hi, hz0, hz1, hz2⟩ := info_parts S.info
  obtain ⟨v', w', hr, h2, h3⟩ := run_append_clear (P := P) w base t o.type e i z bytes S.und hi hz0 hz1 hz2 S.one v xs hown ad c ys hat hy h63 hb hbase
  unfold Oper.wp execOp
  simp only [ho, resolve, invoke, builtin, Sem.run_bind, Sem.run_pure, Result.andThen_ok, List.map_toArray, List.map_cons, List.map_nil, hs, hx, hr]
  exact h v' w' h2 h3
/-- One chunk sealed, as the two regions call it. -/
theorem chachaC_any (w : World) (kb gn : Nat) (ta : Option Addr) (m tc : Nat) (key nonce text : List UInt8) (hk : key.length = 32) (hn : nonce.length = 12) (hm : m = text.length) (hbig : m ≤ 100000000) (hK : w.rangeAt kb 0 (u8s key)) (hNR : w.rangeAt gn 0 (u8s nonce)) (hT : At w ta (u8s text)) :
    Calls Tryd.prog 13 #[.slice (some ⟨kb, 0, none⟩) 32 32, .slice (some ⟨gn, 0, none⟩) 12 12, .slice ta m tc, .slice none 0 0] w fun e w' => ∃ g c, e = .returned (.slice (some ⟨g, 0, none⟩) (m + 16) c) ∧ w'.rangeAt g 0 (u8s (sealedOf key nonce text)) ∧ Below w.heap.size w w' := by
  subst hm
  refine (chacha_any w kb 0 32 gn 0 12 ta tc key nonce text hk hn (by decide) (by decide) hK hNR hT hbig).mono ?_
  rintro e w' ⟨v, rfl, hO, hb⟩
  obtain ⟨g, c, rfl, -, -, -, -, hr⟩ := hO.row (by rw [u8s_length, sealedOf_length]; omega)
  exact ⟨g, c, by rw [u8s_length, sealedOf_length], hr, hb⟩

set_option maxRecDepth 100000 in
set_option maxHeartbeats 8000000 in
theorem specSeal_any (w : World) (key text : List UInt8) (ta : Option Addr) (tc : Nat) (hk : key.length = 32) (hT : At w ta (u8s text)) (htc : text.length ≤ tc) (hbig : text.length ≤ 131172) :
    Calls Tryd.prog 7 #[.agg (u8s key).toArray, .slice ta text.length tc] w fun e w' => ∃ v c, e = .returned v ∧
      Own w' w.heap.size 5 v (u8s (outC key text c ++ sealedOf key ((nonceC c).set 11 1) (text.drop (65536 * c)))) ∧ canon text c ∧ text.length ≤ 65536 * (c + 1) ∧ Below w.heap.size w w' := by
  have hs2 : (u8s key).toArray.size = 32 := by simp [hk]
  have hn0 := arr_new w (u8s key) 22
  have hb0 := below_alloc w (.cells (u8s key).toArray 22)
  obtain ⟨w1, hw1⟩ : ∃ x, x = w.alloc (.cells (u8s key).toArray 22) := ⟨_, rfl⟩
  have hsz1 : w1.heap.size = w.heap.size + 1 := by rw [hw1]; exact size_alloc _ _
  rw [← hw1] at hn0 hb0
  have hE1 := Own.empty w1 w1.heap.size 5 (Nat.le_refl _)
  have hn1 := hn0.below (below_alloc w1 (.cells #[] 5))
  have hb1 := Below.alloc hb0 hb0.size (.cells #[] 5)
  rw [hsz1] at hE1
  have HW := Lib.hid hw1
  have HK := Lib.hid hk
  have HT := Lib.hid hT
  rw [hw1] at hE1 hn1 hb1
  clear hw1 hn0 hb0 hsz1 hk hT
  go_enter Tryd.func7, Tryd.ntmps7
  go_wp2_with fail
  go_loopw [1, 5, 6] (fun tv v nv wr => ∃ (c m cp : Nat) (a : Option Addr), tv = .slice a m cp ∧ nv = .int .i64 c ∧ m = text.length - 65536 * c ∧ m ≤ cp ∧ 65536 * c ≤ text.length ∧ canon text c ∧ At w a (u8s (text.drop (65536 * c))) ∧ Own wr (w.heap.size + 1) 5 v (u8s (outC key text c)) ∧ Arr wr w.heap.size 22 (u8s key) ∧ Below w.heap.size w wr ∧ w.heap.size + 1 ≤ wr.heap.size) (fun tv _ _ _ => match tv with | .slice _ m _ => m | _ => 0)
  case atStart =>
    refine ⟨0, text.length, tc, ta, rfl, rfl, by omega, htc, by omega, ?_, HT.out, hE1, hn1, hb1, by simp⟩
    by_cases h : text = []
    · exact Or.inr ⟨h, rfl⟩
    · exact Or.inl (by have := List.length_pos_iff.2 h; omega)
  case round =>
    clear hE1 hn1 hb1
    obtain ⟨c, m, cp, a, rfl, rfl, hm, hmc, hlo, hcn, hat, hO, hA, hb, hsz⟩ := hrel
    have hc2 : c ≤ 2 := by omega
    have hpl : (text.drop (65536 * c)).length = m := by rw [List.length_drop, hm]
    have hol := outC_len key text c
    have hkr : wr.rangeAt w.heap.size 0 (u8s key) := hA.range
    by_cases hlt : 65536 < m
    · have dm : decide ((m : Int) > 65536) = true := decide_eq_true (by omega)
      have dm2 : decide (65536 < m) = true := decide_eq_true hlt
      obtain ⟨g, o, rfl, hcell⟩ := hat (by rw [u8s_length, hpl]; omega)
      have hmr : w.rangeAt g o (u8s (text.drop (65536 * c))) := fun j v hj => by
        obtain ⟨hl, rfl⟩ := List.getElem?_eq_some_iff.1 hj
        exact hcell j hl
      have sl1 : ∀ W, (Instr.sliceAt 23 (.slice (some ⟨g, o, none⟩) m cp) none (some (.int .i64 65536)) none).run Tryd.prog W = .ok (.slice (some ⟨g, o, none⟩) 65536 cp) W := fun W => run_upto W .i64 g o m cp 65536 (by omega)
      obtain ⟨o2, ho2⟩ : ∃ x, x = fromO o cp 65536 := ⟨_, rfl⟩
      obtain ⟨m2, hm2⟩ : ∃ x, x = m - 65536 := ⟨_, rfl⟩
      obtain ⟨c2, hcc2⟩ : ∃ x, x = cp - 65536 := ⟨_, rfl⟩
      have sl2 : ∀ W, (Instr.sliceAt 23 (.slice (some ⟨g, o, none⟩) m cp) (some (.int .i64 65536)) none none).run Tryd.prog W = .ok (.slice (some ⟨g, o2, none⟩) m2 c2) W := fun W => by
        have h := run_from W .i64 g o m cp 65536 (by omega) hmc
        rw [← ho2, ← hm2, ← hcc2] at h
        exact h
      obtain ⟨ch, hch⟩ : ∃ x, x = chunkOf text c := ⟨_, rfl⟩
      have hchl : ch.length = 65536 := by rw [hch]; unfold chunkOf; rw [List.length_take, hpl]; omega
      have hchr : w.rangeAt g o (u8s ch) := by rw [hch]; exact range_u8_take hmr 65536
      have hat2 : At w (some ⟨g, o2, none⟩) (u8s (text.drop (65536 * (c + 1)))) := by
        have h := range_u8_drop hmr 65536
        rw [List.drop_drop, show 65536 * c + 65536 = 65536 * (c + 1) by omega] at h
        rw [show o2 = o + 65536 by rw [ho2]; unfold fromO; split <;> omega]
        exact range_at h
      have hO2 : Own wr (w.heap.size + 1) 5 _ (u8s (outC key text c)) := hO
      obtain ⟨O, hOO⟩ : ∃ O, O = u8s (outC key text c) := ⟨_, rfl⟩
      have hOl : O.length ≤ 200000 := by rw [hOO, u8s_length]; omega
      rw [← hOO] at hO
      have HOO := Lib.hid hOO
      have HCH := Lib.hid hch
      have HKL := HK.out
      have hYl : (u8s (sealedOf key (nonceC c) ch)).length = 65552 := by rw [u8s_length, sealedOf_length, hchl]
      obtain ⟨Y, hY⟩ : ∃ Y, Y = u8s (sealedOf key (nonceC c) ch) := ⟨_, rfl⟩
      have hYo : ∀ u ∈ Y, u.oneCell' = true := by rw [hY]; exact u8s_oneCell _
      rw [← hY] at hYl
      have HY := Lib.hid hY
      have q1 : (O.length + Y.length) * 1 ≤ 140737488355328 := by omega
      have q2 : O.length + Y.length ≤ maxLen := by unfold maxLen; omega
      have HN : nonceL c false = nonceC c := nonceL_false c (by omega)
      have hc9 : c < 1099511627776 := by omega
      have hcn1 : IntKind.i64.wrap ((c : Int) + 1) = ((c + 1 : Nat) : Int) := (IntWalk.i64_in _ (by omega)).trans (by omega)
      have HM2 : Hid (m2 = text.length - 65536 * (c + 1) ∧ m2 ≤ c2 ∧ 65536 * (c + 1) < text.length ∧ m2 < m) := Lib.hid (by omega)
      have HCHL := Lib.hid hchl
      clear hO2 hat hcell hmr ho2 hm2 hcc2 hch hOO hol hpl hY hchl hm hlo hcn
      have hbd : Below w.heap.size w wr.drew := ⟨hb.os, hb.tape, hb.output, hb.size, hb.block⟩
      have mixed : Tryd.prog.follows Departure.mixedOrders = true := by kernel_rfl
      go_wp2_with fail
      go_region_law (first
        | (refine step_append_at sty8 rfl (.tmp 13) (.tmp 19) rfl (w.heap.size + 1) _ O rfl hO6 ⟨g6, 0, none⟩ Y 65552 c6 rfl hYl hY6 hYo q1 q2 hs6 ?_; intro v7 w7 hO7 hg7)
        | (go_simp; go_at_call 14; refine (nonceOf_any _ c false hc9).mono ?_; rintro e w5 ⟨gn, rfl, hN5, hb5⟩; have hkr5 := range_below (w := wr.drew) hkr hb5; have hN6 := hN5; rw [HN] at hN6; have hnr5 : w5.rangeAt gn 0 (u8s (nonceC c)) := own_range hN6 (by simp [nonceC]); have hO5 := Own.below (w := wr.drew) hO hb5; have hbb5 := hbd.trans (hb5.mono hb.size); have hs5 := hb5.size; have hA5 := Arr.below (w := wr.drew) hA hb5)
        | (go_simp; go_at_call 13; refine (chachaC_any _ w.heap.size gn (some ⟨g, o, none⟩) 65536 cp key (nonceC c) ch HKL rfl HCHL.out.symm (by decide) hkr5 hnr5 (range_at (range_below hchr hbb5))).mono ?_; rintro e w6 ⟨g6, c6, rfl, hr6, hb6⟩; have hO6 := hO5.below hb6; have hbb6 := hbb5.trans (hb6.mono hbb5.size); have hA6 := hA5.below hb6; have hY6 : ∀ j u, Y[j]? = some u → w6.cell? ((⟨g6, 0, none⟩ : Addr).add j) = some u := (fun j u hj => by rw [Addr.add_mid]; exact hr6 j u (by rw [← HY.out]; exact hj)); have hs6 : w.heap.size + 1 ≤ w6.heap.size := Nat.le_trans hsz (Nat.le_trans hs5 hb6.size)))
      all_goals (
        have hA7 : Arr w7 w.heap.size 22 (u8s key) := (hg7.block _ hA6.lt (fun h => by have := (hO6.lt _ h.symm).1; omega)).trans hA6
        have hb7 := below_grown hbb6 hO6 hg7 (by omega) hbb6.size
        have hs7 := Nat.le_trans hs6 hg7.size
        have hO8 : Own w7 (w.heap.size + 1) 5 v7 (u8s (outC key text (c + 1))) := by
          rw [show outC key text (c + 1) = outC key text c ++ sealedOf key (nonceC c) (chunkOf text c) from rfl, u8s_append, ← HOO.out, ← HCH.out, ← HY.out]
          exact hO7
        clear hO7 hg7 hA6 hO6 hbb6 hY6 hr6 hb6 hO5 hbb5 hA5 hkr5 hnr5 hb5 hN5 hN6
        go_wp2_with fail
        have hm2 := HM2.out
        go_roundw
        case rel => exact ⟨c + 1, m2, c2, some ⟨g, o2, none⟩, rfl, by go_num, hm2.1, hm2.2.1, Nat.le_of_lt hm2.2.2.1, Or.inl hm2.2.2.1, hat2, hO8, hA7, hb7, hs7⟩
        case measure => exact hm2.2.2.2)
    · have dm : decide ((m : Int) > 65536) = false := decide_eq_false (by omega)
      have dm2 : decide (65536 < m) = false := decide_eq_false hlt
      obtain ⟨ch, hch⟩ : ∃ x, x = text.drop (65536 * c) := ⟨_, rfl⟩
      rw [← hch] at hat hpl
      obtain ⟨O, hOO⟩ : ∃ O, O = u8s (outC key text c) := ⟨_, rfl⟩
      have hOl : O.length ≤ 200000 := by rw [hOO, u8s_length]; omega
      rw [← hOO] at hO
      have HOO := Lib.hid hOO
      have HCH := Lib.hid hch
      have HKL := HK.out
      obtain ⟨Y, hY⟩ : ∃ Y, Y = u8s (sealedOf key ((nonceC c).set 11 1) ch) := ⟨_, rfl⟩
      have hYl : Y.length = m + 16 := by rw [hY, u8s_length, sealedOf_length, hpl]
      have hYo : ∀ u ∈ Y, u.oneCell' = true := by rw [hY]; exact u8s_oneCell _
      have HY := Lib.hid hY
      have q1 : (O.length + Y.length) * 1 ≤ 140737488355328 := by omega
      have q2 : O.length + Y.length ≤ maxLen := by unfold maxLen; omega
      have HN : nonceL c true = (nonceC c).set 11 1 := nonceL_true c (by omega)
      have hc9 : c < 1099511627776 := by omega
      have HCN := Lib.hid hcn
      have HLE : Hid (text.length ≤ 65536 * (c + 1)) := Lib.hid (by omega)
      have HCHL := Lib.hid hpl
      have hm9 : m ≤ 100000000 := by omega
      clear hch hOO hol hY hpl hm hlo hcn
      have hbd : Below w.heap.size w wr.drew := ⟨hb.os, hb.tape, hb.output, hb.size, hb.block⟩
      have mixed : Tryd.prog.follows Departure.mixedOrders = true := by kernel_rfl
      go_wp2_with fail
      go_region_law (first
        | (refine step_append_at sty8 rfl (.tmp 23) (.tmp 28) rfl (w.heap.size + 1) _ O rfl hO6 ⟨g6, 0, none⟩ Y (m + 16) c6 rfl hYl hY6 hYo q1 q2 hs6 ?_; intro v7 w7 hO7 hg7)
        | (go_simp; go_at_call 14; refine (nonceOf_any _ c true hc9).mono ?_; rintro e w5 ⟨gn, rfl, hN5, hb5⟩; have hkr5 := range_below (w := wr.drew) hkr hb5; have hN6 := hN5; rw [HN] at hN6; have hnr5 : w5.rangeAt gn 0 (u8s ((nonceC c).set 11 1)) := own_range hN6 (by simp [nonceC]); have hO5 := Own.below (w := wr.drew) hO hb5; have hbb5 := hbd.trans (hb5.mono hb.size); have hs5 := hb5.size)
        | (go_simp; go_at_call 13; refine (chachaC_any _ w.heap.size gn a m cp key ((nonceC c).set 11 1) ch HKL rfl HCHL.out.symm hm9 hkr5 hnr5 (hat.below hbb5)).mono ?_; rintro e w6 ⟨g6, c6, rfl, hr6, hb6⟩; have hO6 := hO5.below hb6; have hbb6 := hbb5.trans (hb6.mono hbb5.size); have hY6 : ∀ j u, Y[j]? = some u → w6.cell? ((⟨g6, 0, none⟩ : Addr).add j) = some u := (fun j u hj => by rw [Addr.add_mid]; exact hr6 j u (by rw [← HY.out]; exact hj)); have hs6 : w.heap.size + 1 ≤ w6.heap.size := Nat.le_trans hsz (Nat.le_trans hs5 hb6.size)))
      all_goals (
        have hb7 := below_grown hbb6 hO6 hg7 (by omega) hbb6.size
        have hO8 : Own w7 w.heap.size 5 v7 (u8s (outC key text c ++ sealedOf key ((nonceC c).set 11 1) (text.drop (65536 * c)))) := by
          rw [u8s_append, ← HOO.out, ← HCH.out, ← HY.out]
          exact hO7.mono (by omega)
        clear hO7 hg7 hO6 hbb6 hY6 hr6 hb6 hO5 hbb5 hkr5 hnr5 hb5 hN5 hN6
        go_wp2
        go_ret
        exact ⟨_, c, rfl, hO8, HCN.out, HLE.out, hb7⟩)
end Go.Proofs.YtkocgogpbammaaaDoor

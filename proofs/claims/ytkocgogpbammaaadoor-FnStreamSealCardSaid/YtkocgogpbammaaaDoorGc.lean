/- What the EncryptWriter has written behind a text: plain. Conditions: as each states. -/
import Derived.Test.YtkocgogpbammaaaDoorGf
set_option linter.unusedVariables false
set_option linter.unusedSimpArgs false
namespace Go.Proofs.YtkocgogpbammaaaDoor
open Go.RowKit

def nonceC (c : Nat) : List UInt8 := [0, 0, 0, 0, 0, 0, 0, 0, 0, 0, UInt8.ofNat c, 0]
def chunkOf (T : List UInt8) (i : Nat) : List UInt8 := (T.drop (65536 * i)).take 65536
def outC (key T : List UInt8) : Nat → List UInt8
  | 0 => []
  | c + 1 => outC key T c ++ sealedOf key (nonceC c) (chunkOf T c)
theorem nonceC_len (c : Nat) : (nonceC c).length = 12 := rfl
theorem nonceC_get (c : Nat) : (nonceC c)[10]? = some (UInt8.ofNat c) := rfl
theorem nonceC_next (c : Nat) : (nonceC c).set 10 (UInt8.ofNat c + 1) = nonceC (c + 1) := by
  have h : UInt8.ofNat c + 1 = UInt8.ofNat (c + 1) := by rw [UInt8.ofNat_add]; rfl
  rw [h]; rfl
theorem nonceC_small (c : Nat) (h : c < 200) : (UInt8.ofNat c).toNat < 255 := by rw [UInt8.toNat_ofNat']; omega
theorem chunkOf_len (T : List UInt8) (i : Nat) : (chunkOf T i).length ≤ 65536 := by unfold chunkOf; rw [List.length_take]; omega
theorem outC_len (key T : List UInt8) : ∀ c, (outC key T c).length ≤ 65552 * c
  | 0 => by simp [outC]
  | c + 1 => by
    have h1 := outC_len key T c
    have h2 := chunkOf_len T c
    simp only [outC, List.length_append, sealedOf_length]; omega
theorem chunkOf_app (T q : List UInt8) (i : Nat) (h : 65536 * (i + 1) ≤ T.length) : chunkOf (T ++ q) i = chunkOf T i := by
  unfold chunkOf
  rw [List.drop_append_of_le_length (by omega), List.take_append_of_le_length (by rw [List.length_drop]; omega)]
theorem outC_app (key T q : List UInt8) : ∀ c, 65536 * c ≤ T.length → outC key (T ++ q) c = outC key T c
  | 0, _ => rfl
  | c + 1, h => by rw [outC, outC, outC_app key T q c (by omega), chunkOf_app T q c h]

/-- The writer behind the text T, of which c chunks have gone. -/
structure WS (w : World) (b bd ga : Nat) (key T : List UInt8) (c : Nat) (row rowD : Option (Nat × Nat)) : Prop where
  es : ES w b bd ga key (nonceC c) .nilIface row rowD (T.drop (65536 * c)) (outC key T c)
  lo : 65536 * c ≤ T.length
  hi : T.length ≤ 65536 * (c + 1)

theorem rowNew.refl (w : World) (r : Option (Nat × Nat)) : rowNew w r r := fun _ h => Or.inl h
theorem rowNew.trans {w w1 : World} {r r1 r2 : Option (Nat × Nat)} (h : rowNew w r r1) (k : rowNew w1 r1 r2) (hs : w.heap.size ≤ w1.heap.size) : rowNew w r r2 := fun j hj => by
  rcases k j hj with h1 | h1
  · exact h j h1
  · exact Or.inr (by omega)
def esN (w : World) (b bd : Nat) (row rowD : Option (Nat × Nat)) (k : Nat) : Prop := esS b bd row rowD k ∨ w.heap.size ≤ k
theorem esN_of {w w1 : World} {b bd k : Nat} {row rowD row1 rowD1 : Option (Nat × Nat)} (h1 : rowNew w row row1) (h2 : rowNew w rowD rowD1) (hs : w.heap.size ≤ w1.heap.size) (h : esN w1 b bd row1 rowD1 k) : esN w b bd row rowD k := by
  rcases h with (h | h | h | h) | h
  · exact Or.inl (Or.inl h)
  · exact Or.inl (Or.inr (Or.inl h))
  · rcases h1 k h with h | h
    · exact Or.inl (Or.inr (Or.inr (Or.inl h)))
    · exact Or.inr h
  · rcases h2 k h with h | h
    · exact Or.inl (Or.inr (Or.inr (Or.inr h)))
    · exact Or.inr h
  · exact Or.inr (by omega)
/-- A block that is none of the writer's stays apart. -/
theorem apart_new {w : World} {g : Nat} {row row1 : Option (Nat × Nat)} (h : rowNew w row row1) (hg : g < w.heap.size) (hn : ¬ rowIs row g) : ¬ rowIs row1 g := fun h1 => by
  rcases h g h1 with h2 | h2
  · exact hn h2
  · omega
theorem bs_row {w : World} {b o : Nat} {T : TypeId} {R : Nat → Option Value} {row : Option (Nat × Nat)} {bs : List UInt8} (h : BV w b o T R row bs) (hb : bs ≠ []) : row ≠ none := by
  intro h0
  rw [h0] at h
  exact hb h.1
theorem ES.drewN {w : World} {b bd ga : Nat} {key nonce : List UInt8} {err : Value} {row rowD : Option (Nat × Nat)} {bs out : List UInt8} (h : ES w b bd ga key nonce err row rowD bs out) (n : Nat) : ES (w.drewN n) b bd ga key nonce err row rowD bs out :=
  ⟨h.ew, h.dv, h.ka, h.hk, h.hn, h.nb, h.ab, h.ad, h.r1, h.r2⟩
theorem ES.drew {w : World} {b bd ga : Nat} {key nonce : List UInt8} {err : Value} {row rowD : Option (Nat × Nat)} {bs out : List UInt8} (h : ES w b bd ga key nonce err row rowD bs out) : ES w.drew b bd ga key nonce err row rowD bs out :=
  ⟨h.ew, h.dv, h.ka, h.hk, h.hn, h.nb, h.ab, h.ad, h.r1, h.r2⟩
theorem WS.drewN {w : World} {b bd ga : Nat} {key T : List UInt8} {c : Nat} {row rowD : Option (Nat × Nat)} (h : WS w b bd ga key T c row rowD) (n : Nat) : WS (w.drewN n) b bd ga key T c row rowD := ⟨h.es.drewN n, h.lo, h.hi⟩
theorem WS.drew {w : World} {b bd ga : Nat} {key T : List UInt8} {c : Nat} {row rowD : Option (Nat × Nat)} (h : WS w b bd ga key T c row rowD) : WS w.drew b bd ga key T c row rowD := ⟨h.es.drew, h.lo, h.hi⟩
theorem BV.cell2 {w : World} {b o : Nat} {T : TypeId} {R : Nat → Option Value} {row : Option (Nat × Nat)} {bs : List UInt8} (h : BV w b o T R row bs) : ∃ v c lr, LibA.Three w b o T R (.slice v bs.length c) (.int .i64 0) (.int .i8 lr) := by
  match row, h with
  | none, ⟨h1, lr, h2⟩ => exact ⟨none, 0, lr, by rw [h1]; exact h2⟩
  | some (g, cap), ⟨X, ⟨_, _, _, _, _, lr, h6⟩, _⟩ => exact ⟨_, cap, lr, h6⟩
/-- Len, whatever the buffer holds. -/
theorem blenB_any (w : World) (b o : Nat) (T : TypeId) (R : Nat → Option Value) (row : Option (Nat × Nat)) (bs : List UInt8) (h : BV w b o T R row bs) (hl : bs.length ≤ 1099511627776) :
    Calls Tryd.prog 16 #[.pointer (some ⟨b, o, none⟩)] w fun e w' => e = .returned (.int .i64 (bs.length : Int)) ∧ ∃ k, w' = w.drewN k := by
  obtain ⟨v, c, lr, h3⟩ := h.cell2
  exact blen_any w b o T R v bs.length c lr h3 (by unfold maxLen; omega)
theorem range_u8_take {w : World} {g o : Nat} {p : List UInt8} (h : w.rangeAt g o (u8s p)) (n : Nat) : w.rangeAt g o (u8s (p.take n)) := by
  intro j v hj
  have hl := (List.getElem?_eq_some_iff.1 hj).1
  refine h j v ?_
  rw [← hj]
  simp only [u8s, List.map_take]
  rw [List.getElem?_take_of_lt (by simp at hl; omega)]
theorem range_u8_drop {w : World} {g o : Nat} {p : List UInt8} (h : w.rangeAt g o (u8s p)) (n : Nat) : w.rangeAt g (o + n) (u8s (p.drop n)) := by
  intro j v hj
  rw [Nat.add_assoc]
  refine h (n + j) v ?_
  rw [← hj]
  simp only [u8s, List.map_drop, List.getElem?_drop]
/-- Behind a write of q into the buffer. -/
theorem WS.wrote {w w' : World} {b bd ga : Nat} {key T q : List UInt8} {c : Nat} {row rowD : Option (Nat × Nat)} (h : WS w b bd ga key T c row rowD) (hq : T.length + q.length ≤ 65536 * (c + 1)) (g cap : Nat)
    (hrow : row = some (g, cap) ∨ w.heap.size ≤ g)
    (hE : BV w' b 2 57 (ewR (ifA ga) (ifB bd) (nonceC c) .nilIface) (some (g, cap)) (T.drop (65536 * c) ++ q)) (hK : Keeps w w' (fun k => k = b ∨ rowIs row k)) :
    WS w' b bd ga key (T ++ q) c (some (g, cap)) rowD ∧ rowNew w row (some (g, cap)) := by
  obtain ⟨⟨hEW, hDV, hKA, hkl, hnl, hbd, hab, had, hr1, hr2⟩, lo, hi⟩ := h
  have hg : rowIs row g ∨ w.heap.size ≤ g := hrow.imp (fun h => ⟨cap, h⟩) id
  have hdl := hDV.lt
  have hal := hKA.lt
  have hnb : ∀ k, rowIs row k → k ≠ bd ∧ k ≠ ga := fun k hk => ⟨(hr1 k hk).1, (hr1 k hk).2.1⟩
  refine ⟨⟨⟨?_, ?_, ?_, hkl, nonceC_len c, hbd, hab, had, ?_, hr2⟩, by rw [List.length_append]; omega, by rw [List.length_append]; exact hq⟩, ?_⟩
  · unfold EW
    rw [List.drop_append_of_le_length (by omega)]
    exact hE
  · rw [outC_app key T q c lo]
    refine hDV.kept hK ?_ ?_
    · rintro (h | h)
      · exact hbd h.symm
      · exact (hnb bd h).1 rfl
    · rintro k hk (h | h)
      · exact (hr2 k hk).1 h
      · exact (hr1 k h).2.2 hk
  · refine hK.arr hKA ?_
    rintro (h | h)
    · exact hab h
    · exact (hnb ga h).2 rfl
  · intro k hk
    rw [rowIs_some] at hk
    subst hk
    rcases hg with h | h
    · exact hr1 k h
    · exact ⟨by omega, by omega, fun hd => by have h2 := (hDV.rowLt k hd).1; omega⟩
  · intro k hk
    rw [rowIs_some] at hk
    subst hk
    exact hg
/-- Behind a chunk that has gone. -/
theorem WS.flushed {w w' : World} {b bd ga : Nat} {key T : List UInt8} {c : Nat} {row rowD row' rowD' : Option (Nat × Nat)} (h : WS w b bd ga key T c row rowD) (hf : T.length = 65536 * (c + 1))
    (hE : ES w' b bd ga key ((nonceC c).set 10 (UInt8.ofNat c + 1)) .nilIface row' rowD' [] (outC key T c ++ sealedOf key (nonceC c) (T.drop (65536 * c)))) : WS w' b bd ga key T (c + 1) row' rowD' := by
  refine ⟨?_, by omega, by omega⟩
  rw [nonceC_next] at hE
  have h1 : T.drop (65536 * (c + 1)) = [] := List.drop_of_length_le (by omega)
  have h2 : chunkOf T c = T.drop (65536 * c) := by unfold chunkOf; rw [List.take_of_length_le (by rw [List.length_drop]; omega)]
  rw [h1, outC, h2]
  exact hE
end Go.Proofs.YtkocgogpbammaaaDoor

/- The EncryptWriter's Write. Conditions: as it states. -/

namespace Go.Proofs.YtkocgogpbammaaaDoor
open Go.RowKit

theorem run_min_nat {w : World} (m r n : Nat) (h : n = min m r) : (Builtin.min_ #[3, 3] 3 #[.int .i64 (m : Int), .int .i64 (r : Int)]).run Tryd.prog w = .ok (.int .i64 (n : Int)) w := by
  rw [run_min_int2]
  congr 2
  split <;> omega

set_option maxRecDepth 100000 in
set_option maxHeartbeats 2000000 in
theorem ewW0_any (w : World) (b bd ga : Nat) (key T : List UInt8) (c : Nat) (row rowD : Option (Nat × Nat)) (v : Option Addr) (cp : Nat) (hW : WS w b bd ga key T c row rowD) :
    Calls Tryd.prog 10 #[.pointer (some ⟨b, 0, none⟩), .slice v 0 cp] w fun e w' => e = .returned (.tuple #[.int .i64 0, .nilIface]) ∧ w' = w := by
  have ce : w.cell? ⟨b, 17, none⟩ = some .nilIface := (BV.rest hW.es.ew 17 (Or.inr (by decide))).1
  clear hW
  go_enter Tryd.func10, Tryd.ntmps10
  go_wp2_with fail
  go_ret2
  exact ⟨rfl, rfl⟩

/-- The rounds that are left. -/
def ewM (b : Nat) (pv : Value) (wr : World) : Nat := 2 * (match pv with | .slice _ m _ => m | _ => 0) + (match wr.cell? ⟨b, 2, none⟩ with | some (.slice _ l _) => if l = 65536 then 1 else 0 | _ => 0)
theorem ewM_at {b m l c c2 : Nat} {v v2 : Option Addr} {w : World} (h : w.cell? ⟨b, 2, none⟩ = some (.slice v2 l c2)) : ewM b (.slice v m c) w = 2 * m + if l = 65536 then 1 else 0 := by
  unfold ewM
  rw [h]
theorem from_range {w : World} {g o c n m : Nat} {p : List UInt8} (h : w.rangeAt g o (u8s p)) (hm : m = p.length) (hmc : m ≤ c) (hn : n ≤ m) : w.rangeAt g (fromO o c n) (u8s (p.drop n)) := by
  unfold fromO
  split
  · rename_i hc
    rw [List.drop_of_length_le (by omega)]
    intro j v hj
    simp [u8s] at hj
  · exact range_u8_drop h n

set_option maxRecDepth 100000 in
set_option maxHeartbeats 16000000 in
theorem ewW_any (w : World) (b bd ga : Nat) (key T : List UInt8) (c : Nat) (row rowD : Option (Nat × Nat)) (gs os cp n0 : Nat) (p : List UInt8) (hW : WS w b bd ga key T c row rowD) (h0 : p ≠ []) (hn : n0 = p.length) (hcp : n0 ≤ cp)
    (hs : w.rangeAt gs os (u8s p)) (hsl : gs < w.heap.size) (hsb : gs ≠ b) (hsd : gs ≠ bd) (hsr : ¬ rowIs row gs) (hsD : ¬ rowIs rowD gs) (hbig : T.length + n0 ≤ 140000) :
    Calls Tryd.prog 10 #[.pointer (some ⟨b, 0, none⟩), .slice (some ⟨gs, os, none⟩) n0 cp] w fun e w' => e = .returned (.tuple #[.int .i64 (n0 : Int), .nilIface]) ∧
      ∃ c' row' rowD', WS w' b bd ga key (T ++ p) c' row' rowD' ∧ 65536 * c' < (T ++ p).length ∧ rowNew w row row' ∧ rowNew w rowD rowD' ∧ Keeps w w' (esN w b bd row rowD) := by
  have ce : w.cell? ⟨b, 17, none⟩ = some .nilIface := (BV.rest hW.es.ew 17 (Or.inr (by decide))).1
  have n1 : 0 < n0 := by rw [hn]; exact List.length_pos_iff.2 h0
  have d0 : ((n0 : Int) == 0) = false := by rw [beq_eq_false_iff_ne]; omega
  have d1 : decide (n0 = 0) = false := decide_eq_false (by omega)
  have HW := Lib.hid hW
  have HN := Lib.hid hn
  have HS := Lib.hid hs
  have HP := Lib.hid h0
  have HB := Lib.hid hbig
  clear hW hn hs h0 hbig
  go_enter Tryd.func10, Tryd.ntmps10
  go_wp2_with fail
  go_loopw [1] (fun pv wr => ∃ (T1 p1 : List UInt8) (c1 o1 cp1 m : Nat) (row1 rowD1 : Option (Nat × Nat)), pv = .slice (some ⟨gs, o1, none⟩) m cp1 ∧ m = p1.length ∧ m ≤ cp1 ∧ Hid (T ++ p = T1 ++ p1) ∧ WS wr b bd ga key T1 c1 row1 rowD1 ∧ (m = 0 → 65536 * c1 < T1.length) ∧ wr.rangeAt gs o1 (u8s p1) ∧ rowNew w row row1 ∧ rowNew w rowD rowD1 ∧ Keeps w wr (esN w b bd row rowD)) (fun pv wr => ewM b pv wr)
  case atStart => exact ⟨T, p, c, os, cp, n0, row, rowD, rfl, HN.out, hcp, Lib.hid rfl, HW.out, fun h => by omega, HS.out, rowNew.refl _ _, rowNew.refl _ _, Keeps.refl _ _⟩
  case round =>
    obtain ⟨T1, p1, c1, o1, cp1, m, row1, rowD1, rfl, hm, hmc, HT, hW1, hc1, hs1, hrn1, hrD1, hK1⟩ := hrel
    rcases Nat.eq_zero_or_pos m with hm0 | hm0
    · have dm : decide ((m : Int) > 0) = false := decide_eq_false (by omega)
      have dm2 : decide (0 < m) = false := decide_eq_false (by omega)
      have H0 := Lib.hid hm0
      have HM := Lib.hid hm
      clear hm0 hm ce
      go_wp2_with fail
      go_ret2
      have hp1 : p1 = [] := List.eq_nil_of_length_eq_zero (by rw [← HM.out, H0.out])
      have hTT : T ++ p = T1 := by rw [HT.out, hp1, List.append_nil]
      exact ⟨rfl, c1, row1, rowD1, by rw [hTT]; exact hW1, by rw [hTT]; exact hc1 H0.out, hrn1, hrD1, hK1⟩
    · have dm : decide ((m : Int) > 0) = true := decide_eq_true (by omega)
      have dm2 : decide (0 < m) = true := decide_eq_true (by omega)
      obtain ⟨bs, hbs⟩ : ∃ bs, bs = T1.drop (65536 * c1) := ⟨_, rfl⟩
      obtain ⟨l, hl⟩ : ∃ l, l = bs.length := ⟨_, rfl⟩
      have hlo := hW1.lo
      have hhi := hW1.hi
      have hll : l = T1.length - 65536 * c1 := by rw [hl, hbs, List.length_drop]
      have hbigT : T1.length + m ≤ 140000 := by
        have h := congrArg List.length HT.out
        simp only [List.length_append] at h
        have h2 := HB.out; have h3 := HN.out
        omega
      have hl6 : l ≤ 65536 := by omega
      obtain ⟨r, hr⟩ : ∃ r, r = 65536 - l := ⟨_, rfl⟩
      have er : IntKind.i64.wrap (65536 - (l : Int)) = (r : Int) := (IntWalk.i64_in _ (by omega)).trans (by omega)
      obtain ⟨n, hnn⟩ : ∃ n, n = min m r := ⟨_, rfl⟩
      have hmin : ∀ W, (Builtin.min_ #[3, 3] 3 #[.int .i64 (m : Int), .int .i64 (r : Int)]).run Tryd.prog W = .ok (.int .i64 (n : Int)) W := fun W => run_min_nat m r n hnn
      have hnm : n ≤ m := by omega
      have hnr : n ≤ r := by omega
      have sl1 : ∀ W, (Instr.sliceAt 23 (.slice (some ⟨gs, o1, none⟩) m cp1) none (some (.int .i64 (n : Int))) none).run Tryd.prog W = .ok (.slice (some ⟨gs, o1, none⟩) n cp1) W := fun W => run_upto W .i64 gs o1 m cp1 n (by omega)
      obtain ⟨o2, ho2⟩ : ∃ o, o = fromO o1 cp1 n := ⟨_, rfl⟩
      obtain ⟨m2, hm2⟩ : ∃ x, x = m - n := ⟨_, rfl⟩
      obtain ⟨cp2, hcp2⟩ : ∃ x, x = cp1 - n := ⟨_, rfl⟩
      have sl2 : ∀ W, (Instr.sliceAt 23 (.slice (some ⟨gs, o1, none⟩) m cp1) (some (.int .i64 (n : Int))) none none).run Tryd.prog W = .ok (.slice (some ⟨gs, o2, none⟩) m2 cp2) W := fun W => by
        have h := run_from W .i64 gs o1 m cp1 n hnm hmc
        rw [← ho2, ← hm2, ← hcp2] at h
        exact h
      have hfull : n = 0 → l = 65536 := by omega
      have hHB : Hid (BV wr b 2 57 (ewR (ifA ga) (ifB bd) (nonceC c1) .nilIface) row1 bs) := Lib.hid (by rw [hbs]; exact hW1.es.ew)
      obtain ⟨v0, c0, lr0, h30⟩ := hHB.out.cell2
      rw [← hl] at h30
      have hM0 : Hid (ewM b (.slice (some ⟨gs, o1, none⟩) m cp1) wr = 2 * m + if l = 65536 then 1 else 0) := Lib.hid (ewM_at h30.c0)
      have hLN := Lib.hid (blen_any wr b 2 _ _ v0 l c0 lr0 h30 (by unfold maxLen; omega))
      have H1 := Lib.hid hbs
      have H2 := Lib.hid hl
      have H3 := Lib.hid hll
      have H4 := Lib.hid hr
      have H5 := Lib.hid hnn
      have H6 := Lib.hid ho2
      have H7 := Lib.hid hm2
      have H8 := Lib.hid hcp2
      have H9 := Lib.hid hm
      have HF := Lib.hid hfull
      have HC1 := Lib.hid hc1
      have HBT := Lib.hid hbigT
      have HLO := Lib.hid hlo
      have HHI := Lib.hid hhi
      have hnb : n ≤ 140000 := by omega
      have hlb : l ≤ 140000 := by omega
      clear hbs hl hll hr hnn ho2 hm2 hcp2 hm hfull h30 hc1 hbigT hlo hhi ce
      go_wp2_with fail
      refine hLN.out.mono ?_
      rintro e wa ⟨rfl, ka, hwa⟩
      have hWa : WS wa b bd ga key T1 c1 row1 rowD1 := by rw [hwa]; exact hW1.drewN ka
      have hsa : wa.rangeAt gs o1 (u8s p1) := by rw [hwa]; exact hs1
      have hKa : Keeps w wa (esN w b bd row rowD) := by rw [hwa]; exact hK1.drewN ka
      have HWA := Lib.hid hwa
      clear hW1 hs1 hK1 hLN hHB hwa
      go_wp2_with fail
      refine wp_region_still_tail 6 (by as_aux_lemma => kernel_rfl) (by as_aux_lemma => kernel_rfl) ?_
      change wpStill _ _ wa.drew (fun a' => wpList _ _ _ _ a' wa.drew) _ _
      have hWb := hWa.drew
      have hsb2 : wa.drew.rangeAt gs o1 (u8s p1) := hsa
      have hKb := hKa.drew
      generalize wa.drew = wb at hWb hsb2 hKb ⊢
      clear hWa hsa hKa
      simp only [List.take_succ_cons, List.take_zero, List.drop_succ_cons, List.drop_zero]
      repeat still_step
      refine wpStill_nil ?_
      go_wp2_with fail
      have hszb := hKb.size
      have hEWb : BV wb b 2 57 (ewR (ifA ga) (ifB bd) (nonceC c1) .nilIface) row1 bs := by rw [H1.out]; exact hWb.es.ew
      have hpl : (p1.take n).length = n := by rw [List.length_take, ← H9.out]; omega
      refine (bwrite_any wb b 2 57 (ewR (ifA ga) (ifB bd) (nonceC c1) .nilIface) row1 bs (p1.take n) n gs o1 cp1 hEWb hpl (fun h => bs_row hEWb (fun h2 => by have h3 := HF.out h; rw [H2.out, h2] at h3; exact absurd h3 (by decide))) (by rw [← H2.out]; omega) (range_u8_take hsb2 n) hsb (by omega)).mono ?_
      rintro e wc ⟨rfl, g, cap, hrow, hEc, hKc⟩
      rw [H1.out] at hEc
      obtain ⟨hWc, hrnc⟩ := hWb.wrote (q := p1.take n) (by rw [hpl]; have h1 := H3.out; have h2 := H4.out; have h3 := HLO.out; omega) g cap hrow hEc hKc
      have hsc : wc.rangeAt gs o2 (u8s (p1.drop n)) := by
        rw [H6.out]
        refine hKc.range (from_range hsb2 H9.out hmc hnm) ?_
        rintro (h | h)
        · exact hsb h
        · exact apart_new hrn1 hsl hsr h
      have hrn2 : rowNew w row (some (g, cap)) := hrn1.trans hrnc hszb
      have hKc2 : Keeps w wc (esN w b bd row rowD) := hKb.trans (hKc.mono (fun k _ h => esN_of hrn1 hrD1 hszb (by rcases h with h | h; exact Or.inl (Or.inl h); exact Or.inl (Or.inr (Or.inr (Or.inl h))))))
      obtain ⟨T2, hT2⟩ : ∃ T2, T2 = T1 ++ p1.take n := ⟨_, rfl⟩
      rw [← hT2] at hWc
      have hT2l : T2.length = T1.length + n := by rw [hT2, List.length_append, hpl]
      obtain ⟨l2, hl2⟩ : ∃ l2, l2 = l + n := ⟨_, rfl⟩
      have hbl2 : (T2.drop (65536 * c1)).length = l2 := by rw [List.length_drop]; have h1 := H3.out; have h2 := HLO.out; omega
      obtain ⟨v2, c2, lr2, h32⟩ := hWc.es.ew.cell2
      rw [hbl2] at h32
      have hLN2 := Lib.hid (blen_any wc b 2 _ _ v2 l2 c2 lr2 h32 (by unfold maxLen; omega))
      have hM2 : Hid (ewM b (.slice (some ⟨gs, o2, none⟩) m2 cp2) wc = 2 * m2 + if l2 = 65536 then 1 else 0) := Lib.hid (ewM_at h32.c0)
      have HT2 := Lib.hid hT2
      have HT2L := Lib.hid hT2l
      have HBL2 := Lib.hid hbl2
      have HL2 := Lib.hid hl2
      have ml2 : l2 ≤ 65536 := by have h := H4.out; omega
      have hszc := hKc2.size
      have hm2p : m2 = (p1.drop n).length := by rw [List.length_drop, ← H9.out, H7.out]
      have hTT : T ++ p = T2 ++ p1.drop n := by rw [HT.out, HT2.out, List.append_assoc, List.take_append_drop]
      have hcp12 : m2 ≤ cp2 := by rw [H7.out, H8.out]; omega
      have HM2P := Lib.hid hm2p
      have HTT := Lib.hid hTT
      clear hWb hsb2 hKb hrow hEc hKc hT2 hT2l hbl2 hl2 hEWb h32 hrnc hrn1 hpl hm2p hTT
      go_wp2_with fail
      refine hLN2.out.mono ?_
      rintro e wd ⟨rfl, kd, hwd⟩
      have hWd : WS wd b bd ga key T2 c1 (some (g, cap)) rowD1 := by rw [hwd]; exact hWc.drewN kd
      have hsd2 : wd.rangeAt gs o2 (u8s (p1.drop n)) := by rw [hwd]; exact hsc
      have hKd : Keeps w wd (esN w b bd row rowD) := by rw [hwd]; exact hKc2.drewN kd
      have hMd : Hid (ewM b (.slice (some ⟨gs, o2, none⟩) m2 cp2) wd = 2 * m2 + if l2 = 65536 then 1 else 0) := by rw [hwd]; exact hM2
      clear hWc hsc hKc2 hLN2 hM2 hwd
      have hl2p : 0 < l2 := by have h1 := HL2.out; have h2 := H5.out; have h3 := H4.out; omega
      have hT2p : 65536 * c1 < T2.length := by have h1 := HBL2.out; rw [List.length_drop] at h1; omega
      by_cases hfm : l2 = 65536 ∧ 0 < m2
      · obtain ⟨hf, hm2⟩ := hfm
        have dl1 : ((l2 : Int) == 65536) = true := by rw [hf]; rfl
        have dl2 : decide (l2 = 65536) = true := decide_eq_true hf
        have dq : decide ((m2 : Int) > 0) = true := decide_eq_true (by omega)
        have dq2 : decide (0 < m2) = true := decide_eq_true hm2
        have hT2f : T2.length = 65536 * (c1 + 1) := by have h1 := HBL2.out; rw [List.length_drop] at h1; omega
        have hc3 : c1 < 200 := by have h1 := HT2L.out; have h2 := HBT.out; omega
        have hfb : (T2.drop (65536 * c1)).length = 65536 := by rw [HBL2.out, hf]
        have hol : (outC key T2 c1).length ≤ 1099511627776 := by have h := outC_len key T2 c1; omega
        have HC := Lib.hid (flush_false wd b bd ga key (nonceC c1) .nilIface (some (g, cap)) rowD1 (T2.drop (65536 * c1)) (outC key T2 c1) (UInt8.ofNat c1) hWd.es (nonceC_get c1) (nonceC_small c1 hc3) hfb hol)
        have HFF := Lib.hid hf
        have HTF := Lib.hid hT2f
        clear hf hT2f hfb hol hT2p
        go_wp2_with fail
        refine HC.out.mono ?_
        rintro e we ⟨rfl, row', rowD', hE', hK', hn1, hn2⟩
        have hWe := hWd.flushed HTF.out hE'
        obtain ⟨v4, c4, lr4, h34⟩ := hWe.es.ew.cell2
        have hMe : Hid (ewM b (.slice (some ⟨gs, o2, none⟩) m2 cp2) we = 2 * m2 + if (T2.drop (65536 * (c1 + 1))).length = 65536 then 1 else 0) := Lib.hid (ewM_at h34.c0)
        have hszd := hKd.size
        have hse : we.rangeAt gs o2 (u8s (p1.drop n)) := by
          refine hK'.range hsd2 ?_
          rintro (h | h | h | h)
          · exact hsb h
          · exact hsd h
          · exact apart_new hrn2 hsl hsr h
          · exact apart_new hrD1 hsl hsD h
        clear h34 HC
        go_wp2_with fail
        go_roundw
        case rel => exact ⟨T2, p1.drop n, c1 + 1, o2, cp2, m2, row', rowD', rfl, HM2P.out, hcp12, HTT, hWe, fun h => absurd h (by omega), hse, hrn2.trans hn1 hszd, hrD1.trans hn2 hszd, hKd.trans (hK'.mono (fun k _ h => esN_of hrn2 hrD1 hszd (Or.inl h)))⟩
        case measure =>
          rw [hMe.out, hM0.out, if_neg (by rw [List.length_drop]; have h := HTF.out; omega)]
          have h1 := HF.out; have h2 := H7.out
          split <;> omega
      · have hm20 : m2 = 0 := by
          have h1 := HL2.out; have h2 := H5.out; have h3 := H4.out; have h4 := H7.out
          omega
        have HM20 := Lib.hid hm20
        have dq : decide ((m2 : Int) > 0) = false := decide_eq_false (by omega)
        have dq2 : decide (0 < m2) = false := decide_eq_false (by omega)
        have HFM := Lib.hid hfm
        clear hfm hm20
        have hrel2 : ∃ (T1 p1 : List UInt8) (c1 o1 cp1 m : Nat) (row1 rowD1 : Option (Nat × Nat)), Value.slice (some ⟨gs, o2, none⟩) m2 cp2 = .slice (some ⟨gs, o1, none⟩) m cp1 ∧ m = p1.length ∧ m ≤ cp1 ∧ Hid (T ++ p = T1 ++ p1) ∧ WS wd b bd ga key T1 c1 row1 rowD1 ∧ (m = 0 → 65536 * c1 < T1.length) ∧ wd.rangeAt gs o1 (u8s p1) ∧ rowNew w row row1 ∧ rowNew w rowD rowD1 ∧ Keeps w wd (esN w b bd row rowD) :=
          ⟨T2, p1.drop n, c1, o2, cp2, m2, some (g, cap), rowD1, rfl, HM2P.out, hcp12, HTT, hWd, fun _ => hT2p, hsd2, hrn2, hrD1, hKd⟩
        have HREL := Lib.hid hrel2
        have hms : Hid (ewM b (.slice (some ⟨gs, o2, none⟩) m2 cp2) wd < ewM b (.slice (some ⟨gs, o1, none⟩) m cp1) wr) := by
          refine Lib.hid ?_
          rw [hMd.out, hM0.out, HM20.out]
          split <;> split <;> omega
        clear hrel2 hWd hsd2 hKd hMd hT2p hcp12
        rcases Bool.eq_false_or_eq_true (decide (l2 = 65536)) with dl2 | dl2
        · have dl1 : ((l2 : Int) == 65536) = true := by rw [of_decide_eq_true dl2]; rfl
          go_wp2_with fail
          go_roundw
          case rel => exact HREL.out
          case measure => exact hms.out
        · have dl1 : ((l2 : Int) == 65536) = false := by rw [beq_eq_false_iff_ne]; have h := of_decide_eq_false dl2; omega
          go_wp2_with fail
          go_roundw
          case rel => exact HREL.out
          case measure => exact hms.out
end Go.Proofs.YtkocgogpbammaaaDoor

/- The EncryptWriter's Close. Conditions: as it states. -/

namespace Go.Proofs.YtkocgogpbammaaaDoor
open Go.RowKit

set_option maxRecDepth 100000 in
set_option maxHeartbeats 4000000 in
theorem close_any (w : World) (b bd ga : Nat) (key T : List UInt8) (c : Nat) (row rowD : Option (Nat × Nat)) (hW : WS w b bd ga key T c row rowD) (hbig : T.length ≤ 140000) :
    Calls Tryd.prog 11 #[.pointer (some ⟨b, 0, none⟩)] w fun e w' => e = .returned .nilIface ∧
      ∃ rowD', BV w' bd 0 34 (fun _ => none) rowD' (outC key T c ++ sealedOf key ((nonceC c).set 11 1) (T.drop (65536 * c))) ∧ rowNew w rowD rowD' ∧ Keeps w w' (esN w b bd row rowD) := by
  have ce : w.cell? ⟨b, 17, none⟩ = some .nilIface := (BV.rest hW.es.ew 17 (Or.inr (by decide))).1
  have hlo := hW.lo
  have hhi := hW.hi
  have hol : (outC key T c).length ≤ 1099511627776 := by have h := outC_len key T c; omega
  have hbl : (T.drop (65536 * c)).length ≤ 65536 := by rw [List.length_drop]; omega
  have HC := Lib.hid (flush_true w b bd ga key (nonceC c) .nilIface row rowD (T.drop (65536 * c)) (outC key T c) (UInt8.ofNat c) hW.es (nonceC_get c) (nonceC_small c (by omega)) hbl hol)
  clear hW hlo hhi hol hbl hbig
  go_enter Tryd.func11, Tryd.ntmps11
  go_wp2_with fail
  refine HC.out.mono ?_
  rintro e w1 ⟨rfl, row', rowD', hE1, hK1, hn1, hn2⟩
  clear HC ce
  have hbd := hE1.nb
  have hD1 := hE1.dv
  have hlb := hE1.ew.lt
  have hr2 := hE1.r2
  obtain ⟨v, lr, hA1, -⟩ := hE1.ew.opened
  have hlen : (ewL (ifA ga) (ifB bd) v lr (((nonceC c).set 11 1).set 10 (UInt8.ofNat c + 1)) .nilIface).length = 18 := by simp [ewL, nonceC]
  have ce1 : w1.cell? ⟨b, 17, none⟩ = some .nilIface := (BV.rest hE1.ew 17 (Or.inr (by decide))).1
  have fe1 := hA1.fr 17
  have hA2 := hA1.set 17 .nilIface (by rw [hlen]; decide)
  have ce2 : (w1.setCell ⟨b, 17, none⟩ .nilIface).cell? ⟨b, 17, none⟩ = some .nilIface := hA2.cellE (List.getElem?_set_self (by rw [hlen]; decide))
  have fe2 := hA2.fr 17
  have hk2 := (Keeps.refl w1 (fun k => k = b)).set b 17 .nilIface rfl
  have hD2 : BV (w1.setCell ⟨b, 17, none⟩ .nilIface) bd 0 34 (fun _ => none) rowD' _ := hD1.kept hk2 (fun h => hbd h.symm) (fun k hk h => (hr2 k hk).1 h)
  have hsz2 : (w1.setCell ⟨b, 17, none⟩ .nilIface).heap.size = w1.heap.size := by simp [World.setCell]
  have hlb2 : b < (w1.setCell ⟨b, 17, none⟩ .nilIface).heap.size := by rw [hsz2]; exact hlb
  have ce3 : ∀ o, ((w1.setCell ⟨b, 17, none⟩ .nilIface).alloc o).cell? ⟨b, 17, none⟩ = some .nilIface := fun o => (World.cell?_of_block (a := ⟨b, 17, none⟩) (Below.heap_alloc _ o b hlb2)).trans ce2
  have fe3 : ∀ o, ((w1.setCell ⟨b, 17, none⟩ .nilIface).alloc o).frozen? ⟨b, 17, none⟩ = false := fun o => (World.frozen?_of_block (a := ⟨b, 17, none⟩) (Below.heap_alloc _ o b hlb2)).trans fe2
  have HE := Lib.hid hE1
  clear hE1 hA1 hA2 hD1
  go_wp2_with (go_at_call 19; go_in)
  go_ret
  have hkE : ∀ v o, Keeps w1 (((w1.setCell ⟨b, 17, none⟩ .nilIface).setCell ⟨b, 17, none⟩ v).alloc o) (fun k => k = b) := fun v o => (((Keeps.refl w1 (fun k => k = b)).set b 17 _ rfl).set b 17 _ rfl).trans (Keeps.of_below (below_alloc _ _) _)
  refine ⟨rfl, rowD', HE.out.dv.kept (hkE _ _) (fun h => hbd h.symm) (fun k hk h => (hr2 k hk).1 h), hn2, (hK1.trans ((hkE _ _).mono (fun k _ h => Or.inl h))).mono (fun k _ h => Or.inl h)⟩
end Go.Proofs.YtkocgogpbammaaaDoor

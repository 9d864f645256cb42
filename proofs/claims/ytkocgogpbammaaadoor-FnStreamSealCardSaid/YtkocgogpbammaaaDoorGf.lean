/- The EncryptWriter's flushChunk. Conditions: as each states. (Printed by wip/gengf.py.) -/
import Derived.Test.YtkocgogpbammaaaDoorGe
import Derived.Deep.RegionWith
set_option linter.unusedVariables false
set_option linter.unusedSimpArgs false
namespace Go.Proofs.YtkocgogpbammaaaDoor
open Go.RowKit

/-- The writer b, its cipher ga, the buffer bd behind it: what they hold, and that they lie apart. -/
structure ES (w : World) (b bd ga : Nat) (key nonce : List UInt8) (err : Value) (row rowD : Option (Nat × Nat)) (bs out : List UInt8) : Prop where
  ew : EW w b (ifA ga) (ifB bd) nonce err row bs
  dv : BV w bd 0 34 (fun _ => none) rowD out
  ka : Arr w ga 68 (u8s key)
  hk : key.length = 32
  hn : nonce.length = 12
  nb : b ≠ bd
  ab : ga ≠ b
  ad : ga ≠ bd
  r1 : ∀ k, rowIs row k → k ≠ bd ∧ k ≠ ga ∧ ¬ rowIs rowD k
  r2 : ∀ k, rowIs rowD k → k ≠ b ∧ k ≠ ga

def esS (b bd : Nat) (row rowD : Option (Nat × Nat)) (k : Nat) : Prop := k = b ∨ k = bd ∨ rowIs row k ∨ rowIs rowD k
theorem rowIs_some {g c k : Nat} : rowIs (some (g, c)) k ↔ k = g := ⟨fun ⟨_, h⟩ => by cases h; rfl, fun h => ⟨c, by rw [h]⟩⟩
/-- A row that is the elder or a new one. -/
def rowNew (w : World) (row row' : Option (Nat × Nat)) : Prop := ∀ k, rowIs row' k → rowIs row k ∨ w.heap.size ≤ k
def sealedOf (key nonce text : List UInt8) : List UInt8 := ctOf key nonce text ++ tagOf key nonce text
@[simp] theorem sealedOf_length (key nonce text : List UInt8) : (sealedOf key nonce text).length = text.length + 16 := by simp [sealedOf]

set_option maxRecDepth 100000 in
set_option maxHeartbeats 16000000 in
theorem flush_true (w : World) (b bd ga : Nat) (key nonce : List UInt8) (err : Value) (row rowD : Option (Nat × Nat)) (bs out : List UInt8) (k : UInt8) (hE : ES w b bd ga key nonce err row rowD bs out) (hk10 : nonce[10]? = some k) (hlt : k.toNat < 255)
    (hbs : bs.length ≤ 65536) (hout : out.length ≤ 1099511627776) :
    Calls Tryd.prog 18 #[.pointer (some ⟨b, 0, none⟩), .bool true] w fun e w' => e = .returned .nilIface ∧ ∃ row' rowD', ES w' b bd ga key ((nonce.set 11 1).set 10 (k + 1)) err row' rowD' [] (out ++ sealedOf key (nonce.set 11 1) bs) ∧ Keeps w w' (esS b bd row rowD) ∧ rowNew w row row' ∧ rowNew w rowD rowD' := by
  obtain ⟨hEW, hDV, hKA, hkl, hnl, hbd, hab, had, hr1, hr2⟩ := hE
  obtain ⟨n1, hn1⟩ : ∃ n, n = nonce.set 11 1 := ⟨_, rfl⟩
  have hn1l : n1.length = 12 := by rw [hn1, List.length_set, hnl]
  have hk10' : n1[10]? = some k := by rw [hn1, List.getElem?_set_ne (by decide)]; exact hk10
  obtain ⟨x11, hx11⟩ : ∃ x, nonce[11]? = some x := ⟨nonce[11]'(by omega), List.getElem?_eq_getElem (by omega)⟩
  have HX := Lib.hid hx11
  have hn11 : 11 < nonce.length := by omega
  rw [← hn1]
  have HN1 := Lib.hid hn1
  clear hn1 hx11
  have HBS := Lib.hid hbs
  have hdlt := hDV.lt
  have hblt := hEW.lt
  have halt := hKA.lt
  have HRL := Lib.hid (fun k => hEW.rowLt k)
  have HRD := Lib.hid (fun k => hDV.rowLt k)
  have HR1 := Lib.hid hr1
  have HR2 := Lib.hid hr2
  have HO := Lib.hid hout
  obtain ⟨l, hl⟩ : ∃ l, l = bs.length := ⟨_, rfl⟩
  have HL := Lib.hid hl
  have hl6 : l ≤ 65536 := by omega
  have hk256 : k.toNat < 255 := hlt
  have HK10 := Lib.hid hk10'
  clear hbs hr1 hr2 hout hl hk10 hk10' hlt
  go_enter Tryd.func18, Tryd.ntmps18
  go_wp2_with fail
  obtain ⟨v0, lr0, hA0, hturn⟩ := hEW.opened
  obtain ⟨xn, hxn⟩ : ∃ x, x = x11.toNat := ⟨_, rfl⟩
  have hx16 := ew_nonce (a := ifA ga) (d := ifB bd) (v := v0) (lr := lr0) (err := err) 11 x11 HX.out
  rw [← hxn] at hx16
  refine (slf_any w b 5 _ _ hA0 xn hx16).mono ?_
  rintro e w1 ⟨rfl, hA1, hg1⟩
  have hs11 := ew_setN (a := ifA ga) (d := ifB bd) (v := v0) (lr := lr0) (nonce := nonce) (err := err) 11 1 hn11
  rw [show ((1 : UInt8).toNat : Int) = 1 from rfl, ← HN1.out] at hs11
  rw [hs11] at hA1
  have hE1 : EW w1 b (ifA ga) (ifB bd) n1 err row bs := hturn w1 n1 err hg1 hA1
  have hK1 : Keeps w w1 (esS b bd row rowD) := Keeps.of_grown hg1 (Or.inl rfl)
  have hD1 : BV w1 bd 0 34 (fun _ => none) rowD out := hDV.kept (S := fun k => k = b) (Keeps.of_grown hg1 rfl) (fun h => hbd h.symm) (fun k hk h => (HR2.out k hk).1 h)
  have hA1 : Arr w1 ga 68 (u8s key) := hKA.kept hg1 hab
  clear hturn hxn hx16 hs11 hA0 hg1 hEW hDV hKA
  have hs1 := hK1.size
  go_wp2_with fail
  refine (bgrow_any w1 b 2 _ _ row bs 16 hE1 (by decide) (by rw [← HL.out]; omega)).mono ?_
  rintro e w2 ⟨rfl, g, cap, X, hg, hcap, hR2, hX2, hK2⟩
  have hK12 := hK1.trans (hK2.mono (T := esS b bd row rowD) (fun k _ h => Or.inl h))
  have hD2 : BV w2 bd 0 34 (fun _ => none) rowD out := hD1.kept hK2 (fun h => hbd h.symm) (fun k hk h => (HR2.out k hk).1 h)
  have hA2 : Arr w2 ga 68 (u8s key) := hK2.arr hA1 hab
  have hgrow : g = g := rfl
  have hgF : w1.heap.size ≤ g ∨ rowIs row g := hg.symm.imp id (fun h => ⟨cap, h⟩)
  have hgb : g ≠ b := hR2.1
  have hgd : g ≠ bd := by rcases hgF with h | h; omega; exact (HR1.out g h).1
  have hga : g ≠ ga := by rcases hgF with h | h; omega; exact (HR1.out g h).2.1
  have hgD : ¬ rowIs rowD g := by rcases hgF with h | h; exact fun hd => (by have h1 := (HRD.out g hd).1; omega); exact (HR1.out g h).2.2
  rw [← HL.out] at hcap hR2 hX2
  have hX2' : X = u8s bs ++ X.drop l := by rw [← hX2, List.take_append_drop]
  have hcm : cap ≤ maxLen := hR2.2.2.2.1
  have hXl : X.length = cap := hR2.2.2.1
  have hRg : Arr w2 g 5 ([] ++ u8s bs ++ X.drop l) := by rw [List.nil_append, ← hX2']; exact hR2.2.2.2.2.1
  have hBl : 16 ≤ (X.drop l).length := by rw [List.length_drop]; omega
  obtain ⟨lr2, hT2⟩ := hR2.2.2.2.2.2
  have hAr2 := ew_arr hT2
  have hN2 : w2.rangeAt b 5 (u8s n1) := by
    have h := hAr2
    rw [show ewL (ifA ga) (ifB bd) (.slice (some ⟨g, 0, none⟩) l cap) lr2 n1 err = [ifA ga, ifB bd, .slice (some ⟨g, 0, none⟩) l cap, .int .i64 0, .int .i8 lr2] ++ u8s n1 ++ [err] from rfl] at h
    exact range_piece h 5 rfl
  have c0 : w2.cell? ⟨b, 0, none⟩ = some (.iface 50 (.pointer (some ⟨ga, 0, none⟩))) := hT2.rest 0 (Or.inl (by decide))
  have sl : ∀ W, (Instr.sliceAt 23 (.slice (some ⟨g, 0, none⟩) l cap) none (some (.int .i64 0)) none).run Tryd.prog W = .ok (.slice (some ⟨g, 0, none⟩) 0 cap) W := fun W => run_upto W .i64 g 0 l cap 0 (Nat.zero_le _)
  have HG := Lib.hid hg
  have HX2 := Lib.hid hX2'
  have HCAP := Lib.hid hcap
  have hcap' : l + 16 ≤ cap := hcap
  unfold maxLen at hcm
  clear hgrow hg hX2 hX2' hE1 hD1 hA1 hK1 hK2 hcap hAr2
  have mixed : Tryd.prog.follows Departure.mixedOrders = true := by kernel_rfl
  go_wp2_with fail
  go_region_with_o (first
      | (go_at_call 12
         refine (bbytes_any _ b 2 57 (ewR (ifA ga) (ifB bd) n1 err) g cap l X ?_).mono ?_
         exact hR2
         rintro e w9 ⟨rfl, k9, rfl⟩)
      | (go_at_call 57
         refine (seal_any _ ga b 5 12 g 0 l cap 5 [] (X.drop l) key n1 bs hkl hn1l (by decide) ?_ ?_ ?_ rfl HL.out hBl hcap' hcm (by omega)).mono ?_
         exact hA2
         exact hN2
         exact hRg
         rintro e w3 ⟨rfl, hA3, hK3⟩))
  all_goals (
    have hK23 : Keeps w2 w3 (fun k => k = g) := ⟨hK3.os, hK3.tape, hK3.output, hK3.size, hK3.block⟩
    clear hK3
    obtain ⟨X3, hX3⟩ : ∃ X3, X3 = u8s (ctOf key n1 bs) ++ u8s (tagOf key n1 bs) ++ (X.drop l).drop 16 := ⟨_, rfl⟩
    have hRg3 : Arr w3 g 5 X3 := by rw [hX3]; rw [List.nil_append] at hA3; exact hA3
    have hX3l : X3.length = cap := by
      have h1 := HCAP.out; have h2 := HL.out
      rw [hX3]; simp only [List.length_append, u8s_length, ctOf_length, tagOf_length, List.length_drop]; omega
    have hT3 := hT2.of_heap (hK23.block b hT2.lt (fun h => hgb h.symm))
    have hR3 : RB w3 b 2 57 (ewR (ifA ga) (ifB bd) n1 err) g cap l X3 := ⟨hgb, by omega, hX3l, by unfold maxLen; exact hcm, hRg3, lr2, hT3⟩
    have hD3 : BV w3 bd 0 34 (fun _ => none) rowD out := hD2.kept hK23 (fun h => hgd h.symm) (fun k hk h => hgD (by rw [← h]; exact hk))
    have hGA3 : Arr w3 ga 68 (u8s key) := hK23.arr hA2 (fun h => hga h.symm)
    have hSg : esS b bd row rowD g ∨ w.heap.size ≤ g := by rcases hgF with h | h; exact Or.inr (by omega); exact Or.inl (Or.inr (Or.inr (Or.inl h)))
    have hK13 := (hK12.mono (T := fun k => esS b bd row rowD k ∨ w.heap.size ≤ k) (fun k _ h => Or.inl h)).trans (hK23.mono (fun k _ h => by rw [h]; exact hSg))
    have hs3 : w3.rangeAt g 0 (u8s (sealedOf key n1 bs)) := by
      have h := hRg3
      rw [hX3, ← u8s_append, show u8s (ctOf key n1 bs ++ tagOf key n1 bs) ++ (X.drop l).drop 16 = [] ++ u8s (sealedOf key n1 bs) ++ (X.drop l).drop 16 by rw [List.nil_append]; rfl] at h
      exact range_piece h 0 rfl
    have c1 : w3.cell? ⟨b, 1, none⟩ = some (.iface 41 (.pointer (some ⟨bd, 0, none⟩))) := hT3.rest 1 (Or.inl (by decide))
    have hsl : (sealedOf key n1 bs).length = l + 16 := by rw [sealedOf_length, ← HL.out]
    have hglt := hRg3.lt
    clear hRg hT2 hD2 hA2 hR2 hN2 c0 hK12 hK23 hBl hRg3 hX3 hA3 sl
    go_wp2_with fail
    refine (bwrite_any w3 bd 0 34 (fun _ => none) rowD out (sealedOf key n1 bs) (l + 16) g 0 cap hD3 hsl (fun h => absurd h (by omega)) (by have h1 := HO.out; omega) hs3 hgd hglt).mono ?_
    rintro e w4 ⟨rfl, gD, cD, hgD4, hD4, hK4⟩
    have hgDF : w3.heap.size ≤ gD ∨ rowIs rowD gD := hgD4.symm.imp id (fun h => ⟨cD, h⟩)
    have hR4 : RB w4 b 2 57 (ewR (ifA ga) (ifB bd) n1 err) g cap l X3 := hR3.kept hK4 (by rintro (h | h); exact hbd h; exact (HR2.out b h).1 rfl) (by rintro (h | h); exact hgd h; exact hgD h)
    have hGA4 : Arr w4 ga 68 (u8s key) := hK4.arr hGA3 (by rintro (h | h); exact had h; exact (HR2.out ga h).2 rfl)
    have hK14 := hK13.trans (hK4.mono (by rintro k _ (h | h); exact Or.inl (Or.inr (Or.inl h)); exact Or.inl (Or.inr (Or.inr (Or.inr h)))))
    have hsz34 := hK13.size
    have hgDb : gD ≠ b := by rcases hgDF with h | h; omega; exact (HR2.out gD h).1
    have hgDd : gD ≠ ga := by rcases hgDF with h | h; omega; exact (HR2.out gD h).2
    have hgDg : gD ≠ g := by rcases hgDF with h | h; omega; exact (fun h2 => hgD (by rw [← h2]; exact h))
    have HGDF := Lib.hid hgDF
    clear hgD4 hgDF hR3 hD3 hGA3 hK13 hK4 hs3 c1 hT3
    obtain ⟨q1, q2, q3, q4, q5, lr4, q6⟩ := hR4
    have hA4 := ew_arr q6
    have hn10 := ew_nonce (a := ifA ga) (d := ifB bd) (v := .slice (some ⟨g, 0, none⟩) l cap) (lr := lr4) (err := err) 10 k HK10.out
    have hset := ew_setN (a := ifA ga) (d := ifB bd) (v := .slice (some ⟨g, 0, none⟩) l cap) (lr := lr4) (nonce := n1) (err := err) 10 (k + 1) (by rw [hn1l]; decide)
    have hk1 : (k + 1).toNat = k.toNat + 1 := by rw [UInt8.toNat_add]; show (k.toNat + 1) % 256 = _; omega
    rw [hk1] at hset
    have HSET := Lib.hid hset
    clear hset hk1
    go_wp2_with fail
    refine (incN_any w4 b 5 _ _ hA4 k.toNat hn10 hk256).mono ?_
    rintro e w5 ⟨rfl, hA5, hg5⟩
    rw [HSET.out] at hA5
    have hR5 : RB w5 b 2 57 (ewR (ifA ga) (ifB bd) (n1.set 10 (k + 1)) err) g cap l X3 := ⟨q1, q2, q3, q4, q5.kept hg5 q1, lr4, ew_three hA5⟩
    have hD5 : BV w5 bd 0 34 (fun _ => none) (some (gD, cD)) (out ++ sealedOf key n1 bs) := hD4.kept (S := fun k => k = b) (Keeps.of_grown hg5 rfl) (fun h => hbd h.symm) (fun k hk h => hgDb (by rw [← rowIs_some.1 hk, h]))
    have hGA5 : Arr w5 ga 68 (u8s key) := hGA4.kept hg5 hab
    have hK15 := hK14.trans (Keeps.of_grown hg5 (Or.inl (Or.inl rfl)))
    clear q2 q3 q4 q5 q6 hA4 hn10 hA5 hg5 hD4 hGA4 hK14
    go_wp2_with fail
    refine (breset_any w5 b 2 57 _ g cap l X3 hR5).mono ?_
    rintro e w6 ⟨rfl, hR6, hK6⟩
    go_wp2_with fail
    go_ret
    have hD6 : BV w6 bd 0 34 (fun _ => none) (some (gD, cD)) (out ++ sealedOf key n1 bs) := hD5.kept hK6 (fun h => hbd h.symm) (fun k hk h => hgDb (by rw [← rowIs_some.1 hk, h]))
    refine ⟨rfl, some (g, cap), some (gD, cD), ⟨⟨X3, hR6, by simp [u8s]⟩, hD6, hK6.arr hGA5 hab, hkl, by rw [List.length_set, hn1l], hbd, hab, had, ?_, ?_⟩, ?_, ?_, ?_⟩
    · intro k hk
      rw [rowIs_some] at hk
      subst hk
      exact ⟨hgd, hga, fun h => hgDg (rowIs_some.1 h).symm⟩
    · intro k hk
      rw [rowIs_some] at hk
      subst hk
      exact ⟨hgDb, hgDd⟩
    · exact (hK15.trans (hK6.mono (fun k _ h => Or.inl (Or.inl h)))).mono (fun k hk h => h.resolve_right (by omega))
    · intro k hk
      rw [rowIs_some] at hk
      subst hk
      rcases hgF with h | h
      · exact Or.inr (by omega)
      · exact Or.inl h
    · intro k hk
      rw [rowIs_some] at hk
      subst hk
      rcases HGDF.out with h | h
      · exact Or.inr (by omega)
      · exact Or.inl h)

set_option maxRecDepth 100000 in
set_option maxHeartbeats 16000000 in
theorem flush_false (w : World) (b bd ga : Nat) (key nonce : List UInt8) (err : Value) (row rowD : Option (Nat × Nat)) (bs out : List UInt8) (k : UInt8) (hE : ES w b bd ga key nonce err row rowD bs out) (hk10 : nonce[10]? = some k) (hlt : k.toNat < 255)
    (hbs : bs.length = 65536) (hout : out.length ≤ 1099511627776) :
    Calls Tryd.prog 18 #[.pointer (some ⟨b, 0, none⟩), .bool false] w fun e w' => e = .returned .nilIface ∧ ∃ row' rowD', ES w' b bd ga key (nonce.set 10 (k + 1)) err row' rowD' [] (out ++ sealedOf key nonce bs) ∧ Keeps w w' (esS b bd row rowD) ∧ rowNew w row row' ∧ rowNew w rowD rowD' := by
  obtain ⟨hEW, hDV, hKA, hkl, hnl, hbd, hab, had, hr1, hr2⟩ := hE
  obtain ⟨n1, hn1⟩ : ∃ n, n = nonce := ⟨_, rfl⟩
  have hn1l : n1.length = 12 := by rw [hn1, hnl]
  have hk10' : n1[10]? = some k := by rw [hn1]; exact hk10
  rw [← hn1] at hEW ⊢
  have HN1 := Lib.hid hn1
  clear hn1
  obtain ⟨g0, cap0, hrow⟩ : ∃ g c, row = some (g, c) := by
    match row, hEW with
    | none, ⟨h, _⟩ => rw [h] at hbs; exact absurd hbs (by decide)
    | some (g, c), _ => exact ⟨g, c, rfl⟩
  have hLen : Calls Tryd.prog 16 #[.pointer (some ⟨b, 2, none⟩)] w fun e w' => e = .returned (.int .i64 65536) ∧ ∃ k, w' = w.drewN k := by
    have h := hEW
    rw [hrow] at h
    obtain ⟨X, ⟨_, hlc, _, hcm, _, lr, h3⟩, _⟩ := h
    have h4 := blen_any w b 2 _ _ _ _ _ lr h3 (by omega)
    rw [hbs] at h4
    exact h4
  have HLEN := Lib.hid hLen
  clear hLen hrow
  have HBS := Lib.hid hbs
  have hdlt := hDV.lt
  have hblt := hEW.lt
  have halt := hKA.lt
  have HRL := Lib.hid (fun k => hEW.rowLt k)
  have HRD := Lib.hid (fun k => hDV.rowLt k)
  have HR1 := Lib.hid hr1
  have HR2 := Lib.hid hr2
  have HO := Lib.hid hout
  obtain ⟨l, hl⟩ : ∃ l, l = bs.length := ⟨_, rfl⟩
  have HL := Lib.hid hl
  have hl6 : l ≤ 65536 := by omega
  have hk256 : k.toNat < 255 := hlt
  have HK10 := Lib.hid hk10'
  clear hbs hr1 hr2 hout hl hk10 hk10' hlt
  go_enter Tryd.func18, Tryd.ntmps18
  go_wp2_with fail
  refine HLEN.out.mono ?_
  rintro e w1 ⟨rfl, k1, hw1⟩
  have hE1 : EW w1 b (ifA ga) (ifB bd) n1 err row bs := by rw [hw1]; exact hEW
  have hK1 : Keeps w w1 (esS b bd row rowD) := by rw [hw1]; exact (Keeps.refl w _).drewN k1
  have hD1 : BV w1 bd 0 34 (fun _ => none) rowD out := by rw [hw1]; exact hDV
  have hA1 : Arr w1 ga 68 (u8s key) := by rw [hw1]; exact hKA
  clear hEW hDV hKA hw1
  have hs1 := hK1.size
  go_wp2_with fail
  refine (bgrow_any w1 b 2 _ _ row bs 16 hE1 (by decide) (by rw [← HL.out]; omega)).mono ?_
  rintro e w2 ⟨rfl, g, cap, X, hg, hcap, hR2, hX2, hK2⟩
  have hK12 := hK1.trans (hK2.mono (T := esS b bd row rowD) (fun k _ h => Or.inl h))
  have hD2 : BV w2 bd 0 34 (fun _ => none) rowD out := hD1.kept hK2 (fun h => hbd h.symm) (fun k hk h => (HR2.out k hk).1 h)
  have hA2 : Arr w2 ga 68 (u8s key) := hK2.arr hA1 hab
  have hgrow : g = g := rfl
  have hgF : w1.heap.size ≤ g ∨ rowIs row g := hg.symm.imp id (fun h => ⟨cap, h⟩)
  have hgb : g ≠ b := hR2.1
  have hgd : g ≠ bd := by rcases hgF with h | h; omega; exact (HR1.out g h).1
  have hga : g ≠ ga := by rcases hgF with h | h; omega; exact (HR1.out g h).2.1
  have hgD : ¬ rowIs rowD g := by rcases hgF with h | h; exact fun hd => (by have h1 := (HRD.out g hd).1; omega); exact (HR1.out g h).2.2
  rw [← HL.out] at hcap hR2 hX2
  have hX2' : X = u8s bs ++ X.drop l := by rw [← hX2, List.take_append_drop]
  have hcm : cap ≤ maxLen := hR2.2.2.2.1
  have hXl : X.length = cap := hR2.2.2.1
  have hRg : Arr w2 g 5 ([] ++ u8s bs ++ X.drop l) := by rw [List.nil_append, ← hX2']; exact hR2.2.2.2.2.1
  have hBl : 16 ≤ (X.drop l).length := by rw [List.length_drop]; omega
  obtain ⟨lr2, hT2⟩ := hR2.2.2.2.2.2
  have hAr2 := ew_arr hT2
  have hN2 : w2.rangeAt b 5 (u8s n1) := by
    have h := hAr2
    rw [show ewL (ifA ga) (ifB bd) (.slice (some ⟨g, 0, none⟩) l cap) lr2 n1 err = [ifA ga, ifB bd, .slice (some ⟨g, 0, none⟩) l cap, .int .i64 0, .int .i8 lr2] ++ u8s n1 ++ [err] from rfl] at h
    exact range_piece h 5 rfl
  have c0 : w2.cell? ⟨b, 0, none⟩ = some (.iface 50 (.pointer (some ⟨ga, 0, none⟩))) := hT2.rest 0 (Or.inl (by decide))
  have sl : ∀ W, (Instr.sliceAt 23 (.slice (some ⟨g, 0, none⟩) l cap) none (some (.int .i64 0)) none).run Tryd.prog W = .ok (.slice (some ⟨g, 0, none⟩) 0 cap) W := fun W => run_upto W .i64 g 0 l cap 0 (Nat.zero_le _)
  have HG := Lib.hid hg
  have HX2 := Lib.hid hX2'
  have HCAP := Lib.hid hcap
  have hcap' : l + 16 ≤ cap := hcap
  unfold maxLen at hcm
  clear hgrow hg hX2 hX2' hE1 hD1 hA1 hK1 hK2 hcap hAr2
  have mixed : Tryd.prog.follows Departure.mixedOrders = true := by kernel_rfl
  go_wp2_with fail
  go_region_with_o (first
      | (go_at_call 12
         refine (bbytes_any _ b 2 57 (ewR (ifA ga) (ifB bd) n1 err) g cap l X ?_).mono ?_
         exact hR2
         rintro e w9 ⟨rfl, k9, rfl⟩)
      | (go_at_call 57
         refine (seal_any _ ga b 5 12 g 0 l cap 5 [] (X.drop l) key n1 bs hkl hn1l (by decide) ?_ ?_ ?_ rfl HL.out hBl hcap' hcm (by omega)).mono ?_
         exact hA2
         exact hN2
         exact hRg
         rintro e w3 ⟨rfl, hA3, hK3⟩))
  all_goals (
    have hK23 : Keeps w2 w3 (fun k => k = g) := ⟨hK3.os, hK3.tape, hK3.output, hK3.size, hK3.block⟩
    clear hK3
    obtain ⟨X3, hX3⟩ : ∃ X3, X3 = u8s (ctOf key n1 bs) ++ u8s (tagOf key n1 bs) ++ (X.drop l).drop 16 := ⟨_, rfl⟩
    have hRg3 : Arr w3 g 5 X3 := by rw [hX3]; rw [List.nil_append] at hA3; exact hA3
    have hX3l : X3.length = cap := by
      have h1 := HCAP.out; have h2 := HL.out
      rw [hX3]; simp only [List.length_append, u8s_length, ctOf_length, tagOf_length, List.length_drop]; omega
    have hT3 := hT2.of_heap (hK23.block b hT2.lt (fun h => hgb h.symm))
    have hR3 : RB w3 b 2 57 (ewR (ifA ga) (ifB bd) n1 err) g cap l X3 := ⟨hgb, by omega, hX3l, by unfold maxLen; exact hcm, hRg3, lr2, hT3⟩
    have hD3 : BV w3 bd 0 34 (fun _ => none) rowD out := hD2.kept hK23 (fun h => hgd h.symm) (fun k hk h => hgD (by rw [← h]; exact hk))
    have hGA3 : Arr w3 ga 68 (u8s key) := hK23.arr hA2 (fun h => hga h.symm)
    have hSg : esS b bd row rowD g ∨ w.heap.size ≤ g := by rcases hgF with h | h; exact Or.inr (by omega); exact Or.inl (Or.inr (Or.inr (Or.inl h)))
    have hK13 := (hK12.mono (T := fun k => esS b bd row rowD k ∨ w.heap.size ≤ k) (fun k _ h => Or.inl h)).trans (hK23.mono (fun k _ h => by rw [h]; exact hSg))
    have hs3 : w3.rangeAt g 0 (u8s (sealedOf key n1 bs)) := by
      have h := hRg3
      rw [hX3, ← u8s_append, show u8s (ctOf key n1 bs ++ tagOf key n1 bs) ++ (X.drop l).drop 16 = [] ++ u8s (sealedOf key n1 bs) ++ (X.drop l).drop 16 by rw [List.nil_append]; rfl] at h
      exact range_piece h 0 rfl
    have c1 : w3.cell? ⟨b, 1, none⟩ = some (.iface 41 (.pointer (some ⟨bd, 0, none⟩))) := hT3.rest 1 (Or.inl (by decide))
    have hsl : (sealedOf key n1 bs).length = l + 16 := by rw [sealedOf_length, ← HL.out]
    have hglt := hRg3.lt
    clear hRg hT2 hD2 hA2 hR2 hN2 c0 hK12 hK23 hBl hRg3 hX3 hA3 sl
    go_wp2_with fail
    refine (bwrite_any w3 bd 0 34 (fun _ => none) rowD out (sealedOf key n1 bs) (l + 16) g 0 cap hD3 hsl (fun h => absurd h (by omega)) (by have h1 := HO.out; omega) hs3 hgd hglt).mono ?_
    rintro e w4 ⟨rfl, gD, cD, hgD4, hD4, hK4⟩
    have hgDF : w3.heap.size ≤ gD ∨ rowIs rowD gD := hgD4.symm.imp id (fun h => ⟨cD, h⟩)
    have hR4 : RB w4 b 2 57 (ewR (ifA ga) (ifB bd) n1 err) g cap l X3 := hR3.kept hK4 (by rintro (h | h); exact hbd h; exact (HR2.out b h).1 rfl) (by rintro (h | h); exact hgd h; exact hgD h)
    have hGA4 : Arr w4 ga 68 (u8s key) := hK4.arr hGA3 (by rintro (h | h); exact had h; exact (HR2.out ga h).2 rfl)
    have hK14 := hK13.trans (hK4.mono (by rintro k _ (h | h); exact Or.inl (Or.inr (Or.inl h)); exact Or.inl (Or.inr (Or.inr (Or.inr h)))))
    have hsz34 := hK13.size
    have hgDb : gD ≠ b := by rcases hgDF with h | h; omega; exact (HR2.out gD h).1
    have hgDd : gD ≠ ga := by rcases hgDF with h | h; omega; exact (HR2.out gD h).2
    have hgDg : gD ≠ g := by rcases hgDF with h | h; omega; exact (fun h2 => hgD (by rw [← h2]; exact h))
    have HGDF := Lib.hid hgDF
    clear hgD4 hgDF hR3 hD3 hGA3 hK13 hK4 hs3 c1 hT3
    obtain ⟨q1, q2, q3, q4, q5, lr4, q6⟩ := hR4
    have hA4 := ew_arr q6
    have hn10 := ew_nonce (a := ifA ga) (d := ifB bd) (v := .slice (some ⟨g, 0, none⟩) l cap) (lr := lr4) (err := err) 10 k HK10.out
    have hset := ew_setN (a := ifA ga) (d := ifB bd) (v := .slice (some ⟨g, 0, none⟩) l cap) (lr := lr4) (nonce := n1) (err := err) 10 (k + 1) (by rw [hn1l]; decide)
    have hk1 : (k + 1).toNat = k.toNat + 1 := by rw [UInt8.toNat_add]; show (k.toNat + 1) % 256 = _; omega
    rw [hk1] at hset
    have HSET := Lib.hid hset
    clear hset hk1
    go_wp2_with fail
    refine (incN_any w4 b 5 _ _ hA4 k.toNat hn10 hk256).mono ?_
    rintro e w5 ⟨rfl, hA5, hg5⟩
    rw [HSET.out] at hA5
    have hR5 : RB w5 b 2 57 (ewR (ifA ga) (ifB bd) (n1.set 10 (k + 1)) err) g cap l X3 := ⟨q1, q2, q3, q4, q5.kept hg5 q1, lr4, ew_three hA5⟩
    have hD5 : BV w5 bd 0 34 (fun _ => none) (some (gD, cD)) (out ++ sealedOf key n1 bs) := hD4.kept (S := fun k => k = b) (Keeps.of_grown hg5 rfl) (fun h => hbd h.symm) (fun k hk h => hgDb (by rw [← rowIs_some.1 hk, h]))
    have hGA5 : Arr w5 ga 68 (u8s key) := hGA4.kept hg5 hab
    have hK15 := hK14.trans (Keeps.of_grown hg5 (Or.inl (Or.inl rfl)))
    clear q2 q3 q4 q5 q6 hA4 hn10 hA5 hg5 hD4 hGA4 hK14
    go_wp2_with fail
    refine (breset_any w5 b 2 57 _ g cap l X3 hR5).mono ?_
    rintro e w6 ⟨rfl, hR6, hK6⟩
    go_wp2_with fail
    go_ret
    have hD6 : BV w6 bd 0 34 (fun _ => none) (some (gD, cD)) (out ++ sealedOf key n1 bs) := hD5.kept hK6 (fun h => hbd h.symm) (fun k hk h => hgDb (by rw [← rowIs_some.1 hk, h]))
    refine ⟨rfl, some (g, cap), some (gD, cD), ⟨⟨X3, hR6, by simp [u8s]⟩, hD6, hK6.arr hGA5 hab, hkl, by rw [List.length_set, hn1l], hbd, hab, had, ?_, ?_⟩, ?_, ?_, ?_⟩
    · intro k hk
      rw [rowIs_some] at hk
      subst hk
      exact ⟨hgd, hga, fun h => hgDg (rowIs_some.1 h).symm⟩
    · intro k hk
      rw [rowIs_some] at hk
      subst hk
      exact ⟨hgDb, hgDd⟩
    · exact (hK15.trans (hK6.mono (fun k _ h => Or.inl (Or.inl h)))).mono (fun k hk h => h.resolve_right (by omega))
    · intro k hk
      rw [rowIs_some] at hk
      subst hk
      rcases hgF with h | h
      · exact Or.inr (by omega)
      · exact Or.inl h
    · intro k hk
      rw [rowIs_some] at hk
      subst hk
      rcases HGDF.out with h | h
      · exact Or.inr (by omega)
      · exact Or.inl h)

end Go.Proofs.YtkocgogpbammaaaDoor

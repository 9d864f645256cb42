/- bytes.Buffer's Grow and Write, the row named. Conditions: as each states. (Printed by wip/gengw.py.) -/
import Derived.Test.YtkocgogpbammaaaDoorGg
import Derived.Test.YtkocgogpbammaaaDoorCx
set_option linter.unusedVariables false
set_option linter.unusedSimpArgs false
namespace Go.Proofs.YtkocgogpbammaaaDoor
open Go.RowKit

set_option maxRecDepth 100000 in
set_option maxHeartbeats 12800000 in
theorem growA0 (w : World) (b o : Nat) (T : TypeId) (R : Nat → Option Value) (g cap l n : Nat) (X : List Value) (hz : ((l : Int) == 0) = true) (h : RB w b o T R g cap l X) (hroom : n ≤ cap - l) :
    Calls Tryd.prog 26 #[.pointer (some ⟨b, o, none⟩), .int .i64 (n : Int)] w fun e w' => e = .returned (.int .i64 (l : Int)) ∧ RB w' b o T R g cap (l + n) X ∧ Keeps w w' (fun k => k = b) := by
  obtain ⟨hgb, hlc, hX, hcm, hA, lr, h3⟩ := h
  go_enter Tryd.func26, Tryd.ntmps26
  go_wp2_with fail
  refine (blen_any _ b o T R _ l cap lr h3 (by omega)).mono ?_
  rintro e W0 ⟨rfl, k, hW0⟩
  have q3 : LibA.Three W0 b o T R (.slice (some ⟨g, 0, none⟩) l cap) (.int .i64 0) (.int .i8 lr) := by rw [hW0]; exact h3
  have qA : Arr W0 g 5 X := by rw [hW0]; exact hA
  have hk0 : Keeps w W0 (fun k => k = b) := by rw [hW0]; exact (Keeps.refl w (fun k => k = b)).drewN k
  clear hW0 h3 hA
  have c0 := q3.c0
  have c1 := q3.c1
  have f0 := q3.f o
  have HK0 := Lib.hid hk0
  clear hk0
  go_wp2_with fail
  refine (Tryd.Buffer_tryGrow_room_at b o _ l cap n _ c0 f0 hlc hcm hroom).mono ?_
  rintro e w2 ⟨rfl, rfl⟩
  go_wp2_with fail
  go_ret
  exact ⟨rfl, ⟨hgb, by omega, hX, hcm, qA.setO hgb, lr, q3.set0 _⟩, HK0.out.set b _ _ rfl⟩

set_option maxRecDepth 100000 in
set_option maxHeartbeats 12800000 in
theorem growA1 (w : World) (b o : Nat) (T : TypeId) (R : Nat → Option Value) (g cap l n : Nat) (X : List Value) (hz : ((l : Int) == 0) = false) (h : RB w b o T R g cap l X) (hroom : n ≤ cap - l) :
    Calls Tryd.prog 26 #[.pointer (some ⟨b, o, none⟩), .int .i64 (n : Int)] w fun e w' => e = .returned (.int .i64 (l : Int)) ∧ RB w' b o T R g cap (l + n) X ∧ Keeps w w' (fun k => k = b) := by
  obtain ⟨hgb, hlc, hX, hcm, hA, lr, h3⟩ := h
  go_enter Tryd.func26, Tryd.ntmps26
  go_wp2_with fail
  refine (blen_any _ b o T R _ l cap lr h3 (by omega)).mono ?_
  rintro e W0 ⟨rfl, k, hW0⟩
  have q3 : LibA.Three W0 b o T R (.slice (some ⟨g, 0, none⟩) l cap) (.int .i64 0) (.int .i8 lr) := by rw [hW0]; exact h3
  have qA : Arr W0 g 5 X := by rw [hW0]; exact hA
  have hk0 : Keeps w W0 (fun k => k = b) := by rw [hW0]; exact (Keeps.refl w (fun k => k = b)).drewN k
  clear hW0 h3 hA
  have c0 := q3.c0
  have c1 := q3.c1
  have f0 := q3.f o
  have HK0 := Lib.hid hk0
  clear hk0
  go_wp2_with fail
  refine (Tryd.Buffer_tryGrow_room_at b o _ l cap n _ c0 f0 hlc hcm hroom).mono ?_
  rintro e w2 ⟨rfl, rfl⟩
  go_wp2_with fail
  go_ret
  exact ⟨rfl, ⟨hgb, by omega, hX, hcm, qA.setO hgb, lr, q3.set0 _⟩, HK0.out.set b _ _ rfl⟩

theorem growA_any (w : World) (b o : Nat) (T : TypeId) (R : Nat → Option Value) (g cap l n : Nat) (X : List Value) (h : RB w b o T R g cap l X) (hroom : n ≤ cap - l) :
    Calls Tryd.prog 26 #[.pointer (some ⟨b, o, none⟩), .int .i64 (n : Int)] w fun e w' => e = .returned (.int .i64 (l : Int)) ∧ RB w' b o T R g cap (l + n) X ∧ Keeps w w' (fun k => k = b) := by
  cases hz : ((l : Int) == 0) with
  | true => exact growA0 w b o T R g cap l n X hz h hroom
  | false => exact growA1 w b o T R g cap l n X hz h hroom

/-- A buffer that holds the bytes bs: its row's block and capacity are named. -/
def BV (w : World) (b o : Nat) (T : TypeId) (R : Nat → Option Value) (row : Option (Nat × Nat)) (bs : List UInt8) : Prop :=
  match row with
  | none => bs = [] ∧ NB w b o T R
  | some (g, cap) => ∃ X, RB w b o T R g cap bs.length X ∧ X.take bs.length = u8s bs
def rowIs (row : Option (Nat × Nat)) (k : Nat) : Prop := ∃ c, row = some (k, c)

/-- grow, whatever the buffer holds. -/
theorem growB_any (w : World) (b o : Nat) (T : TypeId) (R : Nat → Option Value) (row : Option (Nat × Nat)) (bs : List UInt8) (n : Nat) (h : BV w b o T R row bs) (hn : 1 ≤ n) (hlim : bs.length + n ≤ 140737488355328) :
    Calls Tryd.prog 26 #[.pointer (some ⟨b, o, none⟩), .int .i64 (n : Int)] w fun e w' => e = .returned (.int .i64 (bs.length : Int)) ∧ ∃ g cap X, (row = some (g, cap) ∨ w.heap.size ≤ g) ∧ RB w' b o T R g cap (bs.length + n) X ∧ X.take bs.length = u8s bs ∧ Keeps w w' (fun k => k = b) := by
  match row, h with
  | none, ⟨hb, hN⟩ =>
    subst hb
    refine (growN_any w b o T R n hN hn (by simpa using hlim)).mono ?_
    rintro e w' ⟨rfl, g, cap, X, hg, hR, hK⟩
    exact ⟨rfl, g, cap, X, Or.inr hg, by simpa using hR, by simp [u8s], hK⟩
  | some (g, cap), ⟨X, hR, hX⟩ =>
    by_cases hroom : n ≤ cap - bs.length
    · refine (growA_any w b o T R g cap bs.length n X hR hroom).mono ?_
      rintro e w' ⟨rfl, hR', hK⟩
      exact ⟨rfl, g, cap, X, Or.inl rfl, hR', hX, hK⟩
    · refine (growR_any w b o T R g cap bs.length n X hR (by rw [hX]; exact u8s_oneCell _) hn (by omega) hlim).mono ?_
      rintro e w' ⟨rfl, g', cap', X', hg, hR', hX', hK⟩
      exact ⟨rfl, g', cap', X', Or.inr hg, hR', hX'.trans hX, hK⟩

set_option maxRecDepth 100000 in
set_option maxHeartbeats 12800000 in
theorem bgrow_any (w : World) (b o : Nat) (T : TypeId) (R : Nat → Option Value) (row : Option (Nat × Nat)) (bs : List UInt8) (n : Nat) (h : BV w b o T R row bs) (hn : 1 ≤ n) (hlim : bs.length + n ≤ 140737488355328) :
    Calls Tryd.prog 28 #[.pointer (some ⟨b, o, none⟩), .int .i64 (n : Int)] w fun e w' => e = .returned (.tuple #[]) ∧ ∃ g cap X, (row = some (g, cap) ∨ w.heap.size ≤ g) ∧ bs.length + n ≤ cap ∧ RB w' b o T R g cap bs.length X ∧ X.take bs.length = u8s bs ∧ Keeps w w' (fun k => k = b) := by
  have dn : decide ((n : Int) < 0) = false := decide_eq_false (by omega)
  have HC := Lib.hid (growB_any w b o T R row bs n h hn hlim)
  obtain ⟨l, hl⟩ : ∃ l, l = bs.length := ⟨_, rfl⟩
  rw [← hl] at HC ⊢
  have HL := Lib.hid hl
  clear hl h
  go_enter Tryd.func28, Tryd.ntmps28
  go_wp2_with fail
  refine HC.out.mono ?_
  rintro e w1 ⟨rfl, g, cap, X, hg, ⟨hgb, hlc, hX, hcm, hA, lr, h3⟩, hXt, hK⟩
  have c0 := h3.c0
  have f0 := h3.f o
  have sl : ∀ W, (Instr.sliceAt 23 (.slice (some ⟨g, 0, none⟩) (l + n) cap) none (some (.int .i64 (l : Int))) none).run Tryd.prog W = .ok (.slice (some ⟨g, 0, none⟩) l cap) W := fun W => run_upto W .i64 g 0 (l + n) cap l (by omega)
  have HX := Lib.hid hXt
  have HG := Lib.hid hg
  clear hXt hg HC
  go_wp2_with fail
  go_end0
  exact ⟨rfl, g, cap, X, HG.out, hlc, ⟨hgb, by omega, hX, hcm, hA.setO hgb, lr, h3.set0 _⟩, HX.out, hK.set b _ _ rfl⟩

theorem fromO_fit (c l n : Nat) (h : l + n ≤ c) : fromO 0 c l + n ≤ c := by unfold fromO; split <;> omega
theorem fromO_at (c l n : Nat) (h : l + n ≤ c) (hn : 1 ≤ n) : fromO 0 c l = l := by unfold fromO; split <;> omega
theorem over_at (X : List Value) (cs : List UInt8) (c l n : Nat) (hX : X.length = c) (h : l + n ≤ c) (hn : cs.length = n) :
    X.take (fromO 0 c l) ++ u8s cs ++ X.drop (fromO 0 c l + (u8s cs).length) = X.take l ++ u8s cs ++ X.drop (l + n) := by
  rw [u8s_length, hn]
  cases n with
  | zero =>
    have hc : cs = [] := List.eq_nil_of_length_eq_zero hn
    subst hc
    simp [u8s]
  | succ m => rw [fromO_at c l (m + 1) h (by omega)]

set_option maxRecDepth 100000 in
set_option maxHeartbeats 12800000 in
theorem bwriteR_any (w : World) (b o : Nat) (T : TypeId) (R : Nat → Option Value) (g cap l n gs os c : Nat) (X : List Value) (cs : List UInt8) (h : RB w b o T R g cap l X) (hroom : n ≤ cap - l) (hn : cs.length = n) (hs : w.rangeAt gs os (u8s cs)) (hsb : gs ≠ b) (hsz : gs < w.heap.size) :
    Calls Tryd.prog 17 #[.pointer (some ⟨b, o, none⟩), .slice (some ⟨gs, os, none⟩) n c] w fun e w' => e = .returned (.tuple #[.int .i64 (n : Int), .nilIface]) ∧ RB w' b o T R g cap (l + n) (X.take l ++ u8s cs ++ X.drop (l + n)) ∧ Keeps w w' (fun k => k = b ∨ k = g) := by
  obtain ⟨hgb, hlc, hX, hcm, hA, lr, h3⟩ := h
  have hk1 := (Keeps.refl w (fun k => k = b)).set b (o + 2) (.int .i8 0) rfl
  have c2 := h3.c2
  have f2 := h3.f (o + 2)
  have q3 := h3.set2 (.int .i8 0)
  have c0 := q3.c0
  have f0 := q3.f o
  have r3 := q3.set0 (.slice (some ⟨g, 0, none⟩) (l + n) cap)
  have hk2 := hk1.set b o (.slice (some ⟨g, 0, none⟩) (l + n) cap) rfl
  have qA : Arr ((w.setCell ⟨b, o + 2, none⟩ (.int .i8 0)).setCell ⟨b, o, none⟩ (.slice (some ⟨g, 0, none⟩) (l + n) cap)) g 5 X := (hA.setO hgb).setO hgb
  have hs2 := hk2.range hs hsb
  have hlt := r3.lt
  obtain ⟨q, hq⟩ : ∃ q, q = fromO 0 cap l := ⟨_, rfl⟩
  have sl : ∀ W, (Instr.sliceAt 23 (.slice (some ⟨g, 0, none⟩) (l + n) cap) (some (.int .i64 (l : Int))) none none).run Tryd.prog W = .ok (.slice (some ⟨g, q, none⟩) n (cap - l)) W := fun W => by
    have h := run_from W .i64 g 0 (l + n) cap l (by omega) (by omega)
    rw [← hq, show l + n - l = n by omega] at h
    exact h
  have hfit : q + (u8s cs).length ≤ X.length := by rw [u8s_length, hn, hX, hq]; exact fromO_fit _ _ _ (by omega)
  have hmin : (u8s cs).length = Nat.min n n := by rw [u8s_length, hn]; exact (Nat.min_self n).symm
  have HO := Lib.hid (over_at X cs cap l n hX (by omega) hn)
  rw [← hq] at HO
  have HN : Hid ((u8s cs).length = n) := Lib.hid (by rw [u8s_length, hn])
  clear hq hn h3
  go_enter Tryd.func17, Tryd.ntmps17
  go_wp2_with fail
  refine (Tryd.Buffer_tryGrow_room_at b o _ l cap n _ c0 f0 hlc hcm hroom).mono ?_
  rintro e w2 ⟨rfl, hw2⟩
  rw [← hw2] at r3 hk2 qA hs2
  have d0 := r3.c0
  have HN2 := HN.out
  clear c0 f0 c2 f2 q3 hw2 hk1 hA hs
  go_wp2_with (refine wpList_copyV bs_undE u8_size1 rfl (.tmp 29) (.tmp 30) rfl g q n (cap - l) gs os n c X (u8s cs) hmin rfl rfl qA hs2 hfit (u8s_oneCell _) ?_; intro w6 hT6 hg6; rw [HN2])
  go_ret2
  rw [HO.out] at hT6
  have hb6 : w6.heap[b]? = w2.heap[b]? := hg6.block b r3.lt (fun e => hgb (Option.some.inj e).symm)
  exact ⟨rfl, ⟨hgb, by omega, by simp only [List.length_append, List.length_take, List.length_drop, HN.out]; omega, hcm, hT6, 0, r3.of_heap hb6⟩, (hk2.mono (fun k _ h => Or.inl h)).trans (Keeps.of_grown hg6 (Or.inr rfl))⟩

set_option maxRecDepth 100000 in
set_option maxHeartbeats 12800000 in
theorem bwriteG_any (w : World) (b o : Nat) (T : TypeId) (R : Nat → Option Value) (v : Option Addr) (cap0 l n gs os c : Nat) (lr : Int) (P : List Value) (cs : List UInt8) (h3 : LibA.Three w b o T R (.slice v l cap0) (.int .i64 0) (.int .i8 lr)) (hlc : l ≤ cap0) (hcm : cap0 ≤ maxLen) (hroom : cap0 - l < n) (hn : cs.length = n)
    (hG : Calls Tryd.prog 26 #[.pointer (some ⟨b, o, none⟩), .int .i64 (n : Int)] (w.setCell ⟨b, o + 2, none⟩ (.int .i8 0)) fun e w' => e = .returned (.int .i64 (l : Int)) ∧ ∃ g cap X, w.heap.size ≤ g ∧ RB w' b o T R g cap (l + n) X ∧ X.take l = P ∧ Keeps (w.setCell ⟨b, o + 2, none⟩ (.int .i8 0)) w' (fun k => k = b))
    (hs : w.rangeAt gs os (u8s cs)) (hsb : gs ≠ b) (hsz : gs < w.heap.size) :
    Calls Tryd.prog 17 #[.pointer (some ⟨b, o, none⟩), .slice (some ⟨gs, os, none⟩) n c] w fun e w' => e = .returned (.tuple #[.int .i64 (n : Int), .nilIface]) ∧ ∃ g cap X, w.heap.size ≤ g ∧ RB w' b o T R g cap (l + n) X ∧ X.take (l + n) = P ++ u8s cs ∧ Keeps w w' (fun k => k = b) := by
  have hk1 := (Keeps.refl w (fun k => k = b)).set b (o + 2) (.int .i8 0) rfl
  have c2 := h3.c2
  have f2 := h3.f (o + 2)
  have q3 := h3.set2 (.int .i8 0)
  have c0 := q3.c0
  have f0 := q3.f o
  have hlb := h3.lt
  have hmin : (u8s cs).length = Nat.min n n := by rw [u8s_length, hn]; exact (Nat.min_self n).symm
  have HN : Hid (cs.length = n) := Lib.hid hn
  have HS := Lib.hid hs
  have HG := Lib.hid hG
  clear hn hs hG h3
  go_enter Tryd.func17, Tryd.ntmps17
  go_wp2_with fail
  refine (Tryd.Buffer_tryGrow_none_at b o _ l cap0 n _ c0 hlc hcm hroom).mono ?_
  rintro e w2 ⟨rfl, rfl⟩
  clear c0 f0 c2 f2 q3
  go_wp2_with fail
  refine HG.out.mono ?_
  rintro e w3 ⟨rfl, g, cap, X, hg, ⟨hgb, hlc2, hX, hcm2, hA, lr2, r3⟩, hXt, hK3⟩
  have hk3 := hk1.trans hK3
  have hs3 := hk3.range HS.out hsb
  have d0 := r3.c0
  obtain ⟨q, hq⟩ : ∃ q, q = fromO 0 cap l := ⟨_, rfl⟩
  have sl : ∀ W, (Instr.sliceAt 23 (.slice (some ⟨g, 0, none⟩) (l + n) cap) (some (.int .i64 (l : Int))) none none).run Tryd.prog W = .ok (.slice (some ⟨g, q, none⟩) n (cap - l)) W := fun W => by
    have h := run_from W .i64 g 0 (l + n) cap l (by omega) (by omega)
    rw [← hq, show l + n - l = n by omega] at h
    exact h
  have hfit : q + (u8s cs).length ≤ X.length := by rw [u8s_length, HN.out, hX, hq]; exact fromO_fit _ _ _ hlc2
  have HO := Lib.hid (over_at X cs cap l n hX hlc2 HN.out)
  rw [← hq] at HO
  have HN2 : (u8s cs).length = n := by rw [u8s_length, HN.out]
  have HXT := Lib.hid hXt
  clear hq hXt hK3 hk1
  go_wp2_with (refine wpList_copyV bs_undE u8_size1 rfl (.tmp 29) (.tmp 30) rfl g q n (cap - l) gs os n c X (u8s cs) hmin rfl rfl hA hs3 hfit (u8s_oneCell _) ?_; intro w6 hT6 hg6; rw [HN2])
  go_ret2
  rw [HO.out] at hT6
  have hb6 : w6.heap[b]? = w3.heap[b]? := hg6.block b r3.lt (fun e => hgb (Option.some.inj e).symm)
  have hlen : (X.take l ++ u8s cs ++ X.drop (l + n)).length = cap := by simp only [List.length_append, List.length_take, List.length_drop, HN2]; omega
  refine ⟨rfl, g, cap, X.take l ++ u8s cs ++ X.drop (l + n), hg, ⟨hgb, hlc2, hlen, hcm2, hT6, lr2, r3.of_heap hb6⟩, ?_, (hk3.mono (T := fun k => k = b ∨ k = g) (fun k _ h => Or.inl h) |>.trans (Keeps.of_grown hg6 (Or.inr rfl))).mono ?_⟩
  · rw [List.take_append_of_le_length (by simp only [List.length_append, List.length_take, HN2]; omega), List.take_of_length_le (by simp only [List.length_append, List.length_take, HN2]; omega), HXT.out]
  · rintro k hk (h | h)
    · exact h
    · omega

/-- Write, whatever the buffer holds. -/
theorem bwrite_any (w : World) (b o : Nat) (T : TypeId) (R : Nat → Option Value) (row : Option (Nat × Nat)) (bs cs : List UInt8) (n gs os c : Nat) (h : BV w b o T R row bs) (hn : cs.length = n) (h0 : n = 0 → row ≠ none) (hlim : bs.length + n ≤ 140737488355328)
    (hs : w.rangeAt gs os (u8s cs)) (hsb : gs ≠ b) (hsz : gs < w.heap.size) :
    Calls Tryd.prog 17 #[.pointer (some ⟨b, o, none⟩), .slice (some ⟨gs, os, none⟩) n c] w fun e w' => e = .returned (.tuple #[.int .i64 (n : Int), .nilIface]) ∧ ∃ g cap, (row = some (g, cap) ∨ w.heap.size ≤ g) ∧ BV w' b o T R (some (g, cap)) (bs ++ cs) ∧ Keeps w w' (fun k => k = b ∨ rowIs row k) := by
  match row, h with
  | none, ⟨hb, lr, h3⟩ =>
    subst hb
    have hn1 : 1 ≤ n := by rcases Nat.eq_zero_or_pos n with h | h; exact absurd rfl (h0 h); exact h
    have hsz1 : (w.setCell ⟨b, o + 2, none⟩ (.int .i8 0)).heap.size = w.heap.size := by simp [World.setCell]
    have hG := growN_any (w.setCell ⟨b, o + 2, none⟩ (.int .i8 0)) b o T R n ⟨0, h3.set2 _⟩ hn1 (by simpa using hlim)
    refine (bwriteG_any w b o T R none 0 0 n gs os c lr [] cs h3 (Nat.le_refl _) (Nat.zero_le _) (by omega) hn (hG.mono ?_) hs hsb hsz).mono ?_
    · rintro e w' ⟨rfl, g, cap, X, hg, hR, hK⟩
      exact ⟨rfl, g, cap, X, by rw [← hsz1]; exact hg, by simpa using hR, by simp, hK⟩
    · rintro e w' ⟨rfl, g, cap, X, hg, hR, hX, hK⟩
      refine ⟨rfl, g, cap, Or.inr hg, ⟨X, by simpa [hn] using hR, by simpa [hn] using hX⟩, hK.mono (fun k _ h => Or.inl h)⟩
  | some (g, cap), ⟨X, hR, hX⟩ =>
    by_cases hroom : n ≤ cap - bs.length
    · refine (bwriteR_any w b o T R g cap bs.length n gs os c X cs hR hroom hn hs hsb hsz).mono ?_
      rintro e w' ⟨rfl, hR', hK⟩
      refine ⟨rfl, g, cap, Or.inl rfl, ⟨_, by rw [List.length_append, hn]; exact hR', ?_⟩, hK.mono (fun k _ h => h.imp id (fun h => ⟨cap, by rw [h]⟩))⟩
      have hl : bs.length ≤ X.length := by rw [hR.2.2.1]; exact hR.2.1
      rw [hX, u8s_append, List.take_append_of_le_length (by simp), List.take_of_length_le (by simp)]
    · have hR0 := hR
      obtain ⟨hgb, hlc, hXl, hcm, hA, lr, h3⟩ := hR
      have hR1 : RB (w.setCell ⟨b, o + 2, none⟩ (.int .i8 0)) b o T R g cap bs.length X := ⟨hgb, hlc, hXl, hcm, hA.setO hgb, 0, h3.set2 _⟩
      have hsz1 : (w.setCell ⟨b, o + 2, none⟩ (.int .i8 0)).heap.size = w.heap.size := by simp [World.setCell]
      have hG := growR_any (w.setCell ⟨b, o + 2, none⟩ (.int .i8 0)) b o T R g cap bs.length n X hR1 (by rw [hX]; exact u8s_oneCell _) (by omega) (by omega) hlim
      refine (bwriteG_any w b o T R _ cap bs.length n gs os c lr (u8s bs) cs h3 hlc hcm (by omega) hn (hG.mono ?_) hs hsb hsz).mono ?_
      · rintro e w' ⟨rfl, g', cap', X', hg, hR', hX', hK⟩
        exact ⟨rfl, g', cap', X', by rw [← hsz1]; exact hg, hR', hX'.trans hX, hK⟩
      · rintro e w' ⟨rfl, g', cap', X', hg, hR', hX', hK⟩
        refine ⟨rfl, g', cap', Or.inr hg, ⟨X', by simpa [hn] using hR', by simpa [hn, u8s_append] using hX'⟩, hK.mono (fun k _ h => Or.inl h)⟩
end Go.Proofs.YtkocgogpbammaaaDoor

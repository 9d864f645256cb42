/- chachapoly's sealGeneric in place. Conditions: as it states. -/
import Derived.Test.YtkocgogpbammaaaDoorCx
import Derived.Test.YtkocgogpbammaaaDoorCn
import Derived.Test.YtkocgogpbammaaaDoorEa
import Derived.Test.YtkocgogpbammaaaDoorSj
import Derived.Test.YtkocgogpbammaaaDoorGg
set_option linter.unusedVariables false
set_option linter.unusedSimpArgs false
namespace Go.Proofs.YtkocgogpbammaaaDoor
open Go.RowKit

def zer32 : List UInt8 := [0, 0, 0, 0, 0, 0, 0, 0, 0, 0, 0, 0, 0, 0, 0, 0, 0, 0, 0, 0, 0, 0, 0, 0, 0, 0, 0, 0, 0, 0, 0, 0]

def pkOf (key nonce : List UInt8) : List UInt8 := XM (ksf (kwOf key) 0 (nwOf nonce)) 32 zer32
def ctOf (key nonce text : List UInt8) : List UInt8 := XM (ksf (kwOf key) 1 (nwOf nonce)) text.length text
def mOf (ct : List UInt8) : List UInt8 := padB [] ++ padB ct ++ Lib.leBytes 8 0 ++ Lib.leBytes 8 ct.length
def tagOf (key nonce text : List UInt8) : List UInt8 := polyT (pkOf key nonce) (mOf (ctOf key nonce text))
@[simp] theorem ctOf_length (key nonce text : List UInt8) : (ctOf key nonce text).length = text.length := by simp [ctOf]
@[simp] theorem pkOf_length (key nonce : List UInt8) : (pkOf key nonce).length = 32 := by simp [pkOf, zer32]
@[simp] theorem tagOf_length (key nonce text : List UInt8) : (tagOf key nonce text).length = 16 := by simp [tagOf]
theorem kwOf_lt (key : List UInt8) : ∀ x ∈ kwOf key, x < 4294967296 := by
  intro x hx
  simp only [kwOf, List.mem_cons, List.not_mem_nil, or_false] at hx
  rcases hx with rfl | rfl | rfl | rfl | rfl | rfl | rfl | rfl <;> exact leW_lt _ _
theorem nwOf_lt (nonce : List UInt8) : ∀ x ∈ nwOf nonce, x < 4294967296 := by
  intro x hx
  simp only [nwOf, List.mem_cons, List.not_mem_nil, or_false] at hx
  rcases hx with rfl | rfl | rfl <;> exact leW_lt _ _

/-- The stream over a text of any length, at counter 1. -/
theorem xksT_any (w : World) (gc g o : Nat) (t : TypeId) (A B : List Value) (kw nw : List Nat) (buf l : List UInt8) (pd : Bool) (ps : List Nat) (n c : Nat)
    (hkw : kw.length = 8) (hnw : nw.length = 3) (hps : ps.length = 12) (hkb : ∀ x ∈ kw, x < 4294967296) (hnb : ∀ x ∈ nw, x < 4294967296) (hpd : pd = true → PC kw nw ps)
    (hX : XI false w gc g o t A B kw 1 nw buf l 0 pd ps) (hn : n = l.length) (hc : n < c) (hbig : n ≤ 100000000) :
    Calls Tryd.prog 62 #[.pointer (some ⟨gc, 0, none⟩), .slice (some ⟨g, o, none⟩) n c, .slice (some ⟨g, o, none⟩) n c] w fun e w' => e = .returned (.tuple #[]) ∧
      Arr w' g t (A ++ u8s (XM (ksf kw 1 nw) n l) ++ B) ∧ Keeps w w' (twoS gc g) := by
  rcases Nat.eq_zero_or_pos n with h0 | h0
  · subst h0
    refine (xks0_any w _ _ _ c).mono ?_
    rintro e w' ⟨rfl, rfl⟩
    exact ⟨rfl, by rw [XM_zero]; exact hX.2.2.2.2, Keeps.refl _ _⟩
  · refine (xks_any w gc g o t A B kw 1 nw buf l pd ps n c c hkw hnw hps hkb hnb hpd hX hn (by omega) h0 (by omega) (by omega) (by unfold fullN; omega) (by unfold fullN; omega) (by omega)).mono ?_
    rintro e w' ⟨rfl, b', len', ps', _, _, _, hX', hK⟩
    exact ⟨rfl, hX'.2.2.2.2, hK⟩

set_option maxRecDepth 100000 in
set_option maxHeartbeats 8000000 in
theorem sealG_any (w : World) (ga gn on cn gt ot n cap : Nat) (tT : TypeId) (A B : List Value) (key nonce text : List UInt8) (hk : key.length = 32) (hn : nonce.length = 12) (hcn : 12 ≤ cn)
    (hKA : Arr w ga 68 (u8s key)) (hNR : w.rangeAt gn on (u8s nonce)) (hT : Arr w gt tT (A ++ u8s text ++ B)) (hA : A.length = ot) (hl : n = text.length) (hB : 16 ≤ B.length) (hcap : n + 16 ≤ cap) (hcm : cap ≤ 9223372036854775807) (hbig : n ≤ 100000000) :
    Calls Tryd.prog 59 #[.pointer (some ⟨ga, 0, none⟩), .slice (some ⟨gt, ot, none⟩) 0 cap, .slice (some ⟨gn, on, none⟩) 12 cn, .slice (some ⟨gt, ot, none⟩) n cap, .slice none 0 0] w fun e w' =>
      e = .returned (.slice (some ⟨gt, ot, none⟩) (n + 16) cap) ∧ Arr w' gt tT (A ++ u8s (ctOf key nonce text) ++ u8s (tagOf key nonce text) ++ B.drop 16) ∧ Keeps w w' (fun k => k = gt) := by
  obtain ⟨m, hm⟩ : ∃ m, m = n + 16 := ⟨_, rfl⟩
  obtain ⟨q, hq⟩ : ∃ q, q = ot + n := ⟨_, rfl⟩
  obtain ⟨c2, hc2⟩ : ∃ c, c = cap - n := ⟨_, rfl⟩
  have em : IntKind.i64.wrap ((n : Int) + 16) = (m : Int) := (IntWalk.i64_in _ (by omega)).trans (by omega)
  have sl1 : ∀ W, (Instr.sliceAt 23 (.slice (some ⟨gt, ot, none⟩) m cap) none (some (.int .i64 (n : Int))) none).run Tryd.prog W = .ok (.slice (some ⟨gt, ot, none⟩) n cap) W := fun W => run_upto W .i64 gt ot m cap n (by omega)
  have sl2 : ∀ W, (Instr.sliceAt 23 (.slice (some ⟨gt, ot, none⟩) m cap) (some (.int .i64 (n : Int))) none none).run Tryd.prog W = .ok (.slice (some ⟨gt, q, none⟩) 16 c2) W := fun W => by
    have h := run_from W .i64 gt ot m cap n (by omega) (by omega)
    rw [show fromO ot cap n = q by unfold fromO; split <;> omega, show m - n = 16 by omega, ← hc2] at h
    exact h
  have sl3 : ∀ W, (Instr.sliceAt 23 (.slice (some ⟨gt, q, none⟩) 16 c2) none (some (.int .i64 0)) none).run Tryd.prog W = .ok (.slice (some ⟨gt, q, none⟩) 0 c2) W := fun W => run_upto W .i64 gt q 16 c2 0 (Nat.zero_le _)
  have lmc : m ≤ cap := by omega
  have l16 : 16 ≤ c2 := by omega
  have hlt := hT.lt
  have hla := hKA.lt
  rw [← hm]
  have HM := Lib.hid hm
  have HQ := Lib.hid hq
  have HC2 := Lib.hid hc2
  have HL := Lib.hid hl
  have HA := Lib.hid hA
  have HB := Lib.hid hB
  clear hm hq hc2 hl hA hB
  go_enter Tryd.func59, Tryd.ntmps59
  go_wp2_with fail
  refine (sfa_any w gt ot m cap lmc hcm).mono ?_
  rintro e w' ⟨rfl, rfl⟩
  go_wp2_with fail
  go_quiet (fail)
  have hb1 := below_alloc (w'.drewN nq) (.cells (u8s zer32).toArray 22)
  have hP1 : Arr ((w'.drewN nq).alloc (.cells (u8s zer32).toArray 22)) w'.heap.size 22 (u8s zer32) := arr_new (w'.drewN nq) (u8s zer32) 22
  have hK1 := Arr.below (w := w'.drewN nq) hKA hb1
  have hN1 := range_below (w := w'.drewN nq) hNR hb1
  have hT1 := Arr.below (w := w'.drewN nq) hT hb1
  have hs1 : ((w'.drewN nq).alloc (.cells (u8s zer32).toArray 22)).heap.size = w'.heap.size + 1 := size_alloc _ _
  have hS1 := ((Keeps.refl w' (fun k => k = gt ∨ w'.heap.size ≤ k)).drewN nq).trans (Keeps.of_below hb1 _)
  go_wp2_with fail
  change Calls _ _ _ ((w'.drewN nq).alloc (.cells (u8s zer32).toArray 22)) _
  generalize (w'.drewN nq).alloc (.cells (u8s zer32).toArray 22) = w1 at hP1 hK1 hN1 hT1 hs1 hS1 ⊢
  have hKR1 : w1.rangeAt ga 0 (u8s key) := hK1.range
  clear hb1 hT hKA hNR hK1
  refine (newCipher_any w1 ga 0 32 gn on cn key nonce hk hn (by decide) hcn hKR1 hN1).mono ?_
  rintro e w2 ⟨rfl, hC2, hb2⟩
  have hP2 := hP1.below hb2
  have hT2 := hT1.below hb2
  have hS2 := hS1.trans (Keeps.of_below hb2 _)
  obtain ⟨gp, hgp⟩ : ∃ g, g = w'.heap.size := ⟨_, rfl⟩
  generalize w1.heap.size = gc at hs1 hC2 ⊢
  have hlp := hP2.lt
  rw [← hgp] at hP2 hS2 hs1 hlp hlt ⊢
  have lgc : gp < gc := by omega
  have ltg : gt < gp := hlt
  have HS1 := Lib.hid hs1
  have HGP := Lib.hid hgp
  clear hP1 hT1 hN1 hKR1 hS1 hb2 hs1 hgp hlt
  go_wp2_with fail
  refine wp_region_still_tail 3 (by as_aux_lemma => kernel_rfl) (by as_aux_lemma => kernel_rfl) ?_
  change wpStill _ _ w2.drew (fun a' => wpList _ _ _ _ a' w2.drew) _ _
  have hP3 : Arr w2.drew gp _ _ := hP2
  have hC3 : Arr w2.drew gc _ _ := hC2
  have hT3 : Arr w2.drew gt _ _ := hT2
  have hS3 := hS2.drew
  generalize w2.drew = w3 at hP3 hC3 hT3 hS3 ⊢
  simp only [List.take_succ_cons, List.take_zero, List.drop_succ_cons, List.drop_zero]
  repeat still_step
  refine wpStill_nil ?_
  go_wp2_with fail
  have hX3 : XI false w3 gc gp 0 22 [] [] (kwOf key) 0 (nwOf nonce) zer64 zer32 0 false z12 := ⟨by omega, rfl, rfl, hC3, by simpa using hP3⟩
  have e1 : (32 : Nat) = zer32.length := rfl
  have e2 : 0 + (32 + 63) / 64 < 4294967296 := by omega
  have e3 : fullN 32 < 32 := by unfold fullN; omega
  have e4 : (kwOf key).length = 8 := rfl
  have e5 : (nwOf nonce).length = 3 := rfl
  have e6 : z12.length = 12 := rfl
  have HXK := xks_any w3 gc gp 0 22 [] [] (kwOf key) 0 (nwOf nonce) zer64 zer32 false z12 32 32 32 e4 e5 e6 (kwOf_lt _) (nwOf_lt _) (by intro h; cases h) hX3 e1 e2 (by omega) (by omega) (by omega) e3 e3 (by omega)
  skip
  refine HXK.mono ?_
  rintro e w4 ⟨rfl, b4, len4, ps4, hb4, hl4, hPC4, hX4, hK4⟩
  have hps4 : ps4.length = 12 := by
    obtain ⟨a1, a2, a3, a4, b1, b2, b3, b4, e1, e2, e3, e4, h, _⟩ := hPC4
    rw [h]; rfl
  have hC4 : Arr w4 gc _ (cphC (kwOf key) 1 (nwOf nonce) b4 len4 true ps4) := hX4.2.2.2.1
  have hP4 : Arr w4 gp 22 (u8s (pkOf key nonce)) := by
    have h := hX4.2.2.2.2
    rw [List.nil_append, List.append_nil] at h
    exact h
  have hT4 := hK4.arr hT3 (by rintro (h | h) <;> omega)
  have hS4 := hS3.trans (hK4.mono (T := fun k => k = gt ∨ gp ≤ k) (by rintro k _ (h | h) <;> omega))
  have HPC := Lib.hid hPC4
  clear hX3 hX4 hK4 hPC4 hP3 hC3 hT3 hS3 hP2 hC2 hT2 hS2
  go_wp2_with fail
  refine (setCtr_any w4 gc (kwOf key) (nwOf nonce) ps4 b4 len4 true rfl rfl hb4 hl4 hC4).mono ?_
  rintro e w5 ⟨rfl, hC5, hg5⟩
  have hP5 := hP4.kept hg5 (by omega)
  have hT5 := hT4.kept hg5 (by omega)
  have hS5 := hS4.trans (Keeps.of_grown hg5 (Or.inr (by omega)))
  clear hP4 hC4 hT4 hS4 hg5
  go_wp2_with fail
  refine (xksT_any w5 gc gt ot tT A B (kwOf key) (nwOf nonce) b4 text true ps4 n cap rfl rfl hps4 (kwOf_lt _) (nwOf_lt _) (fun _ => HPC.out) ⟨by omega, HA.out, hb4, hC5, hT5⟩ HL.out (by omega) hbig).mono ?_
  rintro e w6 ⟨rfl, hT6, hK6⟩
  have hct : XM (ksf (kwOf key) 1 (nwOf nonce)) n text = ctOf key nonce text := by rw [HL.out]; rfl
  rw [hct] at hT6
  obtain ⟨ct, hct2⟩ : ∃ ct, ct = ctOf key nonce text := ⟨_, rfl⟩
  have hctl : ct.length = n := by rw [hct2, ctOf_length, HL.out]
  rw [← hct2] at hT6
  have HCT := Lib.hid hct2
  have hP6 := hK6.arr hP5 (by rintro (h | h) <;> omega)
  have hS6 := hS5.trans (hK6.mono (T := fun k => k = gt ∨ gp ≤ k) (by rintro k _ (h | h) <;> omega))
  clear hct hct2 hP5 hC5 hT5 hS5 hK6
  go_wp2_with fail
  refine (macNew_any w6 gp 22 (pkOf key nonce) (pkOf_length _ _) hP6).mono ?_
  rintro e w7 ⟨rfl, hM7, hb7⟩
  have hT7 := hT6.below hb7
  have hS7 := hS6.trans (Keeps.of_below hb7 _)
  have hm6 := hS6.size
  have hlt6 := hT6.lt
  have hlp6 := hP6.lt
  have hlm6 : gp ≤ w6.heap.size := by omega
  generalize w6.heap.size = gm at hM7 hm6 hlt6 hlp6 hlm6 ⊢
  clear hm6
  clear hT6 hS6 hP6 hb7
  go_wp2_with fail
  refine (wpad_any w7 gm (pkOf key nonce) [] [] none 0 (pkOf_length _ _) hM7 rfl (fun h => absurd h (by simp [u8s])) (Nat.le_refl _) (by rintro b o s h; cases h) (by decide)).mono ?_
  rintro e w8 ⟨rfl, hM8, hg8⟩
  have hT8 := hT7.kept hg8 (by omega)
  have hS8 := hS7.trans (Keeps.of_grown hg8 (Or.inr (by omega)))
  clear hM7 hT7 hS7 hg8
  go_wp2_with fail
  have hAt8 : At w8 (some ⟨gt, ot, none⟩) (u8s ct) := range_at (range_piece hT8 ot HA.out)
  have hWP := wpad_any w8 gm (pkOf key nonce) ([] ++ padB []) ct (some ⟨gt, ot, none⟩) cap (pkOf_length _ _) hM8 (by decide) hAt8 (by omega) (by rintro b o s h; cases h; omega) (by omega)
  rw [hctl] at hWP
  refine hWP.mono ?_
  rintro e w9 ⟨rfl, hM9, hg9⟩
  have hT9 := hT8.kept hg9 (by omega)
  have hS9 := hS8.trans (Keeps.of_grown hg9 (Or.inr (by omega)))
  clear hM8 hT8 hS8 hg9 hWP hAt8
  have hz9 : (([] : List UInt8) ++ padB [] ++ padB ct).length % 16 = 0 := by
    have h := padB_len ct
    simp only [List.length_append, List.length_nil]
    have h2 := padB_len ([] : List UInt8)
    omega
  go_wp2_with fail
  refine (wu64_any w9 gm 0 (pkOf key nonce) _ (pkOf_length _ _) hM9 (Or.inl hz9) (by decide)).mono ?_
  rintro e w10 ⟨rfl, hM10, hg10⟩
  have hT10 := hT9.kept hg10 (by omega)
  have hS10 := hS9.trans (Keeps.of_grown hg10 (Or.inr (by omega)))
  clear hM9 hT9 hS9 hg10
  have hz10 : (([] : List UInt8) ++ padB [] ++ padB ct ++ Lib.leBytes 8 0).length % 16 = 8 := by
    rw [List.length_append, Lib.leBytes_length]; omega
  go_wp2_with fail
  refine (wu64_any w10 gm n (pkOf key nonce) _ (pkOf_length _ _) hM10 (Or.inr hz10) (by omega)).mono ?_
  rintro e w11 ⟨rfl, hM11, hg11⟩
  have hT11 := hT10.kept hg11 (by omega)
  have hS11 := hS10.trans (Keeps.of_grown hg11 (Or.inr (by omega)))
  clear hM10 hT10 hS10 hg11
  have hz11 : (([] : List UInt8) ++ padB [] ++ padB ct ++ Lib.leBytes 8 0 ++ Lib.leBytes 8 n).length % 16 = 0 := by
    rw [List.length_append, Lib.leBytes_length]; omega
  have hq11 : q + 16 ≤ (A ++ u8s ct ++ B).length := by
    have h1 := HQ.out; have h2 := HB.out; have h3 := HA.out
    simp only [List.length_append, u8s_length, hctl]; omega
  go_wp2_with fail
  refine (msum_any w11 gm gt q c2 tT (pkOf key nonce) _ _ (pkOf_length _ _) hM11 hz11 hT11 hq11 l16 (by omega)).mono ?_
  rintro e w12 ⟨rfl, hT12, hK12⟩
  have hS12 := hS11.trans (hK12.mono (T := fun k => k = gt ∨ gp ≤ k) (by rintro k _ (h | h) <;> omega))
  go_wp2_with fail
  go_ret
  refine ⟨rfl, ?_, hS12.mono (fun k hk h => by have h1 := HGP.out; omega)⟩
  have hq1 : (A ++ u8s ct).length = q := by
    have h1 := HQ.out; have h3 := HA.out
    simp only [List.length_append, u8s_length, hctl]; omega
  have hd1 : (A ++ u8s ct ++ B).drop (q + 16) = B.drop 16 := by rw [← hq1, List.drop_append, List.drop_of_length_le (by omega), List.nil_append, Nat.add_sub_cancel_left]
  rw [List.take_left' hq1, hd1] at hT12
  rw [show tagOf key nonce text = polyT (pkOf key nonce) ([] ++ padB [] ++ padB ct ++ Lib.leBytes 8 0 ++ Lib.leBytes 8 n) by unfold tagOf mOf; rw [← HCT.out, hctl, List.nil_append], ← HCT.out]
  simpa using hT12
end Go.Proofs.YtkocgogpbammaaaDoor

/- chachapoly's seal, Seal and New. Conditions: as each states. -/

namespace Go.Proofs.YtkocgogpbammaaaDoor
open Go.RowKit

set_option maxRecDepth 100000 in
set_option maxHeartbeats 2000000 in
theorem seal58_any (w : World) (ga gn on cn gt ot n cap : Nat) (tT : TypeId) (A B : List Value) (key nonce text : List UInt8) (hk : key.length = 32) (hn : nonce.length = 12) (hcn : 12 ≤ cn)
    (hKA : Arr w ga 68 (u8s key)) (hNR : w.rangeAt gn on (u8s nonce)) (hT : Arr w gt tT (A ++ u8s text ++ B)) (hA : A.length = ot) (hl : n = text.length) (hB : 16 ≤ B.length) (hcap : n + 16 ≤ cap) (hcm : cap ≤ 9223372036854775807) (hbig : n ≤ 100000000) :
    Calls Tryd.prog 58 #[.pointer (some ⟨ga, 0, none⟩), .slice (some ⟨gt, ot, none⟩) 0 cap, .slice (some ⟨gn, on, none⟩) 12 cn, .slice (some ⟨gt, ot, none⟩) n cap, .slice none 0 0] w fun e w' =>
      e = .returned (.slice (some ⟨gt, ot, none⟩) (n + 16) cap) ∧ Arr w' gt tT (A ++ u8s (ctOf key nonce text) ++ u8s (tagOf key nonce text) ++ B.drop 16) ∧ Keeps w w' (fun k => k = gt) := by
  have HC := Lib.hid (sealG_any w ga gn on cn gt ot n cap tT A B key nonce text hk hn hcn hKA hNR hT hA hl hB hcap hcm hbig)
  clear hk hn hcn hKA hNR hT hA hl hB hcap hcm hbig
  go_enter Tryd.func58, Tryd.ntmps58
  go_wp2_with fail
  refine HC.out.mono ?_
  rintro e w' ⟨rfl, hA', hK'⟩
  go_wp2_with fail
  go_ret
  exact ⟨rfl, hA', hK'⟩

set_option maxRecDepth 100000 in
set_option maxHeartbeats 2000000 in
theorem seal_any (w : World) (ga gn on cn gt ot n cap : Nat) (tT : TypeId) (A B : List Value) (key nonce text : List UInt8) (hk : key.length = 32) (hn : nonce.length = 12) (hcn : 12 ≤ cn)
    (hKA : Arr w ga 68 (u8s key)) (hNR : w.rangeAt gn on (u8s nonce)) (hT : Arr w gt tT (A ++ u8s text ++ B)) (hA : A.length = ot) (hl : n = text.length) (hB : 16 ≤ B.length) (hcap : n + 16 ≤ cap) (hcm : cap ≤ 9223372036854775807) (hbig : n ≤ 100000000) :
    Calls Tryd.prog 57 #[.pointer (some ⟨ga, 0, none⟩), .slice (some ⟨gt, ot, none⟩) 0 cap, .slice (some ⟨gn, on, none⟩) 12 cn, .slice (some ⟨gt, ot, none⟩) n cap, .slice none 0 0] w fun e w' =>
      e = .returned (.slice (some ⟨gt, ot, none⟩) (n + 16) cap) ∧ Arr w' gt tT (A ++ u8s (ctOf key nonce text) ++ u8s (tagOf key nonce text) ++ B.drop 16) ∧ Keeps w w' (fun k => k = gt) := by
  have HC := Lib.hid (seal58_any w ga gn on cn gt ot n cap tT A B key nonce text hk hn hcn hKA hNR hT hA hl hB hcap hcm hbig)
  have en : IntKind.u64.wrap (n : Int) = (n : Int) := IntWalk.u64_in _ (by omega)
  have dn : decide ((n : Int) > 274877906880) = false := decide_eq_false (by omega)
  have dn2 : decide (274877906880 < n) = false := decide_eq_false (by omega)
  clear hk hn hcn hKA hNR hT hA hl hB hcap hcm
  go_enter Tryd.func57, Tryd.ntmps57
  go_wp2_with fail
  refine HC.out.mono ?_
  rintro e w' ⟨rfl, hA', hK'⟩
  go_wp2_with fail
  go_ret
  exact ⟨rfl, hA', hK'⟩

set_option maxRecDepth 100000 in
set_option maxHeartbeats 2000000 in
theorem aeadNew_any (w : World) (gk ok c : Nat) (key : List UInt8) (hk : key.length = 32) (hKR : w.rangeAt gk ok (u8s key)) :
    Calls Tryd.prog 15 #[.slice (some ⟨gk, ok, none⟩) 32 c] w fun e w' => e = .returned (.tuple #[.pointer (some ⟨w.heap.size, 0, none⟩), .nilIface]) ∧
      Arr w' w.heap.size 68 (u8s key) ∧ Below w.heap.size w w' := by
  have hN : Arr (w.alloc (.cells (u8s zer32).toArray 68)) w.heap.size 68 (u8s zer32) := arr_new w _ _
  have hb := below_alloc w (.cells (u8s zer32).toArray 68)
  have hR1 := range_below hKR hb
  have hmin : (u8s key).length = Nat.min 32 32 := by rw [u8s_length, hk]; rfl
  have hfit : 0 + (u8s key).length ≤ (u8s zer32).length := by rw [u8s_length, hk]; exact Nat.le_refl _
  have HK := Lib.hid hk
  clear hk
  go_enter Tryd.func15, Tryd.ntmps15
  go_wp2_with (refine wpList_copyV bs_undE u8_size1 rfl (.tmp 13) (.tmp 14) rfl w.heap.size 0 32 32 gk ok 32 c (u8s zer32) (u8s key) hmin rfl rfl hN hR1 hfit (u8s_oneCell _) ?_; intro w6 hT6 hg6)
  go_ret2
  refine ⟨rfl, ?_, bkept hb hg6 (Nat.le_refl _) (by rw [size_alloc]; omega)⟩
  have h32 : (u8s key).length = 32 := by rw [u8s_length, HK.out]
  rw [h32, List.take_zero, List.nil_append, List.drop_of_length_le (by simp [zer32]), List.append_nil] at hT6
  exact hT6
end Go.Proofs.YtkocgogpbammaaaDoor

/- The reference's lowered: a product's digits modulo the prime. Conditions: digits below 2^50; a product below 2^256. -/
import Derived.Test.YtkocgogpbammaaaDoorPs
import Derived.StillTailTactics
import Derived.Deep.RegionLaw
import Derived.Laws.IdiomCopy
set_option linter.unusedVariables false
set_option linter.unusedSimpArgs false
namespace Go.Proofs.YtkocgogpbammaaaDoor
open Go.RowKit

/-- A list half turned into another. -/
def mix {α : Type} (Z A : List α) (k : Nat) : List α := Z.take k ++ A.drop k
theorem mix_zero {α : Type} (Z A : List α) : mix Z A 0 = A := by simp [mix]
theorem mix_all {α : Type} (Z A : List α) (k : Nat) (hZ : Z.length = k) (hA : A.length = k) : mix Z A k = Z := by
  unfold mix; rw [List.take_of_length_le (by omega), List.drop_of_length_le (by omega), List.append_nil]
theorem mix_length {α : Type} (Z A : List α) (k : Nat) (h : Z.length = A.length) (hk : k ≤ A.length) : (mix Z A k).length = A.length := by simp [mix]; omega
theorem mix_get {α : Type} (Z A : List α) (k : Nat) (h : Z.length = A.length) (hk : k < A.length) : (mix Z A k)[k]? = some A[k] := by
  unfold mix
  rw [List.getElem?_append_right (by simp; omega), List.length_take, Nat.min_eq_left (by omega), Nat.sub_self, List.getElem?_drop, Nat.add_zero, List.getElem?_eq_getElem hk]
theorem mix_set {α : Type} (Z A : List α) (k : Nat) (h : Z.length = A.length) (hk : k < A.length) (v : α) (hv : Z[k]? = some v) : (mix Z A k).set k v = mix Z A (k + 1) := by
  unfold mix
  have hz : k < Z.length := by omega
  rw [List.getElem?_eq_getElem hz] at hv
  have e : Z.take (k + 1) = Z.take k ++ [v] := by rw [List.take_succ_eq_append_getElem hz, Option.some.inj hv]
  rw [e, List.drop_eq_getElem_cons hk, List.set_append_right _ _ (by simp; omega), List.length_take, Nat.min_eq_left (by omega), Nat.sub_self, List.set_cons_zero]
  simp
/-- Digits added to digits, c times. -/
def addC (c : Nat) (a b : List Nat) : List Nat := List.zipWith (fun x y => x + c * y) a b
theorem addC_val (c : Nat) : ∀ (a b : List Nat), a.length = b.length → valN (addC c a b) = valN a + c * valN b
  | [], [], _ => by simp [addC, valN]
  | x :: a, y :: b, h => by
    have ih := addC_val c a b (by simpa using h)
    simp only [addC, List.zipWith_cons_cons, valN] at ih ⊢
    rw [ih]; grind
theorem addC_length (c : Nat) (a b : List Nat) (h : a.length = b.length) : (addC c a b).length = a.length := by simp [addC, h]
theorem addC_get (c : Nat) (a b : List Nat) (h : a.length = b.length) (k : Nat) (hk : k < a.length) : (addC c a b)[k]? = some (a[k] + c * b[k]'(by omega)) := by
  simp [addC, List.getElem?_zipWith, List.getElem?_eq_getElem hk, List.getElem?_eq_getElem (show k < b.length by omega)]
theorem addC_le (c : Nat) (a b : List Nat) (ha : ∀ d ∈ a, d < 65536) (hb : ∀ d ∈ b, d < 65536) : ∀ d ∈ addC c a b, d ≤ 65535 + c * 65535 := by
  intro d hd
  simp only [addC] at hd
  obtain ⟨i, hi, rfl⟩ := List.mem_iff_getElem.1 hd
  rw [List.getElem_zipWith]
  have h1 := ha (a[i]'(by simp at hi; omega)) (List.getElem_mem _)
  have h2 := hb (b[i]'(by simp at hi; omega)) (List.getElem_mem _)
  have h3 : c * b[i]'(by simp at hi; omega) ≤ c * 65535 := Nat.mul_le_mul_left _ (by omega)
  omega
theorem dig_take (k m n : Nat) : (dig (k + m) n).take k = dig k n := by
  apply List.ext_getElem (by simp)
  intro j h1 h2
  rw [List.getElem_take, dig_get, dig_get]
theorem low_eq (v : Nat) : ((dig 18 v).take 9).set 8 (v / 65536 ^ 8 % 65536 % 4) = dig 9 (v % q130) := by
  rw [dig_take 9 9, dig_snoc 8, dig_snoc 8, List.set_append_right _ _ (by simp), dig_length, Nat.sub_self, List.set_cons_zero]
  have h1 : dig 8 (v % q130) = dig 8 v := by
    have h := dig_mod 8 (v % q130) (4 * (v / q130))
    rw [show v % q130 + 65536 ^ 8 * (4 * (v / q130)) = v from by rw [pow2_128]; unfold q130; omega] at h
    exact h.symm
  rw [h1]
  congr 2
  rw [pow2_128]; unfold q130; omega
theorem high_eq (v k : Nat) : (v / 65536 ^ (8 + k) % 65536) / 4 + v / 65536 ^ (9 + k) % 65536 % 4 * 16384 = v / q130 / 65536 ^ k % 65536 := by
  have e1 : v / 65536 ^ (8 + k) = v / 65536 ^ 8 / 65536 ^ k := by rw [Nat.pow_add, Nat.div_div_eq_div_mul]
  have e2 : v / 65536 ^ (9 + k) = v / 65536 ^ 8 / 65536 ^ k / 65536 := by
    rw [show 9 + k = 8 + k + 1 by omega, Nat.pow_succ, ← Nat.div_div_eq_div_mul, e1]
  have e3 : v / q130 / 65536 ^ k = v / 65536 ^ 8 / 65536 ^ k / 4 := by
    rw [show q130 = 65536 ^ 8 * 4 from by decide, ← Nat.div_div_eq_div_mul, Nat.div_div_eq_div_mul (v / 65536 ^ 8), Nat.mul_comm 4, ← Nat.div_div_eq_div_mul]
  rw [e1, e2, e3]
  generalize v / 65536 ^ 8 / 65536 ^ k = u
  omega
theorem passed18 (l : List Nat) (h : l.length = 18) : passed l 18 = dig 18 (valN l) := by
  unfold passed; rw [List.take_of_length_le (by omega), List.drop_of_length_le (by omega), List.append_nil]

theorem d18_und : Tryd.prog.underlying 87 = some (.array 18 83) := by kernel_rfl
theorem d18_size : (Tryd.prog.info? 87).map (·.size) = some 18 := by kernel_rfl
abbrev obj18 (l : List Nat) : Obj := .cells (u64s l).toArray 87
theorem arr_setCells {t : TypeId} {g : Nat} : ∀ (vs : List Value) (o : Nat) (w : World) (old : List Value), Arr w g t old → o + vs.length ≤ old.length → Arr (w.setCells g o vs) g t (old.take o ++ vs ++ old.drop (o + vs.length))
  | [], o, w, old, h, _ => by simpa [World.setCells] using h
  | v :: r, o, w, old, h, hl => by
    have h1 := h.set o v (by simp at hl; omega)
    have h2 := arr_setCells r (o + 1) _ _ h1 (by simp at hl ⊢; omega)
    have e : (old.set o v).take (o + 1) ++ r ++ (old.set o v).drop (o + 1 + r.length) = old.take o ++ v :: r ++ old.drop (o + (v :: r).length) := by
      rw [List.take_succ_eq_append_getElem (by simp at hl ⊢; omega), List.getElem_set_self, List.take_set_of_le (Nat.le_refl o), List.drop_set_of_lt (by omega)]
      simp; omega
    rw [e] at h2
    exact h2
theorem grown_setCells {g : Nat} : ∀ (vs : List Value) (o : Nat) (w w' : World), w.grownBy w' (some g) → w.grownBy (w'.setCells g o vs) (some g)
  | [], _, _, _, h => h
  | v :: r, o, w, w', h => grown_setCells r (o + 1) w _ ⟨h.os, h.tape, h.output, by have := h.size; simpa [World.setCell] using this, fun k hk hne => by rw [Below.heap_setCell _ _ _ _ (fun e => hne (by rw [e]))]; exact h.block k hk hne⟩
/-- copy, as one step of a region that draws. -/
theorem step_copyV {ops : Array Oper} {o : Oper} {a : Act} {w : World} {K : Act → World → Prop} {Q : Exit → Act → World → Prop} {E : Prop} {TS TS2 e T : TypeId} (hu : Tryd.prog.underlying TS = some (.slice e)) (hz : (Tryd.prog.info? e).map (·.size) = some 1) (hgd : o.guard = none) (d s : Operand)
    (ho : o.op = .call { callee := .builtin .copy, args := #[d, s], argTypes := #[TS, TS2] })
    (g go dn dc b so sn sc : Nat) (old news : List Value) (hn : news.length = Nat.min sn dn) (hd : a.eval d = .slice (some ⟨g, go, none⟩) dn dc) (hs : a.eval s = .slice (some ⟨b, so, none⟩) sn sc) (hg : Arr w g T old) (hat : w.rangeAt b so news) (hfit : go + news.length ≤ old.length) (h1 : ∀ u ∈ news, u.oneCell' = true)
    (h : ∀ w', Arr w' g T (old.take go ++ news ++ old.drop (go + news.length)) → w.grownBy w' (some g) → K (a.put o.dst (goInt news.length)) w') :
    if Region.wanted o (yielded ops a.tmps) = true then Oper.wp Tryd.prog o a w K Q else E := by
  have hw : Region.wanted o (yielded ops a.tmps) = true := by simp [Region.wanted, hgd]
  rw [if_pos hw]
  have hrun := run_copy_cells (P := Tryd.prog) w TS TS2 o.type e g go dn dc ⟨b, so, none⟩ sn sc news hu hz hn
    (fun j v hj => by rw [Addr.add_mid]; exact hat j v hj)
    (fun j hj => by rw [hg.cell (go + j) (by omega)]; rfl) (fun j hj => hg.fr _) h1
  have h3 := arr_setCells news go w _ hg hfit
  have h2 := h _ h3 (grown_setCells news go w w (World.grownBy.refl _ _))
  unfold Oper.wp
  simp [execOp, ho, resolve, invoke, builtin, hd, hs, hrun, Result.andThen]
  exact h2
theorem ds_und : Tryd.prog.underlying 93 = some (.slice 83) := by kernel_rfl
theorem u64_size : (Tryd.prog.info? 83).map (·.size) = some 1 := by kernel_rfl
def zer18 : List Nat := [0, 0, 0, 0, 0, 0, 0, 0, 0, 0, 0, 0, 0, 0, 0, 0, 0, 0]
theorem range_take {w : World} {g : Nat} {t : TypeId} {l : List Nat} (h : Arr w g t (u64s l)) (k : Nat) : w.rangeAt g 0 (u64s (l.take k)) := by
  intro j v hj
  have hj2 : (u64s l)[j]? = some v := by
    unfold u64s at hj ⊢
    rw [List.map_take] at hj
    rw [List.getElem?_take] at hj
    split at hj
    · exact hj
    · cases hj
  exact h.range j v hj2

set_option maxRecDepth 100000 in
set_option maxHeartbeats 4000000 in
theorem lowered_any (w : World) (p0 : List Nat) (hl : p0.length = 18) (hd : ∀ d ∈ p0, d ≤ 1125899906842623) (hv : valN p0 < 115792089237316195423570985008687907853269984665640564039457584007913129639936) :
    Calls Tryd.prog 35 #[.agg (u64s p0).toArray] w fun e w' => e = .returned (dv (dig 9 (valN p0 % p5))) ∧ Below w.heap.size w w' := by
  have HD := Lib.hid hd
  have HV := Lib.hid hv
  clear hd hv
  have hA0 : Arr (w.alloc (obj18 p0)) w.heap.size 87 (u64s p0) := arr_new w _ _
  have hR1 : DAt ((w.alloc (obj18 p0)).alloc (objD zer9)) (w.heap.size + 1) zer9 := arr_new2 w _ _ _
  have hA1 := hA0.below (below_alloc _ (objD zer9))
  have hb1 : Below w.heap.size w ((w.alloc (obj18 p0)).alloc (objD zer9)) := Below.alloc (below_alloc _ _) (below_alloc _ _).size _
  have hs1 : ((w.alloc (obj18 p0)).alloc (objD zer9)).heap.size = w.heap.size + 2 := by simp
  clear hA0
  go_enter Tryd.func35, Tryd.ntmps35
  go_wp2_with fail
  go_loopw [3, 9] (fun cv i wr => ∃ k : Nat, k ≤ 18 ∧ i = .int .i64 k ∧ cv = .int .u64 (carryN p0 k : Int) ∧ Arr wr w.heap.size 87 (u64s (passed p0 k)) ∧ DAt wr (w.heap.size + 1) zer9 ∧ Below w.heap.size w wr ∧ wr.heap.size = w.heap.size + 2) (fun _ i _ => 18 - (intOf i).toNat)
  case atStart => exact ⟨0, by omega, rfl, by rw [carryN_zero]; rfl, by rw [passed_zero]; exact hA1, hR1, hb1, hs1⟩
  case round =>
    clear hA1 hR1 hb1 hs1
    obtain ⟨k, hk, rfl, rfl, hN, hR, hb, hs⟩ := hrel
    by_cases hlt : k < 18
    · have hcs := carryN_succ p0 k (by omega)
      have hps := passed_succ p0 k (by omega)
      have hc1 := carryN_le p0 k 1125899906842623 (by omega) HD.out
      have hx1 := HD.out p0[k] (List.getElem_mem _)
      have hpl := passed_length p0 k (by omega)
      have ck := hN.cell k (by simp; omega)
      have hLk : (passed p0 k)[k]'(by omega) = p0[k]'(by omega) := by
        unfold passed
        rw [List.getElem_append_right (by simp)]
        simp
      rw [u64s_get, hLk] at ck
      generalize p0[k] = x at *
      generalize carryN p0 k = cc at *
      have HCS := Lib.hid hcs; clear hcs
      have HPS := Lib.hid hps; clear hps
      have HS := Lib.hid hs; clear hs
      clear hLk
      have fk := hN.fr k
      have e1 : IntKind.u64.wrap ((cc : Int) + (x : Int)) = ((cc + x : Nat) : Int) := (IntWalk.u64_in _ (by omega)).trans (by omega)
      obtain ⟨q, hq⟩ : ∃ q, q = (cc + x) / 65536 := ⟨_, rfl⟩
      obtain ⟨r, hr⟩ : ∃ r, r = (cc + x) % 65536 := ⟨_, rfl⟩
      have e4 : ((cc : Int) + (x : Int)) / 65536 = (q : Int) := by omega
      have e5 : ((cc : Int) + (x : Int)) % 65536 = (r : Int) := by omega
      rw [← hr] at HPS
      rw [← hq] at HCS
      clear hq hr
      go_wp2
      go_roundw
      case rel =>
        try rw [e4]
        try rw [e5]
        exact ⟨k + 1, by omega, by go_num, (by rw [HCS.out]), (by rw [HPS.out]; exact dat_set hN k r (by omega)), hR.other (by omega), hb.setCell (Nat.le_refl _) _, by simpa [World.setCell] using HS.out⟩
      case measure => simp [intOf]; omega
    · obtain rfl : k = 18 := by omega
      clear hlt
      rw [passed18 p0 hl] at hN
      obtain ⟨v, hvv⟩ : ∃ v, v = valN p0 := ⟨_, rfl⟩
      rw [← hvv] at hN HV
      have HVV := Lib.hid hvv
      obtain ⟨D, hD⟩ : ∃ D, D = dig 18 v := ⟨_, rfl⟩
      rw [← hD] at hN
      have HDD := Lib.hid hD; clear hD hvv
      have hwr : w.heap.size + 1 < wr.heap.size := by omega
      clear hs
      have hL2 : DAt (wr.alloc (objD zer9)) wr.heap.size zer9 := arr_new wr _ _
      have hH3 : DAt ((wr.alloc (objD zer9)).alloc (objD zer9)) (wr.heap.size + 1) zer9 := arr_new2 wr (objD zer9) (u64s zer9) 84
      have hL3 := hL2.below (below_alloc _ (objD zer9))
      have kb2 : Below wr.heap.size wr ((wr.alloc (objD zer9)).alloc (objD zer9)) := Below.alloc (below_alloc _ _) (below_alloc _ _).size _
      have hN3 := hN.below kb2
      have hR3 := hR.below kb2
      have hb3 := hb.trans (kb2.mono hb.size)
      clear hL2 kb2 hN hR hb
      go_wp2_with (first
        | (refine wpList_storeV d9_size rfl (.tmp 5) (.tmp 24) rfl wr.heap.size (u64s zer9) (u64s zer9) rfl rfl (u64s_oneCell _) rfl rfl hL3 ?_; intro w4 hL4 hg4)
        | (refine wpList_storeV d9_size rfl (.tmp 6) (.tmp 25) rfl (wr.heap.size + 1) (u64s zer9) (u64s zer9) rfl rfl (u64s_oneCell _) rfl rfl (hH3.kept hg4 (by omega)) ?_; intro w5 hH5 hg5))
      have hL5 := hL4.kept hg5 (by omega)
      have hN5 := (hN3.kept hg4 (by omega)).kept hg5 (by omega)
      have hR5 := (hR3.kept hg4 (by omega)).kept hg5 (by omega)
      have hb5 := bkept (bkept hb3 hg4 (by omega) hb3.size) hg5 (by omega) (bkept hb3 hg4 (by omega) hb3.size).size
      clear hN3 hR3 hb3 hL3 hL4 hH3 hg4 hg5
      have hrg : w5.drew.rangeAt w.heap.size 0 (u64s (D.take 9)) := range_take (show Arr w5.drew w.heap.size 87 (u64s D) from hN5) 9
      have hDl : D.length = 18 := by rw [HDD.out]; simp
      have hnl : (u64s (D.take 9)).length = 9 := by simp; omega
      try go_frame
      go_region_law (refine step_copyV ds_und u64_size rfl (.tmp 26) (.tmp 27) rfl wr.heap.size 0 9 9 w.heap.size 0 9 18 (u64s zer9) (u64s (D.take 9)) (by rw [hnl]; rfl) rfl rfl (show Arr w5.drew _ _ _ from hL5) hrg (by rw [hnl]; decide) (u64s_oneCell _) ?_; intro w6 hL6 hg6)
      have kL6 : DAt w6 wr.heap.size (D.take 9) := by
        rw [List.take_zero, List.nil_append, hnl, List.drop_of_length_le (by decide), List.append_nil] at hL6; exact hL6
      have kH6 := Arr.kept (show Arr w5.drew _ _ _ from hH5) hg6 (by omega)
      have kN6 := Arr.kept (show Arr w5.drew _ _ _ from hN5) hg6 (by omega)
      have kR6 := Arr.kept (show Arr w5.drew _ _ _ from hR5) hg6 (by omega)
      have kb6 : Below w.heap.size w w6 := bkept (show Below w.heap.size w w5.drew from ⟨hb5.os, hb5.tape, hb5.output, hb5.size, hb5.block⟩) hg6 (by omega) hb5.size
      clear hL6 hH5 hN5 hR5 hL5 hb5 hg6 hrg hnl
      have c8 := kL6.cell 8 (by simp; omega)
      rw [u64s_get] at c8
      have h8 : (D.take 9)[8]'(by simp; omega) = v / 65536 ^ 8 % 65536 := by rw [List.getElem_take]; simp [HDD.out, dig_get]
      have f8 := kL6.fr 8
      have hlo := low_eq v
      rw [← HDD.out, ← h8] at hlo
      generalize (D.take 9)[8]'(by simp; omega) = x8 at *
      obtain ⟨r8, hr8⟩ : ∃ r, r = x8 % 4 := ⟨_, rfl⟩
      have e8 : (x8 : Int) % 4 = (r8 : Int) := by omega
      rw [← hr8] at hlo
      clear hr8 h8
      have kL7 := dat_set kL6 8 r8 (by simp; omega)
      rw [hlo] at kL7
      have kH7 := kH6.other (k := wr.heap.size) (i := 8) (u := .int .u64 (r8 : Int)) (by omega)
      have kN7 := kN6.other (k := wr.heap.size) (i := 8) (u := .int .u64 (r8 : Int)) (by omega)
      have kR7 := kR6.other (k := wr.heap.size) (i := 8) (u := .int .u64 (r8 : Int)) (by omega)
      have kb7 := kb6.setCell (p := ⟨wr.heap.size, 8, none⟩) (by show w.heap.size ≤ wr.heap.size; omega) (.int .u64 (r8 : Int))
      clear kL6 kH6 kN6 kR6 kb6 hlo
      obtain ⟨gl, hgl⟩ : ∃ gl, gl = wr.heap.size := ⟨_, rfl⟩
      rw [← hgl] at hwr kL7 kH7 kN7 kR7 kb7 c8 f8 ⊢
      clear hgl
      obtain ⟨LO, hLO⟩ : ∃ LO, LO = dig 9 (v % q130) := ⟨_, rfl⟩
      obtain ⟨HI, hHI⟩ : ∃ HI, HI = dig 9 (v / q130) := ⟨_, rfl⟩
      rw [← hLO] at kL7
      have hLl : LO.length = 9 := by rw [hLO]; simp
      have hHl : HI.length = 9 := by rw [hHI]; simp
      have HLO := Lib.hid hLO; clear hLO
      have HHI := Lib.hid hHI; clear hHI
      have hz9 : zer9.length = 9 := rfl
      go_wp2_with fail
      clear e8
      go_loopw [33] (fun iv wr2 => ∃ k : Nat, k ≤ 9 ∧ iv = .int .i64 k ∧ DAt wr2 (gl + 1) (mix HI zer9 k) ∧ DAt wr2 gl LO ∧ Arr wr2 w.heap.size 87 (u64s D) ∧ DAt wr2 (w.heap.size + 1) zer9 ∧ Below w.heap.size w wr2) (fun iv _ => 9 - (intOf iv).toNat)
      case atStart => exact ⟨0, Nat.zero_le _, rfl, by rw [mix_zero]; exact kH7, kL7, kN7, kR7, kb7⟩
      case round =>
        clear kL7 kH7 kN7 kR7 kb7 c8 f8
        obtain ⟨k, hk, rfl, hH, hL, hN, hR, hb⟩ := hrel
        by_cases hlt : k < 9
        · have ca := hN.cell (8 + k) (by simp; omega)
          have cb := hN.cell (9 + k) (by simp; omega)
          rw [u64s_get] at ca cb
          have ha : D[8 + k]'(by omega) = v / 65536 ^ (8 + k) % 65536 := by simp [HDD.out, dig_get]
          have hbb : D[9 + k]'(by omega) = v / 65536 ^ (9 + k) % 65536 := by simp [HDD.out, dig_get]
          have hz := high_eq v k
          rw [← ha, ← hbb] at hz
          have hx : D[8 + k]'(by omega) < 65536 := by rw [ha]; exact Nat.mod_lt _ (by decide)
          have hy : D[9 + k]'(by omega) < 65536 := by rw [hbb]; exact Nat.mod_lt _ (by decide)
          have hHk : HI[k]? = some (v / q130 / 65536 ^ k % 65536) := by rw [List.getElem?_eq_getElem (by omega)]; simp [HHI.out, dig_get]
          rw [← hz] at hHk
          clear ha hbb hz
          generalize D[8 + k]'(by omega) = x at *
          generalize D[9 + k]'(by omega) = y at *
          obtain ⟨z, hzz⟩ : ∃ z, z = x / 4 + y % 4 * 16384 := ⟨_, rfl⟩
          rw [← hzz] at hHk
          have HEZ : Hid ((z : Int) = (x : Int) / 4 + (y : Int) % 4 * 16384) := Lib.hid (by omega)
          have hml : (mix HI zer9 k).length = 9 := mix_length _ _ _ (by omega) (by omega)
          have fk := hH.fr k
          have ck := hH.cell k (by simp; omega)
          have hst := dat_set hH k z (by omega)
          rw [mix_set HI zer9 k (by omega) (by omega) z hHk] at hst
          have HHK := Lib.hid hHk; clear hHk
          clear hzz
          have w8 : IntKind.i64.wrap (8 + (k : Int)) = 8 + (k : Int) := IntWalk.i64_in _ (by omega)
          have w9 : IntKind.i64.wrap (9 + (k : Int)) = 9 + (k : Int) := IntWalk.i64_in _ (by omega)
          have i1 : (8 : Int) + (k : Int) < 18 := by omega
          have i01 : (0 : Int) ≤ 8 + (k : Int) := by omega
          have i02 : (0 : Int) ≤ 9 + (k : Int) := by omega
          have i2 : (9 : Int) + (k : Int) < 18 := by omega
          have t8 : ((8 : Int) + (k : Int)).toNat = 8 + k := by omega
          have t9 : ((9 : Int) + (k : Int)).toNat = 9 + k := by omega
          go_wp2_with fail
          refine wp_region_still_tail 14 (by kernel_rfl) (by kernel_rfl) ?_
          change wpStill _ _ wr.drew (fun a' => wpList _ _ _ _ a' wr.drew) _ _
          have ca2 : wr.drew.cell? _ = _ := ca
          have cb2 : wr.drew.cell? _ = _ := cb
          have fk2 : wr.drew.frozen? _ = _ := fk
          have ck2 : wr.drew.cell? _ = _ := ck
          have hst2 : Arr (wr.drew.setCell ⟨gl + 1, k, none⟩ (.int .u64 (z : Int))) (gl + 1) 84 (u64s (mix HI zer9 (k + 1))) := hst
          have kH : DAt wr.drew (gl + 1) (mix HI zer9 k) := hH
          have kL : DAt wr.drew gl LO := hL
          have kN : Arr wr.drew w.heap.size 87 (u64s D) := hN
          have kR : DAt wr.drew (w.heap.size + 1) zer9 := hR
          have kb : Below w.heap.size w wr.drew := ⟨hb.os, hb.tape, hb.output, hb.size, hb.block⟩
          clear ca cb fk ck hst hH hL hN hR hb
          generalize wr.drew = w2 at *
          simp only [List.take_succ_cons, List.take_zero, List.drop_succ_cons, List.drop_zero]
          repeat still_step
          refine wpStill_nil ?_
          go_wp2_with fail
          go_roundw
          case rel => rw [HEZ.out] at hst2; exact ⟨k + 1, by omega, by go_num, hst2, kL.other (by omega), kN.other (by omega), kR.other (by omega), kb.setCell (p := ⟨gl + 1, k, none⟩) (by show w.heap.size ≤ gl + 1; omega) _⟩
          case measure => simp [intOf]; omega
        · have hdk : decide ((k : Int) < 9) = false := by simp; omega
          have h9 : k = 9 := by omega
          rw [h9, mix_all HI zer9 9 hHl rfl] at hH
          clear hlt h9
          go_wp2_with fail
          go_loopw [51] (fun iv wr2 => ∃ k : Nat, k ≤ 9 ∧ iv = .int .i64 k ∧ DAt wr2 gl (mix (addC 5 LO HI) LO k) ∧ DAt wr2 (gl + 1) HI ∧ DAt wr2 (w.heap.size + 1) zer9 ∧ Below w.heap.size w wr2) (fun iv _ => 9 - (intOf iv).toNat)
          case atStart => exact ⟨0, Nat.zero_le _, rfl, by rw [mix_zero]; exact hL, hH, hR, hb⟩
          case round =>
            clear hL hH hN hR hb
            obtain ⟨k, hk, rfl, hL, hH, hR, hb⟩ := hrel
            have hZl : (addC 5 LO HI).length = 9 := by rw [addC_length _ _ _ (by omega)]; omega
            by_cases hlt : k < 9
            · have hml : (mix (addC 5 LO HI) LO k).length = 9 := by rw [mix_length _ _ _ (by omega) (by omega)]; omega
              have cb : wr.cell? ⟨gl, k, none⟩ = some (.int .u64 ((LO[k]'(by omega) : Nat) : Int)) := by
                have h := hL.cell k (by simp; omega)
                rw [u64s_get] at h
                have h2 := mix_get (addC 5 LO HI) LO k (by omega) (by omega)
                rw [List.getElem?_eq_getElem (by omega)] at h2
                rw [Option.some.inj h2] at h
                exact h
              have ca := hH.cell k (by simp; omega)
              rw [u64s_get] at ca
              have hz := addC_get 5 LO HI (by omega) k (by omega)
              have hx : LO[k]'(by omega) < 65536 := by have := dig_lt 9 (v % q130); rw [← HLO.out] at this; exact this _ (List.getElem_mem _)
              have hy : HI[k]'(by omega) < 65536 := by have := dig_lt 9 (v / q130); rw [← HHI.out] at this; exact this _ (List.getElem_mem _)
              generalize LO[k]'(by omega) = x at *
              generalize HI[k]'(by omega) = y at *
              obtain ⟨z, hzz⟩ : ∃ z, z = x + 5 * y := ⟨_, rfl⟩
              rw [← hzz] at hz
              have e1 : IntKind.u64.wrap (5 * (y : Int)) = 5 * (y : Int) := IntWalk.u64_in _ (by omega)
              have e2 : IntKind.u64.wrap ((x : Int) + 5 * (y : Int)) = (z : Int) := (IntWalk.u64_in _ (by omega)).trans (by omega)
              have fk := hL.fr k
              have hst := dat_set hL k z (by omega)
              rw [mix_set (addC 5 LO HI) LO k (by omega) (by omega) z hz] at hst
              clear hzz hz
              go_wp2_with fail
              refine wp_region_still_tail 10 (by kernel_rfl) (by kernel_rfl) ?_
              change wpStill _ _ wr.drew (fun a' => wpList _ _ _ _ a' wr.drew) _ _
              have ca2 : wr.drew.cell? _ = _ := ca
              have cb2 : wr.drew.cell? _ = _ := cb
              have fk2 : wr.drew.frozen? _ = _ := fk
              have hst2 : Arr (wr.drew.setCell ⟨gl, k, none⟩ (.int .u64 (z : Int))) gl 84 (u64s (mix (addC 5 LO HI) LO (k + 1))) := hst
              have kH : DAt wr.drew (gl + 1) HI := hH
              have kR : DAt wr.drew (w.heap.size + 1) zer9 := hR
              have kb : Below w.heap.size w wr.drew := ⟨hb.os, hb.tape, hb.output, hb.size, hb.block⟩
              clear ca cb fk hst hL hH hR hb
              generalize wr.drew = w2 at *
              simp only [List.take_succ_cons, List.take_zero, List.drop_succ_cons, List.drop_zero]
              repeat still_step
              refine wpStill_nil ?_
              go_wp2_with fail
              go_roundw
              case rel => exact ⟨k + 1, by omega, by go_num, hst2, kH.other (by omega), kR.other (by omega), kb.setCell (p := ⟨gl, k, none⟩) (by show w.heap.size ≤ gl; omega) _⟩
              case measure => simp [intOf]; omega
            · obtain rfl : k = 9 := by omega
              clear hlt
              rw [mix_all (addC 5 LO HI) LO 9 hZl hLl] at hL
              have hZle : ∀ d ∈ addC 5 LO HI, d ≤ 1048575 := by
                intro d hd
                have := addC_le 5 LO HI (by rw [HLO.out]; exact dig_lt _ _) (by rw [HHI.out]; exact dig_lt _ _) d hd
                omega
              have hZv : valN (addC 5 LO HI) % p5 = valN p0 % p5 := by
                rw [addC_val 5 LO HI (by omega), HLO.out, HHI.out, valN_dig, valN_dig, pow2_144, ← HVV.out]
                have h1 : v % q130 % 22300745198530623141535718272648361505980416 = v % q130 := Nat.mod_eq_of_lt (Nat.lt_trans (Nat.mod_lt _ (by decide)) (by decide))
                have h2 : v / q130 % 22300745198530623141535718272648361505980416 = v / q130 := by
                  apply Nat.mod_eq_of_lt
                  have := HV.out
                  unfold q130; omega
                rw [h1, h2]
                exact (low_high v).2
              have HZ := Lib.hid hZle
              have HZV := Lib.hid hZv
              clear hZle hZv
              go_wp2_with (refine wpList_loadV d9_und d9_size rfl (.tmp 5) rfl gl (u64s (addC 5 LO HI)) (by simpa using hZl) rfl hL ?_)
              refine (settled_any _ (addC 5 LO HI) hZl HZ.out).mono ?_
              rintro e w8 ⟨rfl, hb8⟩
              rw [HZV.out]
              have kR := hR.below hb8
              have kb := hb.trans (hb8.mono hb.size)
              go_wp2_with (refine wpList_storeV d9_size rfl (.tmp 2) (.tmp 66) rfl (w.heap.size + 1) (u64s (dig 9 (valN p0 % p5))) (u64s zer9) (by simp) rfl (u64s_oneCell _) rfl rfl kR ?_; intro w9 hN9 hg9)
              exact ret_V d9_und d9_size rfl (w.heap.size + 1) _ (by simp) rfl hN9 rfl ⟨rfl, bkept kb hg9 (by omega) kb.size⟩
end Go.Proofs.YtkocgogpbammaaaDoor

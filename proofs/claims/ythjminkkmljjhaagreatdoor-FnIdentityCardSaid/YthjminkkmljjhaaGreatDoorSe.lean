/- The reference's arrays compared; Add, Mod, Neg, Sub. Conditions: numbers below 2^256. -/
import Derived.Test.YthjminkkmljjhaaGreatDoorSt
namespace Go.Proofs.YthjminkkmljjhaaGreatDoor
open Go.RowKit

theorem run_eqItemsN {P : Program} {e : TypeId} (he : P.plainKey e = true) {k : IntKind} (hk : P.underlying e = some (.int k)) (d : Nat) (a b : List Nat) (w : World) : ∀ (is : List Nat), (∀ i ∈ is, i < a.length ∧ i < b.length) →
    (Op.eqItems (d + 1) e 1 (u64s a).toArray (u64s b).toArray is).run P w = .ok (is.all fun i => decide (a[i]? = b[i]?)) w
  | [], _ => by simp [Op.eqItems]
  | i :: is, h => by
    obtain ⟨h1, h2⟩ := h i (by simp)
    have ih := run_eqItemsN he hk d a b w is (fun j hj => h j (by simp [hj]))
    have p1 : (part e (u64s a).toArray (i * 1)).run P w = .ok (.int .u64 ((a[i] : Nat) : Int)) w := run_part_plain w he (by rw [Nat.mul_one, List.getElem?_toArray, List.getElem?_eq_getElem (by simpa using h1), u64s_get])
    have p2 : (part e (u64s b).toArray (i * 1)).run P w = .ok (.int .u64 ((b[i] : Nat) : Int)) w := run_part_plain w he (by rw [Nat.mul_one, List.getElem?_toArray, List.getElem?_eq_getElem (by simpa using h2), u64s_get])
    have p3 : (Op.equalIn (d + 1) e (.int .u64 ((a[i] : Nat) : Int)) (.int .u64 ((b[i] : Nat) : Int))).run P w = .ok (decide (a[i] = b[i])) w := by
      simp only [Op.equalIn, Sem.run_bind, run_underlying hk, Result.andThen_ok, if_true, Sem.run_pure]
      congr 1
      rw [Bool.eq_iff_iff]
      simp; omega
    simp only [Op.eqItems, Sem.run_bind, p1, p2, p3, Result.andThen_ok]
    by_cases hab : a[i] = b[i]
    · simp [hab, ih, List.getElem?_eq_getElem h1, List.getElem?_eq_getElem h2]
    · simp [hab, List.getElem?_eq_getElem h1, List.getElem?_eq_getElem h2]

theorem n_eqg : Tryz.prog.eqGuardType Tryz.prog.depth 56 = false := by kernel_rfl
theorem run_eqN (w : World) (a b : List Nat) (ha : a.length = 16) (hb : b.length = 16) : (Op.equal 56 (nv a) (nv b)).run Tryz.prog w = .ok (decide (a = b)) w := by
  obtain ⟨i, hi⟩ : ∃ i, Tryz.prog.info? 54 = some i := Option.isSome_iff_exists.1 (by kernel_rfl)
  have hc : Tryz.prog.cellsOf 54 = 1 := by kernel_rfl
  obtain ⟨d, hd⟩ : ∃ d, Op.maxDepth = d + 1 + 1 := ⟨9998, rfl⟩
  have h := run_eqItemsN (P := Tryz.prog) (e := 54) (by kernel_rfl) (k := .u64) (by kernel_rfl) d a b w (List.range 16) (fun i hi => by have := List.mem_range.1 hi; omega)
  unfold Op.equal
  have e : ((List.range 16).all fun i => decide (a[i]? = b[i]?)) = decide (a = b) := by
    rw [Bool.eq_iff_iff]
    simp only [List.all_eq_true, List.mem_range, decide_eq_true_eq]
    constructor
    · intro h; apply List.ext_getElem?; intro j
      by_cases hj : j < 16
      · exact h j hj
      · rw [List.getElem?_eq_none (by omega), List.getElem?_eq_none (by omega)]
    · rintro rfl j _; rfl
  rw [hd, run_equalIn_array w (d + 1) _ _ n_und hi, hc, h, e]
section
variable {ops : Array Oper} {rest : List Oper} {o : Oper} {a : Act} {w : World} {Q : Exit → Act → World → Prop}
theorem wpList_eqN (hgd : o.guard = none) (x y : Operand) (T : TypeId) (ho : o.op = .binOp .eql 56 x y T) (l m : List Nat) (hl : l.length = 16) (hm : m.length = 16) (hx : a.eval x = nv l) (hy : a.eval y = nv m)
    (h : wpList Tryz.prog ops Q rest (a.put o.dst (.bool (decide (l = m)))) w) : wpList Tryz.prog ops Q (o :: rest) a w :=
  wpList_plain hgd fun _ hK => by
    unfold Oper.wp execOp
    have h1 := run_eqN w l m hl hm
    have h2 := run_eqGuard_agg (P := Tryz.prog) (w := w) .eql 56 x y (u64s l).toArray (u64s m).toArray n_eqg
    simp only [ho, hx, hy, binOp, Sem.run_bind, Sem.run_pure, h1, h2, Result.andThen_ok]
    exact hK _ _ h
end

abbrev objN (l : List Nat) : Obj := .cells (u64s l).toArray 56
theorem pre2 (w : World) (a b : List Nat) : NAt ((w.alloc (objN a)).alloc (objN b)) w.heap.size a ∧ NAt ((w.alloc (objN a)).alloc (objN b)) (w.heap.size + 1) b ∧ Below w.heap.size w ((w.alloc (objN a)).alloc (objN b)) ∧ ((w.alloc (objN a)).alloc (objN b)).heap.size = w.heap.size + 2 := by
  have h0 : NAt (w.alloc (objN a)) w.heap.size a := arr_new w _ _
  exact ⟨h0.below (below_alloc _ _), arr_new2 w _ _ _, Below.alloc (below_alloc _ _) (below_alloc _ _).size _, by simp⟩
theorem pre3 (w : World) (a b c : List Nat) : NAt (((w.alloc (objN a)).alloc (objN b)).alloc (objN c)) w.heap.size a ∧ NAt (((w.alloc (objN a)).alloc (objN b)).alloc (objN c)) (w.heap.size + 1) b ∧ NAt (((w.alloc (objN a)).alloc (objN b)).alloc (objN c)) (w.heap.size + 2) c ∧ Below w.heap.size w (((w.alloc (objN a)).alloc (objN b)).alloc (objN c)) ∧ (((w.alloc (objN a)).alloc (objN b)).alloc (objN c)).heap.size = w.heap.size + 3 := by
  obtain ⟨h0, h1, h2, h3⟩ := pre2 w a b
  have h4 : NAt (((w.alloc (objN a)).alloc (objN b)).alloc (objN c)) ((w.alloc (objN a)).alloc (objN b)).heap.size c := arr_new _ _ _
  rw [h3] at h4
  exact ⟨h0.below (below_alloc _ _), h1.below (below_alloc _ _), h4, Below.alloc h2 (by omega) _, by simp⟩

set_option maxRecDepth 100000 in
set_option maxHeartbeats 1000000 in
theorem specMod_any (w : World) (a : Nat) (ha : a < 115792089237316195423570985008687907853269984665640564039457584007913129639936) :
    Calls Tryz.prog 45 #[nv (dig 16 a)] w fun e w' => e = .returned (nv (dig 16 (a % pp))) ∧ Below w.heap.size w w' := by
  obtain ⟨hA, hR, hb, hs⟩ := pre2 w (dig 16 a) zerosN
  go_enter Tryz.func45, Tryz.ntmps45
  go_wp2_with (refine wpList_loadN rfl (.tmp 1) rfl w.heap.size (dig 16 a) (by simp) rfl hA ?_)
  refine (settle_any _ (dig 16 a) (by simp) (fun d hd => by have := dig_lt _ _ d hd; omega)).mono ?_
  rintro e w1 ⟨rfl, hb1⟩
  rw [valN_dig, pow2_256, Nat.mod_eq_of_lt ha]
  have hR1 := hR.below hb1
  have hbb := hb.trans (hb1.mono hb.size)
  go_wp2_with (refine wpList_storeN rfl (.tmp 2) (.tmp 4) rfl (w.heap.size + 1) (dig 16 (a % pp)) zerosN (by simp) rfl rfl rfl hR1 ?_; intro w9 hN9 hg9)
  exact ret_n rfl (w.heap.size + 1) _ (by simp) rfl hN9 rfl ⟨rfl, bkept hbb hg9 (by omega) hbb.size⟩

set_option maxRecDepth 100000 in
set_option maxHeartbeats 1000000 in
theorem specAdd_any (w : World) (a b : Nat) (ha : a < 115792089237316195423570985008687907853269984665640564039457584007913129639936) (hb : b < 115792089237316195423570985008687907853269984665640564039457584007913129639936) :
    Calls Tryz.prog 43 #[nv (dig 16 a), nv (dig 16 b)] w fun e w' => e = .returned (nv (dig 16 (addm a b))) ∧ Below w.heap.size w w' := by
  obtain ⟨A, hA⟩ : ∃ A, A = dig 16 a := ⟨_, rfl⟩
  obtain ⟨B, hB⟩ : ∃ B, B = dig 16 b := ⟨_, rfl⟩
  have la : A.length = 16 := by rw [hA]; simp
  have lb : B.length = 16 := by rw [hB]; simp
  have HDA : Hid (∀ d ∈ A, d < 65536) := by rw [hA]; exact dig_lt _ _
  have HDB : Hid (∀ d ∈ B, d < 65536) := by rw [hB]; exact dig_lt _ _
  have HVA : Hid (valN A = a) := by unfold Hid; rw [hA, valN_dig, pow2_256, Nat.mod_eq_of_lt ha]
  have HVB : Hid (valN B = b) := by unfold Hid; rw [hB, valN_dig, pow2_256, Nat.mod_eq_of_lt hb]
  rw [← hA, ← hB]
  clear hA hB ha hb
  obtain ⟨hNA, hNB, hR, hb3, hs⟩ := pre3 w A B zerosN
  go_enter Tryz.func43, Tryz.ntmps43
  go_wp2
  go_loopw [6] (fun i wr => ∃ (k : Nat) (l : List Nat), k ≤ 16 ∧ i = .int .i64 k ∧ l.length = 16 ∧ Hid (∀ d ∈ l, d ≤ 131070) ∧ Hid (valN l = valN A + valN (B.take k)) ∧ Hid (l.drop k = A.drop k) ∧ NAt wr w.heap.size l ∧ NAt wr (w.heap.size + 1) B ∧ NAt wr (w.heap.size + 2) zerosN ∧ Below w.heap.size w wr) (fun i _ => 16 - (intOf i).toNat)
  case atStart => exact ⟨0, A, Nat.zero_le _, rfl, la, (fun d hd => by have := HDA.out d hd; omega), (by unfold Hid; simp [valN]), rfl, hNA, hNB, hR, hb3⟩
  case round =>
    clear hNA hNB hR hb3 hs
    obtain ⟨k, l, hk, rfl, hl, HL, HV, HDR, hN, hNB, hR, hbw⟩ := hrel
    by_cases hlt : k < 16
    · have ca := hN.cell k (by simp; omega)
      have cb := hNB.cell k (by simp; omega)
      have fk := hN.fr k
      rw [u64s_get] at ca cb
      have hvs := valN_set l k (B[k]'(by omega)) (by omega)
      have htb := valN_take_succ B k (by omega)
      have hla : l[k]'(by omega) = A[k]'(by omega) := by
        have h := HDR.out
        rw [List.drop_eq_getElem_cons (l := l) (i := k) (by omega), List.drop_eq_getElem_cons (l := A) (i := k) (by omega)] at h
        exact (List.cons.inj h).1
      have hd2 : l.drop (k + 1) = A.drop (k + 1) := by
        have h := HDR.out
        rw [List.drop_eq_getElem_cons (l := l) (i := k) (by omega), List.drop_eq_getElem_cons (l := A) (i := k) (by omega)] at h
        exact (List.cons.inj h).2
      have hda := HDA.out (A[k]'(by omega)) (List.getElem_mem _)
      have hdb := HDB.out (B[k]'(by omega)) (List.getElem_mem _)
      rw [hla] at ca hvs
      generalize A[k]'(by omega) = x at *
      generalize B[k]'(by omega) = y at *
      clear hla
      have HVS := Lib.hid hvs; clear hvs
      have HTB := Lib.hid htb; clear htb
      have HD2 := Lib.hid hd2; clear hd2
      have e1 : IntKind.u64.wrap ((x : Int) + (y : Int)) = ((x + y : Nat) : Int) := (IntWalk.u64_in _ (by omega)).trans (by omega)
      have j0 : (0 : Int) ≤ (k : Int) := by omega
      have j1 : (k : Int) < 16 := by omega
      go_wp2_with fail
      go_region
      go_wp2_with fail
      go_roundw
      case rel =>
        refine ⟨k + 1, l.set k (x + y), by omega, by go_num, by simpa using hl, ?_, ?_, ?_, (nat_set hN k (x + y) (by omega)).drew, (hNB.other (by omega)).drew, (hR.other (by omega)).drew, ?_⟩
        · intro u hu
          rcases List.mem_or_eq_of_mem_set hu with h | h
          · exact HL.out u h
          · omega
        · unfold Hid; rw [HVS.out, HTB.out, HV.out, Nat.mul_comm y]; omega
        · unfold Hid; rw [List.drop_set_of_lt (by omega)]; exact HD2.out
        · have h := hbw.setCell (p := ⟨w.heap.size, k, none⟩) (Nat.le_refl _) (.int .u64 ((x : Int) + (y : Int)))
          exact ⟨h.os, h.tape, h.output, h.size, h.block⟩
      case measure => simp [intOf]; omega
    · obtain rfl : k = 16 := by omega
      clear hlt
      go_wp2_with (refine wpList_loadN rfl (.tmp 2) rfl w.heap.size l hl rfl hN ?_)
      refine (settle_any _ l hl (fun d hd => by have := HL.out d hd; omega)).mono ?_
      rintro e w1 ⟨rfl, hb1⟩
      have hval : valN l % pp = addm a b := by rw [HV.out, List.take_of_length_le (by omega), HVA.out, HVB.out]; rfl
      rw [hval]
      clear hval
      have hR1 := hR.below hb1
      have hbb := hbw.trans (hb1.mono hbw.size)
      go_wp2_with (refine wpList_storeN rfl (.tmp 4) (.tmp 20) rfl (w.heap.size + 2) (dig 16 (addm a b)) zerosN (by simp) rfl rfl rfl hR1 ?_; intro w9 hN9 hg9)
      exact ret_n rfl (w.heap.size + 2) _ (by simp) rfl hN9 rfl ⟨rfl, bkept hbb hg9 (by omega) hbb.size⟩

def negm (a : Nat) : Nat := (pp - a % pp) % pp
theorem arr_setCells {t : TypeId} {g : Nat} : ∀ (vs : List Value) (o : Nat) (w : World) (old : List Value), Arr w g t old → o + vs.length ≤ old.length → Arr (w.setCells g o vs) g t (old.take o ++ vs ++ old.drop (o + vs.length))
  | [], o, w, old, h, _ => by simpa [World.setCells] using h
  | v :: r, o, w, old, h, hl => by
    have h1 := h.set o v (by simp at hl; omega)
    have h2 := arr_setCells r (o + 1) _ _ h1 (by simp at hl ⊢; omega)
    simp only [List.length_cons] at hl
    have e : (old.set o v).take (o + 1) ++ r ++ (old.set o v).drop (o + 1 + r.length) = old.take o ++ (v :: r) ++ old.drop (o + (r.length + 1)) := by
      rw [List.take_succ_eq_append_getElem (by simp; omega), List.take_set_of_le (Nat.le_refl o), List.getElem_set_self, List.drop_set_of_lt (by omega)]
      simp [Nat.add_assoc, Nat.add_comm 1]
    rw [e] at h2
    exact h2
theorem setCells_back {t : TypeId} {g : Nat} {fr : Nat × Nat} : ∀ (vs : List Value) (o : Nat) (w : World) (z : Array Value), (w.setCells g o vs).heap[g]? = some (.cells z t fr) → ∃ old : Array Value, w.heap[g]? = some (.cells old t fr) ∧ old.size = z.size
  | [], o, w, z, h => ⟨z, h, rfl⟩
  | v :: r, o, w, z, h => by
    obtain ⟨old, h1, h2⟩ := setCells_back r (o + 1) _ z h
    unfold World.setCell at h1
    simp only [Array.getElem?_modify, if_true] at h1
    cases hw : w.heap[g]? with
    | none => rw [hw] at h1; simp at h1
    | some ob =>
      rw [hw] at h1
      simp only [Option.map_some, Option.some.injEq] at h1
      split at h1
      · rename_i c el fz
        simp only [Obj.cells.injEq] at h1
        obtain ⟨h3, rfl, rfl⟩ := h1
        exact ⟨c, rfl, by rw [← h2, ← h3]; simp⟩
      · rename_i hne; subst h1; exact absurd rfl (hne _ _ _)
theorem arr_stored {t : TypeId} {g : Nat} {w : World} {vs z : List Value} (h : Arr (w.setCells g 0 vs) g t z) (hz : z.length = vs.length) : Arr (w.setCells g 0 vs) g t vs := by
  obtain ⟨old, h1, h2⟩ := setCells_back vs 0 w _ h
  have h3 : Arr w g t old.toList := by unfold Arr; rw [h1]
  have h4 := arr_setCells vs 0 w old.toList h3 (by simp at h2 ⊢; omega)
  simp only [List.take_zero, List.nil_append, Nat.zero_add] at h4
  rw [List.drop_of_length_le (by simp at h2 ⊢; omega), List.append_nil] at h4
  exact h4
theorem arr_setCells_other {t : TypeId} {g k : Nat} {vs : List Value} (hne : g ≠ k) : ∀ (us : List Value) (o : Nat) (w : World), Arr w g t vs → Arr (w.setCells k o us) g t vs
  | [], _, _, h => h
  | u :: r, o, w, h => arr_setCells_other hne r (o + 1) _ (h.other hne)
theorem below_setCells {B k : Nat} {w0 : World} (hk : B ≤ k) : ∀ (us : List Value) (o : Nat) (w : World), Below B w0 w → Below B w0 (w.setCells k o us)
  | [], _, _, h => h
  | u :: r, o, w, h => below_setCells hk r (o + 1) _ (h.setCell hk u)
/-- What a region's calls and its last store leave as it was. -/
def HeldN (w0 w : World) (r : Nat) : Prop := (∃ z, z.length = 16 ∧ NAt w r z) ∧ Below w0.heap.size w0 w
theorem HeldN.there {w0 w : World} {r : Nat} (h : HeldN w0 w r) : w.there r 0 16 := by
  obtain ⟨⟨z, hz, h⟩, _⟩ := h
  have := Arr.there h; simpa [hz] using this
theorem HeldN.drew {w0 w : World} {r : Nat} (h : HeldN w0 w r) : HeldN w0 w.drew r := by
  obtain ⟨⟨z, hz, h⟩, h3⟩ := h; exact ⟨⟨z, hz, h⟩, ⟨h3.os, h3.tape, h3.output, h3.size, h3.block⟩⟩
theorem HeldN.below {w0 w w2 : World} {r : Nat} (h : HeldN w0 w r) (hb : Below w.heap.size w w2) : HeldN w0 w2 r := by
  obtain ⟨⟨z, hz, h⟩, h3⟩ := h; exact ⟨⟨z, hz, Arr.below h hb⟩, h3.trans (hb.mono h3.size)⟩
theorem HeldN.store {w0 w : World} {r : Nat} {l : List Nat} (h : HeldN w0 w r) (hr : w0.heap.size ≤ r) (hl : l.length = 16) : HeldN w0 (w.setCells r 0 (u64s l)) r := by
  obtain ⟨⟨z, hz, h⟩, h3⟩ := h
  have h4 := arr_setCells (u64s l) 0 w _ h (by simp [hz, hl])
  simp only [List.take_zero, List.nil_append, Nat.zero_add] at h4
  rw [List.drop_of_length_le (by simp [hz, hl]), List.append_nil] at h4
  exact ⟨⟨l, hl, h4⟩, below_setCells hr _ _ _ h3⟩
theorem HeldN.stored {w0 w : World} {r : Nat} {l : List Nat} (h : HeldN w0 (w.setCells r 0 (u64s l)) r) (hl : l.length = 16) : NAt (w.setCells r 0 (u64s l)) r l := by
  obtain ⟨⟨z, hz, h⟩, _⟩ := h
  exact arr_stored h (by simp [hz, hl])
/-- One number's block that is read, and one that is written. -/
theorem held_drew {w0 w1 : World} {g r : Nat} {l : List Nat} (h : NAt w1 g l) (hr : HeldN w0 w1 r) : w1.drew.rangeAt g 0 (u64s l) ∧ w1.drew.there r 0 16 ∧ NAt w1.drew g l ∧ HeldN w0 w1.drew r :=
  ⟨Arr.range (show NAt w1.drew g l from h), hr.drew.there, h, hr.drew⟩
theorem held_keep {w0 w1 w2 : World} {g r : Nat} {l : List Nat} (h : w1.rangeAt g 0 (u64s l) ∧ w1.there r 0 16 ∧ NAt w1 g l ∧ HeldN w0 w1 r) (hb : Below w1.heap.size w1 w2) : w2.rangeAt g 0 (u64s l) ∧ w2.there r 0 16 ∧ NAt w2 g l ∧ HeldN w0 w2 r := by
  obtain ⟨_, _, h1, h2⟩ := h
  exact ⟨Arr.range (Arr.below h1 hb), (h2.below hb).there, Arr.below h1 hb, h2.below hb⟩
theorem held_store {w0 w1 : World} {g r : Nat} {l m : List Nat} (h : w1.rangeAt g 0 (u64s l) ∧ w1.there r 0 16 ∧ NAt w1 g l ∧ HeldN w0 w1 r) (hg : g ≠ r) (hr : w0.heap.size ≤ r) (hm : m.length = 16) : (w1.setCells r 0 (u64s m)).rangeAt g 0 (u64s l) ∧ (w1.setCells r 0 (u64s m)).there r 0 16 ∧ NAt (w1.setCells r 0 (u64s m)) g l ∧ HeldN w0 (w1.setCells r 0 (u64s m)) r := by
  obtain ⟨_, _, h1, h2⟩ := h
  have h3 := arr_setCells_other hg (u64s m) 0 _ h1
  exact ⟨Arr.range h3, (h2.store hr hm).there, h3, h2.store hr hm⟩
theorem negm_zero {a : Nat} (h : a % pp = 0) : negm a = 0 := by unfold negm; rw [h]; decide
theorem negm_pos {a : Nat} (h : a % pp ≠ 0) : negm a = pp - a % pp := by
  unfold negm; exact Nat.mod_eq_of_lt (by have := pp_pos; omega)
theorem negm_lt (a : Nat) : negm a < pp := Nat.mod_lt _ pp_pos
theorem addm_negm (a b : Nat) : addm a (negm b) = subm a b := by
  unfold addm negm subm; exact Nat.add_mod_mod _ _ _
theorem held2_drew {w0 w1 : World} {B g h r : Nat} {l m z : List Nat} (H : NAt w1 g l ∧ NAt w1 h m ∧ NAt w1 r z ∧ Below B w0 w1) : w1.drew.rangeAt g 0 (u64s l) ∧ w1.drew.rangeAt h 0 (u64s m) ∧ w1.drew.there r 0 z.length ∧ NAt w1.drew g l ∧ NAt w1.drew h m ∧ NAt w1.drew r z ∧ Below B w0 w1.drew := by
  obtain ⟨h1, h4, h2, h3⟩ := H
  exact ⟨Arr.range (show NAt w1.drew g l from h1), Arr.range (show NAt w1.drew h m from h4), by have := Arr.there (show NAt w1.drew r z from h2); simpa using this, h1, h4, h2, ⟨h3.os, h3.tape, h3.output, h3.size, h3.block⟩⟩
theorem held2_keep {w0 w1 w2 : World} {g h r : Nat} {l m z : List Nat} (H : w1.rangeAt g 0 (u64s l) ∧ w1.rangeAt h 0 (u64s m) ∧ w1.there r 0 z.length ∧ NAt w1 g l ∧ NAt w1 h m ∧ NAt w1 r z ∧ Below w0.heap.size w0 w1) (hb : Below w1.heap.size w1 w2) : w2.rangeAt g 0 (u64s l) ∧ w2.rangeAt h 0 (u64s m) ∧ w2.there r 0 z.length ∧ NAt w2 g l ∧ NAt w2 h m ∧ NAt w2 r z ∧ Below w0.heap.size w0 w2 := by
  obtain ⟨_, _, _, h1, h4, h2, h3⟩ := H
  have k1 := h1.below hb
  have k4 := h4.below hb
  have k2 := h2.below hb
  exact ⟨Arr.range k1, Arr.range k4, by have := Arr.there k2; simpa using this, k1, k4, k2, h3.trans (hb.mono h3.size)⟩

theorem dig_zero_iff (n : Nat) (hn : n < 115792089237316195423570985008687907853269984665640564039457584007913129639936) : dig 16 n = zerosN ↔ n = 0 := by
  constructor
  · intro h
    have h2 := congrArg valN h
    rw [valN_dig, pow2_256, Nat.mod_eq_of_lt hn] at h2
    rw [h2]; decide
  · rintro rfl; decide

set_option maxRecDepth 100000 in
set_option maxHeartbeats 1000000 in
theorem specNeg_any (w : World) (a : Nat) (ha : a < 115792089237316195423570985008687907853269984665640564039457584007913129639936) :
    Calls Tryz.prog 62 #[nv (dig 16 a)] w fun e w' => e = .returned (nv (dig 16 (negm a))) ∧ Below w.heap.size w w' := by
  obtain ⟨hA, hR, hb, hs⟩ := pre2 w (dig 16 a) zerosN
  have hmlt : a % pp < pp := Nat.mod_lt _ pp_pos
  go_enter Tryz.func62, Tryz.ntmps62
  go_wp2_with (refine wpList_loadN rfl (.tmp 1) rfl w.heap.size (dig 16 a) (by simp) rfl hA ?_)
  refine (settle_any _ (dig 16 a) (by simp) (fun d hd => by have := dig_lt _ _ d hd; omega)).mono ?_
  rintro e w1 ⟨rfl, hb1⟩
  rw [valN_dig, pow2_256, Nat.mod_eq_of_lt ha]
  have hz := dig_zero_iff (a % pp) (Nat.lt_trans hmlt (by decide))
  have hn0 := negm_zero (a := a)
  have hn1 := negm_pos (a := a)
  generalize a % pp = m at *
  have hA1 := hA.below hb1
  have hR1 := hR.below hb1
  have hbb := hb.trans (hb1.mono hb.size)
  clear hA hR hb hb1 hs
  by_cases hm : m = 0
  · subst hm
    have HN0 := Lib.hid (hn0 rfl)
    clear hn0 hn1 hz
    go_wp2_with (first | (refine wpList_storeN rfl (.tmp 1) (.tmp 4) rfl w.heap.size (dig 16 0) (dig 16 a) (by simp) (by simp) rfl rfl hA1 ?_; intro w2 hN2 hg2) | (refine wpList_loadN rfl (.tmp 1) rfl w.heap.size (dig 16 0) (by simp) rfl hN2 ?_) | (refine wpList_eqN rfl (.tmp 5) (.tmp 6) _ rfl (dig 16 0) zerosN (by simp) rfl rfl rfl ?_; rw [show decide (dig 16 0 = zerosN) = true from by decide]) | (refine wpList_storeN rfl (.tmp 2) (.tmp 8) rfl (w.heap.size + 1) (dig 16 0) zerosN (by simp) rfl rfl rfl (hR1.kept hg2 (by omega)) ?_; intro w9 hN9 hg9))
    have hb2 := bkept hbb hg2 (Nat.le_refl _) hbb.size
    exact ret_n rfl (w.heap.size + 1) _ (by simp) rfl hN9 rfl ⟨by rw [HN0.out], bkept hb2 hg9 (by omega) hb2.size⟩
  · have HN1 := Lib.hid (hn1 hm)
    have HDZ : Hid (decide (dig 16 m = zerosN) = false) := by
      unfold Hid; rw [decide_eq_false_iff_not, hz]; exact hm
    clear hn0 hn1 hz
    go_wp2_with (first | (refine wpList_storeN rfl (.tmp 1) (.tmp 4) rfl w.heap.size (dig 16 m) (dig 16 a) (by simp) (by simp) rfl rfl hA1 ?_; intro w2 hN2 hg2) | (refine wpList_loadN rfl (.tmp 1) rfl w.heap.size (dig 16 m) (by simp) rfl hN2 ?_) | (refine wpList_eqN rfl (.tmp 5) (.tmp 6) _ rfl (dig 16 m) zerosN (by simp) rfl rfl rfl ?_; rw [HDZ.out]))
    have hb2 := bkept hbb hg2 (Nat.le_refl _) hbb.size
    have hR2 := hR1.kept hg2 (by omega)
    have hu := n_und
    have hi := n_len m
    have hi2 := n_len (pp - m)
    have ho2 := u64s_oneCell (dig 16 (pp - m))
    have hl2 : (u64s (dig 16 (pp - m))).length = 16 := by simp
    have hH2 : HeldN w w2 (w.heap.size + 1) := ⟨⟨_, rfl, hR2⟩, hb2⟩
    have hne : w.heap.size ≠ w.heap.size + 1 := by omega
    have hge : w.heap.size ≤ w.heap.size + 1 := by omega
    have hlen : (dig 16 (pp - m)).length = 16 := by simp
    go_region_held3 (fun w' => w'.rangeAt w.heap.size 0 (u64s (dig 16 m)) ∧ w'.there (w.heap.size + 1) 0 16 ∧ NAt w' w.heap.size (dig 16 m) ∧ HeldN w w' (w.heap.size + 1)) (first | with_reducible exact held_drew hN2 hH2 | with_reducible exact held_keep (by assumption) (by assumption) | with_reducible exact held_store (by assumption) hne hge hlen) (first | (go_at_call 50; refine (specP_any _).mono ?_; rintro e w' ⟨rfl, hbx⟩) | (go_at_call 49; refine (minus_any _ pp m (by decide) (by omega)).mono ?_; rintro e w' ⟨rfl, hbx⟩))
    rename_i hS
    obtain ⟨_, _, _, hH⟩ := hS
    have hN9 := hH.stored (by simp)
    have hb9 := hH.2
    clear hH ho2 hi2 hl2 hlen
    generalize w'.setCells (w.heap.size + 1) 0 (u64s (dig 16 (pp - m))) = w9 at *
    go_wp2_with fail
    exact ret_n rfl (w.heap.size + 1) _ (by simp) rfl hN9 rfl ⟨by rw [HN1.out], hb9⟩


/-- All blocks of W but r are as they were; r holds some number. -/
structure GH (W w : World) (r n : Nat) (T : TypeId) : Prop where
  g : W.grownBy w (some r)
  z : ∃ z, z.length = n ∧ Arr w r T z
section
variable {W w w2 : World} {r n : Nat} {T : TypeId}
theorem GH.start {z : List Value} (h : Arr W r T z) (hn : z.length = n) : GH W W.drew r n T := ⟨⟨rfl, rfl, rfl, Nat.le_refl _, fun _ _ _ => rfl⟩, z, hn, h⟩
theorem GH.call (h : GH W w r n T) (hb : Below w.heap.size w w2) : GH W w2 r n T := by
  obtain ⟨hg, z, hn, hz⟩ := h
  exact ⟨⟨hb.os.trans hg.os, hb.tape.trans hg.tape, hb.output.trans hg.output, Nat.le_trans hg.size hb.size, fun k hk hne => (hb.block k (Nat.lt_of_lt_of_le hk hg.size)).trans (hg.block k hk hne)⟩, z, hn, hz.below hb⟩
theorem GH.store (h : GH W w r n T) (vs : List Value) (hn : vs.length = n) : GH W (w.setRow r vs.toArray) r n T ∧ Arr (w.setRow r vs.toArray) r T vs := by
  obtain ⟨hg, z, hn2, hz⟩ := h
  have h4 : Arr (w.setRow r vs.toArray) r T vs := setRow_heap w r _ _ _ (0, 0) hz
  exact ⟨⟨⟨hg.os, hg.tape, hg.output, by simpa [World.setRow] using hg.size, fun k hk hne => (setRow_other w r k _ (fun e => hne (by rw [e]))).trans (hg.block k hk hne)⟩, vs, hn, h4⟩, h4⟩
theorem GH.there (h : GH W w r n T) : w.there r 0 n := by
  obtain ⟨_, z, hn, hz⟩ := h; subst hn; exact hz.there
theorem GH.below (h : GH W w r n T) {B : Nat} {w0 : World} (hb : Below B w0 W) (hr : B ≤ r) (hs : B ≤ W.heap.size) : Below B w0 w := bkept hb h.g hr hs
end
theorem step_store {P : Program} {o : Oper} {a : Act} {W w : World} {K : Act → World → Prop} {Q : Exit → Act → World → Prop} {r n : Nat} {T : TypeId} (ty : TypeId) (x y : Operand) (ho : o.op = .store ty x y) (H : GH W w r n T) (vs : List Value)
    (hx : a.eval x = .pointer (some ⟨r, 0, none⟩)) (hy : a.eval y = .agg vs.toArray) (hn : vs.length = n) (hi : (P.info? ty).map (·.size) = some n) (h1 : ∀ v ∈ vs, v.oneCell' = true)
    (h : ∀ w', GH W w' r n T → Arr w' r T vs → K (a.put o.dst undef) w') : o.wp P a w K Q := by
  obtain ⟨hg, z, hn2, hz⟩ := H
  have h2 := GH.store ⟨hg, z, hn2, hz⟩ vs hn
  exact wp_store_row ty x y ho r vs.toArray hx hy T z.toArray hz (by rw [hi]; simp [hn]) (by simp [hn, hn2]) (by rw [all_oneCell_toArray h1]) (h _ h2.1 h2.2)

set_option maxRecDepth 100000 in
set_option maxHeartbeats 1000000 in
theorem specSub_any (w : World) (a b : Nat) (ha : a < 115792089237316195423570985008687907853269984665640564039457584007913129639936) (hb : b < 115792089237316195423570985008687907853269984665640564039457584007913129639936) :
    Calls Tryz.prog 44 #[nv (dig 16 a), nv (dig 16 b)] w fun e w' => e = .returned (nv (dig 16 (subm a b))) ∧ Below w.heap.size w w' := by
  obtain ⟨hA, hB, hR, hb3, hs⟩ := pre3 w (dig 16 a) (dig 16 b) zerosN
  have hnl : negm b < 115792089237316195423570985008687907853269984665640564039457584007913129639936 := Nat.lt_trans (negm_lt b) (by decide)
  have HSA : Hid (addm a (negm b) = subm a b) := addm_negm a b
  obtain ⟨w3, hw3⟩ : ∃ w3, w3 = ((w.alloc (objN (dig 16 a))).alloc (objN (dig 16 b))).alloc (objN zerosN) := ⟨_, rfl⟩
  rw [← hw3] at hA hB hR hb3 hs
  go_enter Tryz.func44, Tryz.ntmps44
  go_wp2_with fail
  show Code.wp _ _ _ _ (((w.alloc (objN (dig 16 a))).alloc (objN (dig 16 b))).alloc (objN zerosN))
  rw [← hw3]
  clear hw3
  refine wp_region_held_drew (S := fun w' => GH w3 w' (w.heap.size + 2) 16 56) (by kernel_rfl) (GH.start hR rfl) (fun hH => ?_)
  refine wpAnyH_take (i := 0) rfl (by kernel_rfl) (by kernel_rfl) (by kernel_rfl) (fun _ _ _ h => h) (yieldsIf_load_mid (by rfl) _ _ rfl _ _ rfl _ _ (fun w' h => Arr.range (Arr.kept hA (GH.g h) (by omega))) n_und rfl (n_len (a))) hH ?_
  simp only [Act.put, List.setIfInBounds_toArray, List.set_cons_zero, List.set_cons_succ]
  refine wpAnyH_take (i := 1) rfl (by kernel_rfl) (by kernel_rfl) (by kernel_rfl) (fun _ _ _ h => h) (yieldsIf_load_mid (by rfl) _ _ rfl _ _ rfl _ _ (fun w' h => Arr.range (Arr.kept hB (GH.g h) (by omega))) n_und rfl (n_len (b))) hH ?_
  simp only [Act.put, List.setIfInBounds_toArray, List.set_cons_zero, List.set_cons_succ]
  refine wpAnyH_ready (rs := [2]) (by kernel_rfl) (by simp) ?_
  refine AllReadyH.cons rfl (fun K hK => ?_) AllReadyH.nil
  go_simp
  go_at_call 62
  refine (specNeg_any _ b hb).mono ?_
  rintro e w4 ⟨rfl, hb_w4⟩
  refine hK.out _ _ (hH.call hb_w4) (fun hH => ?_)
  clear hK K
  try simp only [Act.put, List.setIfInBounds_toArray, List.set_cons_zero, List.set_cons_succ]
  refine wpAnyH_ready (rs := [3]) (by kernel_rfl) (by simp) ?_
  refine AllReadyH.cons rfl (fun K hK => ?_) AllReadyH.nil
  go_simp
  go_at_call 43
  refine (specAdd_any _ a (negm b) ha hnl).mono ?_
  rintro e w5 ⟨rfl, hb_w5⟩
  refine hK.out _ _ (hH.call hb_w5) (fun hH => ?_)
  clear hK K
  try simp only [Act.put, List.setIfInBounds_toArray, List.set_cons_zero, List.set_cons_succ]
  refine wpAnyH_ready (rs := [4]) (by kernel_rfl) (by simp) ?_
  refine AllReadyH.cons rfl (fun K hK => ?_) AllReadyH.nil
  refine wanted_step (by rfl) ?_
  refine step_store 56 (.tmp 4) (.tmp 8) rfl hH (u64s (dig 16 (addm a (negm b)))) rfl rfl (by simp) n_size (u64s_oneCell _) ?_
  intro w6 hH hN_w6
  refine hK.out _ _ hH (fun hH => ?_)
  clear hK K
  refine wpAnyH_done (by kernel_rfl) ?_ _
  go_wp2_with fail
  exact ret_n rfl (w.heap.size + 2) _ (by simp) rfl hN_w6 rfl ⟨by rw [HSA.out], hH.below hb3 (by omega) (by omega)⟩
end Go.Proofs.YthjminkkmljjhaaGreatDoor

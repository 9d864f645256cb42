/- The reference's product and Mul. Conditions: numbers below 2^256. -/
import Derived.Test.YthjminkkmljjhaaGreatDoorSe
namespace Go.Proofs.YthjminkkmljjhaaGreatDoor
open Go.RowKit

theorem d_und : Tryz.prog.underlying 85 = some (.array 32 54) := by kernel_rfl
theorem d_size : (Tryz.prog.info? 85).map (·.size) = some 32 := by kernel_rfl
abbrev DAt (w : World) (g : Nat) (l : List Nat) : Prop := Arr w g 85 (u64s l)
def zerosD : List Nat := [0, 0, 0, 0, 0, 0, 0, 0, 0, 0, 0, 0, 0, 0, 0, 0, 0, 0, 0, 0, 0, 0, 0, 0, 0, 0, 0, 0, 0, 0, 0, 0]
theorem dnat_set {w : World} {g : Nat} {l : List Nat} (h : DAt w g l) (k r : Nat) (hk : k < l.length) : DAt (w.setCell ⟨g, k, none⟩ (.int .u64 (r : Int))) g (l.set k r) := by
  show Arr _ _ _ (u64s (l.set k r))
  rw [u64s_set]; exact Arr.set h k _ (by simpa using hk)
section
variable {ops : Array Oper} {rest : List Oper} {o : Oper} {a : Act} {w : World} {Q : Exit → Act → World → Prop}
theorem wpList_loadD (hgd : o.guard = none) (x : Operand) (ho : o.op = .load 85 x) (g : Nat) (l : List Nat) (hl : l.length = 32) (hx : a.eval x = .pointer (some ⟨g, 0, none⟩)) (hR : DAt w g l)
    (h : wpList Tryz.prog ops Q rest (a.put o.dst (nv l)) w) : wpList Tryz.prog ops Q (o :: rest) a w :=
  wpList_load_row hgd _ x ho g hx _ (u64s l).toArray (0, 0) (.array 32 54) hR d_und rfl (by rw [d_size]; simp [hl]) h
theorem wpList_storeD (hgd : o.guard = none) (x y : Operand) (ho : o.op = .store 85 x y) (g : Nat) (l old : List Nat) (hl : l.length = 32) (hold : old.length = 32) (hx : a.eval x = .pointer (some ⟨g, 0, none⟩)) (hy : a.eval y = nv l) (hR : DAt w g old)
    (h : ∀ w', DAt w' g l → w.grownBy w' (some g) → wpList Tryz.prog ops Q rest (a.put o.dst undef) w') : wpList Tryz.prog ops Q (o :: rest) a w :=
  wpList_store_row hgd _ x y ho g (u64s l).toArray hx hy _ (u64s old).toArray hR (by rw [d_size]; simp [hl]) (by simp [hl, hold]) (by rw [all_oneCell_toArray (u64s_oneCell l)])
    (h _ (setRow_heap w g _ _ _ (0, 0) hR) ⟨rfl, rfl, rfl, by simp [World.setRow], fun k _ hk => setRow_other w g k _ (fun e => hk (by rw [e]))⟩)
end
theorem ret_d {f : Func} {p : Tmp} (hr : f.results = #[.cell p 85]) {a : Act} {w : World} {R : Ending → World → Prop} (g : Nat) (l : List Nat) (hl : l.length = 32) (hp : a.tmps.getD p undef = .pointer (some ⟨g, 0, none⟩)) (hg : DAt w g l) (hd : a.defers = [])
    (h : R (.returned (nv l)) w) : bodyPost Tryz.prog f R .ret a w :=
  bodyPost_ret (results_cell_row hr _ _ g _ _ (0, 0) _ hp hg d_und rfl (by rw [d_size]; simp [hl])) hd h
abbrev objD (l : List Nat) : Obj := .cells (u64s l).toArray 85

/-- What the product holds within its rounds. -/
structure PIn (A B L : List Nat) (i k : Nat) : Prop where
  len : L.length = 32
  le : ∀ d ∈ L, d ≤ (16 * i + k) * 4294836225
  val : valN L = valN (A.take i) * valN B + 65536 ^ i * (A.getD i 0) * valN (B.take k)
theorem zerosD_val : valN zerosD = 0 := (valN_dig 32 0).trans (Nat.zero_mod _)
theorem PIn.start (A B : List Nat) : PIn A B zerosD 0 0 := by
  constructor
  · rfl
  · intro d hd
    rw [List.eq_of_mem_replicate (show d ∈ List.replicate 32 0 from hd)]; exact Nat.zero_le _
  · rw [zerosD_val, List.take_zero, List.take_zero]; simp only [valN, Nat.zero_mul, Nat.mul_zero, Nat.add_zero]
theorem PIn.step {A B L : List Nat} {i k x y : Nat} (h : PIn A B L i k) (hi : i < 16) (hk : k < 16) (hA : A.length = 16) (hB : B.length = 16) (hx : A[i]? = some x) (hy : B[k]? = some y) (hx2 : x < 65536) (hy2 : y < 65536) (hj : i + k < L.length) : PIn A B (L.set (i + k) (L[i + k] + x * y)) i (k + 1) := by
  obtain ⟨h1, h2, h3⟩ := h
  have hxy : x * y ≤ 65535 * 65535 := Nat.mul_le_mul (by omega) (by omega)
  have hd := h2 L[i + k] (List.getElem_mem _)
  obtain ⟨hxl, hxe⟩ := List.getElem?_eq_some_iff.1 hx
  obtain ⟨hyl, hye⟩ := List.getElem?_eq_some_iff.1 hy
  have hgx : A.getD i 0 = x := by simp [List.getD, hx]
  refine ⟨by simpa using h1, ?_, ?_⟩
  · intro u hu
    rcases List.mem_or_eq_of_mem_set hu with h | h
    · exact Nat.le_trans (h2 u h) (Nat.mul_le_mul_right _ (by omega))
    · rw [h, show (16 * i + (k + 1)) * 4294836225 = (16 * i + k) * 4294836225 + 65535 * 65535 from by omega]
      exact Nat.add_le_add hd hxy
  · rw [valN_set L (i + k) (x * y) hj, h3, valN_take_succ B k hyl, hye, hgx, Nat.pow_add]
    grind
theorem PIn.next {A B L : List Nat} {i : Nat} (h : PIn A B L i 16) (hi : i < A.length) (hB : B.length = 16) : PIn A B L (i + 1) 0 := by
  obtain ⟨h1, h2, h3⟩ := h
  have hgx : A.getD i 0 = A[i] := by simp [List.getD, hi]
  refine ⟨h1, fun d hd => by have := h2 d hd; omega, ?_⟩
  rw [h3, valN_take_succ A i hi, hgx, show B.take 16 = B from List.take_of_length_le (by omega)]
  simp only [List.take_zero, valN]
  grind

set_option maxRecDepth 100000 in
set_option maxHeartbeats 1000000 in
theorem product_any (w : World) (A B : List Nat) (la : A.length = 16) (lb : B.length = 16) (hdA : ∀ d ∈ A, d < 65536) (hdB : ∀ d ∈ B, d < 65536) :
    Calls Tryz.prog 46 #[nv A, nv B] w fun e w' => ∃ L, e = .returned (nv L) ∧ L.length = 32 ∧ (∀ d ∈ L, d ≤ 1099511627776) ∧ valN L = valN A * valN B ∧ Below w.heap.size w w' := by
  have HDA := Lib.hid hdA
  have HDB := Lib.hid hdB
  clear hdA hdB
  obtain ⟨hA0, hB0, hb2, hs2⟩ := pre2 w A B
  obtain ⟨w2, hw2⟩ : ∃ w2, w2 = (w.alloc (objN A)).alloc (objN B) := ⟨_, rfl⟩
  rw [← hw2] at hA0 hB0 hb2 hs2
  have hR0 : DAt (w2.alloc (objD zerosD)) (w.heap.size + 2) zerosD := by rw [← hs2]; exact arr_new w2 _ _
  have hP0 : DAt ((w2.alloc (objD zerosD)).alloc (objD zerosD)) (w.heap.size + 3) zerosD := by
    have h := arr_new2 w2 (objD zerosD) (u64s zerosD) 85
    rw [hs2] at h; exact h
  have k4 : Below w2.heap.size w2 ((w2.alloc (objD zerosD)).alloc (objD zerosD)) := Below.alloc (below_alloc _ _) (below_alloc _ _).size _
  have hb4 := hb2.trans (k4.mono hb2.size)
  have hA1 := hA0.below k4
  have hB1 := hB0.below k4
  have hR1 := hR0.below (below_alloc (w2.alloc (objD zerosD)) (objD zerosD))
  rw [hw2] at hA1 hB1 hR1 hb4 hP0
  clear hA0 hB0 hb2 hs2 hR0 k4 hw2
  go_enter Tryz.func46, Tryz.ntmps46
  go_wp2_with (first | (refine wpList_storeD rfl (.tmp 5) (.tmp 10) rfl (w.heap.size + 3) zerosD zerosD rfl rfl rfl rfl hP0 ?_; intro w5 hP5 hg5) | (refine wpList_loadN rfl (.tmp 2) rfl w.heap.size A la rfl (hA1.kept hg5 (by omega)) ?_))
  have hA5 := hA1.kept hg5 (by omega)
  have hB5 := hB1.kept hg5 (by omega)
  have hR5 := hR1.kept hg5 (by omega)
  have hb5 := bkept hb4 hg5 (by omega) hb4.size
  clear hA1 hB1 hR1 hb4 hP0 hg5
  go_loopw [12] (fun iv wr => ∃ (i : Nat) (L : List Nat), i ≤ 16 ∧ iv = .int .i64 i ∧ Hid (PIn A B L i 0) ∧ DAt wr (w.heap.size + 3) L ∧ DAt wr (w.heap.size + 2) zerosD ∧ NAt wr (w.heap.size + 1) B ∧ Below w.heap.size w wr) (fun iv _ => 16 - (intOf iv).toNat)
  case atStart => exact ⟨0, zerosD, Nat.zero_le _, rfl, PIn.start A B, hP5, hR5, hB5, hb5⟩
  case round =>
    clear hA5 hB5 hR5 hb5 hP5
    obtain ⟨i, L, hi, rfl, HP, hP, hR, hB, hb⟩ := hrel
    by_cases hlt : i < 16
    · have hix : ∀ w : World, (Instr.index 56 (nv A) (.int .i64 (i : Int))).run Tryz.prog w = .ok (.int .u64 ((A[i]'(by omega) : Nat) : Int)) w := fun w => run_index_n A la i hlt
      have hx2 := HDA.out A[i] (List.getElem_mem _)
      have hxe : A[i]? = some A[i] := List.getElem?_eq_getElem _
      generalize A[i] = x at *
      have HXE := Lib.hid hxe; clear hxe
      obtain ⟨wo, hwo⟩ : ∃ wo : World, wo = wr := ⟨_, rfl⟩
      go_wp2_with (refine wpList_loadN rfl (.tmp 3) rfl (w.heap.size + 1) B lb rfl hB ?_)
      clear hix
      go_loopw [17] (fun kv wq => ∃ (k : Nat) (L : List Nat), k ≤ 16 ∧ kv = .int .i64 k ∧ Hid (PIn A B L i k) ∧ DAt wq (w.heap.size + 3) L ∧ DAt wq (w.heap.size + 2) zerosD ∧ NAt wq (w.heap.size + 1) B ∧ Below w.heap.size w wq) (fun kv _ => 16 - (intOf kv).toNat)
      case atStart => exact ⟨0, L, Nat.zero_le _, rfl, HP, hP, hR, hB, hb⟩
      case round =>
        clear hP hR hB hb HP hwo
        obtain ⟨k, L, hk, rfl, HP, hP, hR, hB, hb⟩ := hrel
        by_cases hlt2 : k < 16
        · have hix : ∀ w : World, (Instr.index 56 (nv B) (.int .i64 (k : Int))).run Tryz.prog w = .ok (.int .u64 ((B[k]'(by omega) : Nat) : Int)) w := fun w => run_index_n B lb k hlt2
          have hy2 := HDB.out B[k] (List.getElem_mem _)
          have hye : B[k]? = some B[k] := List.getElem?_eq_getElem _
          have hll := HP.out.len
          have cl := hP.cell (i + k) (by simp; omega)
          rw [u64s_get] at cl
          have fl := hP.fr (i + k)
          have hst : PIn A B (L.set (i + k) (L[i + k]'(by omega) + x * B[k])) i (k + 1) := HP.out.step hlt hlt2 la lb HXE.out hye hx2 hy2 (by omega)
          have hle := HP.out.le (L[i + k]'(by omega)) (List.getElem_mem _)
          have hxy : x * B[k] ≤ 65535 * 65535 := Nat.mul_le_mul (by omega) (by omega)
          generalize B[k] = y at *
          generalize L[i + k]'(by omega) = z at *
          have HST := Lib.hid hst; clear hst
          obtain ⟨p, hp⟩ : ∃ p, p = x * y := ⟨_, rfl⟩
          rw [← hp] at hxy HST
          have e1 : IntKind.u64.wrap ((x : Int) * (y : Int)) = (p : Int) := by
            rw [← Int.natCast_mul, ← hp]; exact IntWalk.u64_in _ (by omega)
          have HPP := Lib.hid hp; clear hp
          have e2 : IntKind.u64.wrap ((z : Int) + (p : Int)) = ((z + p : Nat) : Int) := (IntWalk.u64_in _ (by omega)).trans (by omega)
          have e3 : IntKind.i64.wrap ((i : Int) + (k : Int)) = ((i + k : Nat) : Int) := (IntWalk.i64_in _ (by omega)).trans (by omega)
          clear hye
          go_wp2
          go_roundw
          case rel => exact ⟨k + 1, L.set (i + k) (z + p), by omega, by go_num, HST, dnat_set hP (i + k) (z + p) (by omega), hR.other (by omega), hB.other (by omega), hb.setCell (by show w.heap.size ≤ w.heap.size + 3; omega) _⟩
          case measure => simp [intOf]; omega
        · obtain rfl : k = 16 := by omega
          clear hlt2
          go_wp2
          go_roundw
          case rel => exact ⟨i + 1, L, by omega, by go_num, HP.out.next (by omega) lb, hP, hR, hB, hb⟩
          case measure => simp [intOf]; omega
    · obtain rfl : i = 16 := by omega
      clear hlt
      have hll := HP.out.len
      have hle := HP.out.le
      have hv : valN L = valN A * valN B := by
        rw [HP.out.val, show A.take 16 = A from List.take_of_length_le (by omega)]
        simp [valN]
      have HLE := Lib.hid hle; clear hle
      have HV := Lib.hid hv; clear hv
      go_wp2_with (first | (refine wpList_loadD rfl (.tmp 5) rfl (w.heap.size + 3) L hll rfl hP ?_) | (refine wpList_storeD rfl (.tmp 4) (.tmp 36) rfl (w.heap.size + 2) L zerosD hll rfl rfl rfl hR ?_; intro w9 hN9 hg9))
      exact ret_d rfl (w.heap.size + 2) L hll rfl hN9 rfl ⟨L, rfl, hll, (fun d hd => by have := HLE.out d hd; omega), HV.out, bkept hb hg9 (by omega) hb.size⟩

/-- The digits of a product, folded. -/
def foldN (L : List Nat) : List Nat := (List.range 16).map fun i => L.getD i 0 + 38 * L.getD (i + 16) 0
theorem foldN_sum (L : List Nat) (hL : L.length = 32) : ∀ k, k ≤ 16 → valN ((foldN L).take k) = valN (L.take k) + 38 * valN ((L.drop 16).take k) := by
  intro k
  induction k with
  | zero => intro _; simp [valN]
  | succ k ih =>
    intro hk
    have hf : (foldN L).length = 16 := by simp [foldN]
    rw [valN_take_succ (foldN L) k (by omega), valN_take_succ L k (by omega), valN_take_succ (L.drop 16) k (by simp; omega), ih (by omega)]
    have h1 : (foldN L)[k]'(by omega) = L[k]'(by omega) + 38 * L[k + 16]'(by omega) := by
      simp [foldN, List.getD, List.getElem?_eq_getElem (show k < L.length from by omega), List.getElem?_eq_getElem (show k + 16 < L.length from by omega)]
    have h2 : (L.drop 16)[k]'(by simp; omega) = L[k + 16]'(by omega) := by
      rw [List.getElem_drop]; congr 1; omega
    rw [h1, h2]
    grind
theorem foldN_le (L : List Nat) (h : ∀ d ∈ L, d ≤ 1099511627776) : ∀ d ∈ foldN L, d ≤ 1125899906842623 := by
  have hg (j : Nat) : L.getD j 0 ≤ 1099511627776 := by
    by_cases hj : j < L.length
    · have := h L[j] (List.getElem_mem _); simpa [List.getD, hj] using this
    · simp [List.getD, List.getElem?_eq_none (show L.length ≤ j by omega)]
  intro d hd
  simp only [foldN, List.mem_map] at hd
  obtain ⟨i, _, rfl⟩ := hd
  have := hg i
  have := hg (i + 16)
  omega
theorem foldN_val (L : List Nat) (hL : L.length = 32) : valN (foldN L) % pp = valN L % pp := by
  have h := foldN_sum L hL 16 (Nat.le_refl _)
  rw [show (foldN L).take 16 = foldN L from List.take_of_length_le (by simp [foldN]), show (L.drop 16).take 16 = L.drop 16 from List.take_of_length_le (by simp; omega)] at h
  have h2 := valN_split L 16 (by omega)
  rw [pow2_256] at h2
  rw [h, h2]
  generalize valN (L.take 16) = x
  generalize valN (L.drop 16) = y
  unfold pp
  omega

set_option maxRecDepth 100000 in
set_option maxHeartbeats 1000000 in
theorem specMul_any (w : World) (a b : Nat) (ha : a < 115792089237316195423570985008687907853269984665640564039457584007913129639936) (hb : b < 115792089237316195423570985008687907853269984665640564039457584007913129639936) :
    Calls Tryz.prog 28 #[nv (dig 16 a), nv (dig 16 b)] w fun e w' => e = .returned (nv (dig 16 (mulm a b))) ∧ Below w.heap.size w w' := by
  obtain ⟨hA, hB, hR, hb3, hs⟩ := pre3 w (dig 16 a) (dig 16 b) zerosN
  have HVA : Hid (valN (dig 16 a) = a) := by unfold Hid; rw [valN_dig, pow2_256, Nat.mod_eq_of_lt ha]
  have HVB : Hid (valN (dig 16 b) = b) := by unfold Hid; rw [valN_dig, pow2_256, Nat.mod_eq_of_lt hb]
  go_enter Tryz.func28, Tryz.ntmps28
  go_wp2_with (first | (refine wpList_loadN rfl (.tmp 2) rfl w.heap.size (dig 16 a) (by simp) rfl hA ?_) | (refine wpList_loadN rfl (.tmp 3) rfl (w.heap.size + 1) (dig 16 b) (by simp) rfl hB ?_))
  refine (product_any _ (dig 16 a) (dig 16 b) (by simp) (by simp) (dig_lt _ _) (dig_lt _ _)).mono ?_
  rintro e w1 ⟨L, rfl, hL, hLe, hLv, hb1⟩
  have hR1 := hR.below hb1
  have hbb := hb3.trans (hb1.mono hb3.size)
  have HLE := Lib.hid hLe
  have HLV := Lib.hid hLv
  clear hA hB hR hb3 hs hb1 hLe hLv
  have hd1 : DAt (w1.alloc (objD zerosD)) w1.heap.size zerosD := arr_new w1 _ _
  have hbb1 : Below w.heap.size w (w1.alloc (objD zerosD)) := Below.alloc hbb hbb.size _
  have hs1 := hR1.lt
  have hsz := size_alloc w1 (objD zerosD)
  have hR2 := hR1.below (below_alloc w1 (objD zerosD))
  go_wp2_with (first | (refine wpList_storeD rfl (.tmp 5) (.tmp 10) rfl w1.heap.size L zerosD hL rfl rfl rfl hd1 ?_; intro w2 hD2 hg2))
  have k3 := below_alloc w2 (objN zerosN)
  have hN3 : NAt (w2.alloc (objN zerosN)) w2.heap.size zerosN := arr_new w2 _ _
  have hg2' : (w1.alloc (objD zerosD)).grownBy w2 (some w1.heap.size) := hg2
  have hD3 := hD2.below k3
  have hR3 := (hR2.kept hg2' (by omega)).below k3
  have hb3 : Below w.heap.size w (w2.alloc (objN zerosN)) := Below.alloc (bkept hbb1 hg2' (by omega) hbb1.size) (bkept hbb1 hg2' (by omega) hbb1.size).size _
  have hgs := hg2'.size
  obtain ⟨g5, hg5⟩ : ∃ g, g = w1.heap.size := ⟨_, rfl⟩
  obtain ⟨g6, hg6⟩ : ∃ g, g = w2.heap.size := ⟨_, rfl⟩
  have hne1 : g5 ≠ g6 := by omega
  have hne2 : w.heap.size + 2 ≠ g6 := by omega
  have hge6 : w.heap.size ≤ g6 := by omega
  rw [← hg5] at hD3 ⊢
  rw [← hg6] at hN3 ⊢
  clear hg2 hg2' hD2 hbb1 hs1 hR1 hR2 hd1 k3 hg5 hg6 hgs hsz hbb
  go_loopw [12] (fun iv wr => ∃ (k : Nat) (l : List Nat), k ≤ 16 ∧ iv = .int .i64 k ∧ l.length = 16 ∧ Hid (l.take k = (foldN L).take k) ∧ NAt wr g6 l ∧ DAt wr g5 L ∧ NAt wr (w.heap.size + 2) zerosN ∧ Below w.heap.size w wr) (fun iv _ => 16 - (intOf iv).toNat)
  case atStart => exact ⟨0, zerosN, Nat.zero_le _, rfl, rfl, rfl, hN3, hD3, hR3, hb3⟩
  case round =>
    clear hN3 hD3 hR3 hb3
    obtain ⟨k, l, hk, rfl, hl, HT, hN, hD, hR, hb⟩ := hrel
    by_cases hlt : k < 16
    · have c1 := hD.cell k (by simp; omega)
      have c2 := hD.cell (k + 16) (by simp; omega)
      rw [u64s_get] at c1 c2
      have fk := hN.fr k
      have ck := hN.cell k (by simp; omega)
      have h1 := HLE.out (L[k]'(by omega)) (List.getElem_mem _)
      have h2 := HLE.out (L[k + 16]'(by omega)) (List.getElem_mem _)
      have hfl : (foldN L).length = 16 := by simp [foldN]
      have hfk : (foldN L)[k]'(by omega) = L[k]'(by omega) + 38 * L[k + 16]'(by omega) := by
        simp [foldN, List.getD, List.getElem?_eq_getElem (show k < L.length from by omega), List.getElem?_eq_getElem (show k + 16 < L.length from by omega)]
      have htk : (foldN L).take (k + 1) = (foldN L).take k ++ [L[k]'(by omega) + 38 * L[k + 16]'(by omega)] := by
        rw [List.take_succ_eq_append_getElem (by omega), hfk]
      clear hfk
      generalize L[k]'(by omega) = x at *
      generalize L[k + 16]'(by omega) = y at *
      have HTK := Lib.hid htk; clear htk
      have e1 : IntKind.i64.wrap ((k : Int) + 16) = ((k + 16 : Nat) : Int) := (IntWalk.i64_in _ (by omega)).trans (by omega)
      have e2 : IntKind.u64.wrap (38 * (y : Int)) = ((38 * y : Nat) : Int) := (IntWalk.u64_in _ (by omega)).trans (by omega)
      have e3 : IntKind.u64.wrap ((x : Int) + 38 * (y : Int)) = ((x + 38 * y : Nat) : Int) := (IntWalk.u64_in _ (by omega)).trans (by omega)
      have j0 : (0 : Int) ≤ (k : Int) := by omega
      have j1 : (k : Int) < 16 := by omega
      have j2 : (k : Int) + 16 < 32 := by omega
      have j3 : (0 : Int) ≤ (k : Int) + 16 := by omega
      have j4 : (k : Int) < 32 := by omega
      go_wp2_with fail
      go_region
      go_wp2_with fail
      go_roundw
      case rel =>
        refine ⟨k + 1, l.set k (x + 38 * y), by omega, by go_num, by simpa using hl, ?_, (nat_set hN k (x + 38 * y) (by omega)).drew, (hD.other hne1).drew, (hR.other hne2).drew, ?_⟩
        · unfold Hid; rw [HTK.out, ← HT.out, List.take_succ_eq_append_getElem (by simpa using (by omega : k < l.length)), List.getElem_set_self, List.take_set_of_le (Nat.le_refl k)]
        · have h := hb.setCell (p := ⟨g6, k, none⟩) hge6 (.int .u64 ((x : Int) + 38 * (y : Int)))
          exact ⟨h.os, h.tape, h.output, h.size, h.block⟩
      case measure => simp [intOf]; omega
    · obtain rfl : k = 16 := by omega
      clear hlt
      have hfold : l = foldN L := by
        have h := HT.out
        rwa [List.take_of_length_le (by omega), List.take_of_length_le (by simp [foldN])] at h
      subst hfold
      go_wp2_with (refine wpList_loadN rfl (.tmp 6) rfl g6 (foldN L) hl rfl hN ?_)
      refine (settle_any _ (foldN L) hl (foldN_le L HLE.out)).mono ?_
      rintro e w3 ⟨rfl, hb1⟩
      have hval : valN (foldN L) % pp = mulm a b := by rw [foldN_val L hL, HLV.out, HVA.out, HVB.out]; rfl
      rw [hval]
      clear hval
      have hR1 := hR.below hb1
      have hbb := hb.trans (hb1.mono hb.size)
      go_wp2_with (refine wpList_storeN rfl (.tmp 4) (.tmp 28) rfl (w.heap.size + 2) (dig 16 (mulm a b)) zerosN (by simp) rfl rfl rfl hR1 ?_; intro w9 hN9 hg9)
      exact ret_n rfl (w.heap.size + 2) _ (by simp) rfl hN9 rfl ⟨rfl, bkept hbb hg9 (by omega) hbb.size⟩
end Go.Proofs.YthjminkkmljjhaaGreatDoor

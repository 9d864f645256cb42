/- The reference's Of, Bytes, Clamped. Conditions: 32 bytes; numbers below 2^256. -/
import Derived.Test.YthjminkkmljjhaaGreatDoorSr
import Derived.Deep.CutRange
import Derived.Deep.DeepCutAuto
namespace Go.Proofs.YthjminkkmljjhaaGreatDoor
open Go.RowKit

theorem b_und : Tryz.prog.underlying 22 = some (.array 32 5) := by kernel_rfl
theorem b_size : (Tryz.prog.info? 22).map (·.size) = some 32 := by kernel_rfl
abbrev BAt (w : World) (g : Nat) (l : List UInt8) : Prop := Arr w g 22 (u8s l)
abbrev bv (l : List UInt8) : Value := .agg (u8s l).toArray
abbrev objB (l : List UInt8) : Obj := .cells (u8s l).toArray 22
def zerosB : List UInt8 := [0, 0, 0, 0, 0, 0, 0, 0, 0, 0, 0, 0, 0, 0, 0, 0, 0, 0, 0, 0, 0, 0, 0, 0, 0, 0, 0, 0, 0, 0, 0, 0]
theorem b_set {w : World} {g : Nat} {l : List UInt8} (h : BAt w g l) (k : Nat) (r : UInt8) (hk : k < l.length) : BAt (w.setCell ⟨g, k, none⟩ (.int .u8 (r.toNat : Int))) g (l.set k r) := by
  show Arr _ _ _ (u8s (l.set k r))
  rw [u8s_set]; exact Arr.set h k _ (by simpa using hk)
theorem run_index_b {w : World} (l : List UInt8) (hl : l.length = 32) (k : Nat) (hk : k < 32) :
    (Instr.index 22 (bv l) (.int .i64 (k : Int))).run Tryz.prog w = .ok (.int .u8 ((l[k]'(by omega)).toNat : Int)) w := by
  obtain ⟨i, hi⟩ : ∃ i, Tryz.prog.info? 5 = some i := Option.isSome_iff_exists.1 (by kernel_rfl)
  have h := run_index_arr (P := Tryz.prog) (w := w) b_und (by kernel_rfl) hi (by kernel_rfl) (u8s l) (by simpa using hl) .i64 k (by simp; omega)
  rw [u8s_get] at h
  exact h
section
variable {ops : Array Oper} {rest : List Oper} {o : Oper} {a : Act} {w : World} {Q : Exit → Act → World → Prop}
theorem wpList_loadB (hgd : o.guard = none) (x : Operand) (ho : o.op = .load 22 x) (g : Nat) (l : List UInt8) (hl : l.length = 32) (hx : a.eval x = .pointer (some ⟨g, 0, none⟩)) (hR : BAt w g l)
    (h : wpList Tryz.prog ops Q rest (a.put o.dst (bv l)) w) : wpList Tryz.prog ops Q (o :: rest) a w :=
  wpList_load_row hgd _ x ho g hx _ (u8s l).toArray (0, 0) (.array 32 5) hR b_und rfl (by rw [b_size]; simp [hl]) h
theorem wpList_storeB (hgd : o.guard = none) (x y : Operand) (ho : o.op = .store 22 x y) (g : Nat) (l old : List UInt8) (hl : l.length = 32) (hold : old.length = 32) (hx : a.eval x = .pointer (some ⟨g, 0, none⟩)) (hy : a.eval y = bv l) (hR : BAt w g old)
    (h : ∀ w', BAt w' g l → w.grownBy w' (some g) → wpList Tryz.prog ops Q rest (a.put o.dst undef) w') : wpList Tryz.prog ops Q (o :: rest) a w :=
  wpList_store_row hgd _ x y ho g (u8s l).toArray hx hy _ (u8s old).toArray hR (by rw [b_size]; simp [hl]) (by simp [hl, hold]) (by rw [all_oneCell_toArray (u8s_oneCell l)])
    (h _ (setRow_heap w g _ _ _ (0, 0) hR) ⟨rfl, rfl, rfl, by simp [World.setRow], fun k _ hk => setRow_other w g k _ (fun e => hk (by rw [e]))⟩)
end
theorem ret_b {f : Func} {p : Tmp} (hr : f.results = #[.cell p 22]) {a : Act} {w : World} {R : Ending → World → Prop} (g : Nat) (l : List UInt8) (hl : l.length = 32) (hp : a.tmps.getD p undef = .pointer (some ⟨g, 0, none⟩)) (hg : BAt w g l) (hd : a.defers = [])
    (h : R (.returned (bv l)) w) : bodyPost Tryz.prog f R .ret a w :=
  bodyPost_ret (results_cell_row hr _ _ g _ _ (0, 0) _ hp hg b_und rfl (by rw [b_size]; simp [hl])) hd h

theorem pow_even (j : Nat) : 256 ^ (2 * j) = 65536 ^ j := by rw [Nat.pow_mul]
theorem pow_odd (j : Nat) : 256 ^ (2 * j + 1) = 65536 ^ j * 256 := by rw [Nat.pow_succ, Nat.pow_mul]
theorem of_even (n b j : Nat) (hj : j < 16) (hn : n < 256 ^ (2 * j)) (hb : b < 256) : n / 65536 ^ j % 65536 = 0 ∧ (dig 16 n).set j b = dig 16 (n + 256 ^ (2 * j) * b) := by
  rw [pow_even] at hn ⊢
  have h0 : n / 65536 ^ j % 65536 = 0 := by rw [Nat.div_eq_of_lt hn]
  refine ⟨h0, dig_val_eq _ _ (by simp) ?_ ?_⟩
  · intro d hd
    rcases List.mem_or_eq_of_mem_set hd with h | h
    · exact dig_lt _ _ d h
    · omega
  · have h := valN_set (dig 16 n) j b (by simpa using hj)
    rw [dig_get, h0, Nat.zero_add, valN_dig] at h
    rw [h, Nat.mod_eq_of_lt (Nat.lt_of_lt_of_le hn (Nat.pow_le_pow_right (by decide) (by omega))), Nat.mul_comm b]
theorem of_odd (n b j : Nat) (hj : j < 16) (hn : n < 256 ^ (2 * j + 1)) (hb : b < 256) : n / 65536 ^ j % 65536 < 256 ∧ (dig 16 n).set j (n / 65536 ^ j % 65536 + b * 256) = dig 16 (n + 256 ^ (2 * j + 1) * b) := by
  rw [pow_odd] at hn ⊢
  have h0 : n / 65536 ^ j < 256 := Nat.div_lt_of_lt_mul hn
  have h1 : n / 65536 ^ j % 65536 = n / 65536 ^ j := Nat.mod_eq_of_lt (by omega)
  refine ⟨by omega, dig_val_eq _ _ (by simp) ?_ ?_⟩
  · intro d hd
    rcases List.mem_or_eq_of_mem_set hd with h | h
    · exact dig_lt _ _ d h
    · omega
  · have h := valN_set (dig 16 n) j (b * 256) (by simpa using hj)
    rw [dig_get, valN_dig] at h
    rw [h, Nat.mod_eq_of_lt (Nat.lt_of_lt_of_le hn _)]
    · grind
    · rw [show 65536 ^ j * 256 = 256 ^ (2 * j + 1) from (pow_odd j).symm, show (65536 : Nat) = 256 ^ 2 from rfl, ← Nat.pow_mul]
      exact Nat.pow_le_pow_right (by decide) (by omega)
theorem numB_take_succ (l : List UInt8) (i : Nat) (h : i < l.length) : numB (l.take (i + 1)) = numB (l.take i) + 256 ^ i * l[i].toNat := by
  rw [List.take_succ_eq_append_getElem h, numB_append]
  simp [numB, Nat.min_eq_left (Nat.le_of_lt h)]
theorem numB_take_lt (l : List UInt8) (i : Nat) (h : i ≤ l.length) : numB (l.take i) < 256 ^ i := by
  have := numB_lt (l.take i); rwa [List.length_take, Nat.min_eq_left h] at this

set_option maxRecDepth 100000 in
set_option maxHeartbeats 1000000 in
theorem of_any (w : World) (l : List UInt8) (hl : l.length = 32) :
    Calls Tryz.prog 22 #[bv l] w fun e w' => e = .returned (nv (dig 16 (numB l))) ∧ Below w.heap.size w w' := by
  have hA0 : BAt (w.alloc (objB l)) w.heap.size l := arr_new w _ _
  have hR0 : NAt ((w.alloc (objB l)).alloc (objN zerosN)) (w.heap.size + 1) zerosN := arr_new2 w _ _ _
  obtain ⟨w2, hw2⟩ : ∃ w2, w2 = (w.alloc (objB l)).alloc (objN zerosN) := ⟨_, rfl⟩
  have hs2 : w2.heap.size = w.heap.size + 2 := by rw [hw2]; simp
  have hA1 : BAt w2 w.heap.size l := by rw [hw2]; exact hA0.below (below_alloc _ _)
  rw [← hw2] at hR0
  have hb2 : Below w.heap.size w w2 := by rw [hw2]; exact Below.alloc (below_alloc _ _) (below_alloc _ _).size _
  have hN : NAt (w2.alloc (objN zerosN)) (w.heap.size + 2) zerosN := by rw [← hs2]; exact arr_new w2 _ _
  have hA := hA1.below (below_alloc w2 (objN zerosN))
  have hR := hR0.below (below_alloc w2 (objN zerosN))
  have hb : Below w.heap.size w (w2.alloc (objN zerosN)) := Below.alloc hb2 hb2.size _
  rw [hw2] at hN hA hR hb
  clear hA0 hR0 hA1 hb2 hs2 hw2
  go_enter Tryz.func22, Tryz.ntmps22
  go_wp2_with (first | (refine wpList_storeN rfl (.tmp 3) (.tmp 6) rfl (w.heap.size + 2) zerosN zerosN rfl rfl rfl rfl hN ?_; intro w3 hN3 hg3) | (refine wpList_loadB rfl (.tmp 1) rfl w.heap.size l hl rfl (hA.kept hg3 (by omega)) ?_))
  have hR3 := hR.kept hg3 (by omega)
  have hb3 := bkept hb hg3 (by omega) hb.size
  clear hN hA hR hb hg3
  go_loopw [8] (fun iv wr => ∃ k : Nat, k ≤ 32 ∧ iv = .int .i64 k ∧ NAt wr (w.heap.size + 2) (dig 16 (numB (l.take k))) ∧ NAt wr (w.heap.size + 1) zerosN ∧ Below w.heap.size w wr) (fun iv _ => 32 - (intOf iv).toNat)
  case atStart => exact ⟨0, Nat.zero_le _, rfl, (by rw [List.take_zero]; exact hN3), hR3, hb3⟩
  case round =>
    clear hN3 hR3 hb3
    obtain ⟨k, hk, rfl, hN, hR, hb⟩ := hrel
    by_cases hlt : k < 32
    · have hix : ∀ w : World, (Instr.index 22 (bv l) (.int .i64 (k : Int))).run Tryz.prog w = .ok (.int .u8 ((l[k]'(by omega)).toNat : Int)) w := fun w => run_index_b l hl k hlt
      have hts := numB_take_succ l k (by omega)
      have htl := numB_take_lt l k (by omega)
      have hx := UInt8.toNat_lt (l[k]'(by omega))
      generalize (l[k]'(by omega)).toNat = x at *
      obtain ⟨j, hj⟩ : ∃ j, j = k / 2 := ⟨_, rfl⟩
      have hj16 : j < 16 := by omega
      have cN := hN.cell j (by simp; omega)
      rw [u64s_get, dig_get] at cN
      have fN := hN.fr j
      have e1 : (k : Int) / 2 = (j : Int) := by omega
      have i0 : (0 : Int) ≤ (j : Int) := by omega
      have i1 : (j : Int) < 16 := by omega
      by_cases hpar : k % 2 = 0
      · have hk2 : k = 2 * j := by omega
        have hE := of_even (numB (l.take k)) x j hj16 (by rw [← hk2]; exact htl) hx
        rw [← hk2, ← hts] at hE
        obtain ⟨h0, hset⟩ := hE
        rw [h0] at cN
        have HSET := Lib.hid hset
        have e2 : (k : Int) % 2 = 0 := by omega
        clear hset hts htl h0 hj hk2
        have e3 : IntKind.u64.wrap (x : Int) = (x : Int) := IntWalk.u64_in _ (by omega)
        have hst := nat_set hN j x (by simpa using hj16)
        rw [HSET.out] at hst
        go_wp2_with fail
        go_region
        go_wp2_with fail
        go_roundw
        case rel =>
          refine ⟨k + 1, by omega, by go_num, hst.drew, (hR.other (by omega)).drew, ?_⟩
          have h := hb.setCell (p := ⟨w.heap.size + 2, j, none⟩) (by show w.heap.size ≤ w.heap.size + 2; omega) (.int .u64 (x : Int))
          exact ⟨h.os, h.tape, h.output, h.size, h.block⟩
        case measure => simp [intOf]; omega
      · have hk2 : k = 2 * j + 1 := by omega
        have hE := of_odd (numB (l.take k)) x j hj16 (by rw [← hk2]; exact htl) hx
        rw [← hk2, ← hts] at hE
        obtain ⟨h0, hset⟩ := hE
        generalize numB (l.take k) / 65536 ^ j % 65536 = y at *
        have HSET := Lib.hid hset
        have e2 : (k : Int) % 2 = 1 := by omega
        clear hset hts htl hj hk2
        have e3 : IntKind.u64.wrap (x : Int) = (x : Int) := IntWalk.u64_in _ (by omega)
        have e4 : IntKind.u64.wrap ((x : Int) * 256) = (x : Int) * 256 := IntWalk.u64_in _ (by omega)
        have e5 : IntKind.u64.wrap ((y : Int) + (x : Int) * 256) = (y : Int) + (x : Int) * 256 := IntWalk.u64_in _ (by omega)
        have hst := nat_set hN j (y + x * 256) (by simpa using hj16)
        rw [HSET.out] at hst
        go_wp2_with fail
        go_region
        go_wp2_with fail
        go_roundw
        case rel =>
          refine ⟨k + 1, by omega, by go_num, hst.drew, (hR.other (by omega)).drew, ?_⟩
          have h := hb.setCell (p := ⟨w.heap.size + 2, j, none⟩) (by show w.heap.size ≤ w.heap.size + 2; omega) (.int .u64 ((y : Int) + (x : Int) * 256))
          exact ⟨h.os, h.tape, h.output, h.size, h.block⟩
        case measure => simp [intOf]; omega
    · obtain rfl : k = 32 := by omega
      clear hlt
      rw [List.take_of_length_le (by omega)] at hN
      go_wp2_with (first | (refine wpList_loadN rfl (.tmp 3) rfl (w.heap.size + 2) (dig 16 (numB l)) (by simp) rfl hN ?_) | (refine wpList_storeN rfl (.tmp 2) (.tmp 27) rfl (w.heap.size + 1) (dig 16 (numB l)) zerosN (by simp) rfl rfl rfl hR ?_; intro w9 hN9 hg9))
      exact ret_n rfl (w.heap.size + 1) _ (by simp) rfl hN9 rfl ⟨rfl, bkept hb hg9 (by omega) hb.size⟩

theorem leB_at (n i : Nat) (hi : i < 32) : (leB n)[i]? = some (UInt8.ofNat (n / 256 ^ i % 256)) := by simp [leB, hi]
theorem byte_even (n j : Nat) : n / 65536 ^ j % 65536 % 256 = n / 256 ^ (2 * j) % 256 := by rw [pow_even]; omega
theorem byte_odd (n j : Nat) : n / 65536 ^ j % 65536 / 256 % 256 = n / 256 ^ (2 * j + 1) % 256 := by
  rw [pow_odd, ← Nat.div_div_eq_div_mul]; omega

set_option maxRecDepth 100000 in
set_option maxHeartbeats 1000000 in
theorem bytes_any (w : World) (n : Nat) :
    Calls Tryz.prog 27 #[nv (dig 16 n)] w fun e w' => e = .returned (bv (leB n)) ∧ Below w.heap.size w w' := by
  have hA0 : NAt (w.alloc (objN (dig 16 n))) w.heap.size (dig 16 n) := arr_new w _ _
  have hR0 : BAt ((w.alloc (objN (dig 16 n))).alloc (objB zerosB)) (w.heap.size + 1) zerosB := arr_new2 w _ _ _
  obtain ⟨w2, hw2⟩ : ∃ w2, w2 = (w.alloc (objN (dig 16 n))).alloc (objB zerosB) := ⟨_, rfl⟩
  have hs2 : w2.heap.size = w.heap.size + 2 := by rw [hw2]; simp
  have hA1 : NAt w2 w.heap.size (dig 16 n) := by rw [hw2]; exact hA0.below (below_alloc _ _)
  rw [← hw2] at hR0
  have hb2 : Below w.heap.size w w2 := by rw [hw2]; exact Below.alloc (below_alloc _ _) (below_alloc _ _).size _
  have hN : BAt (w2.alloc (objB zerosB)) (w.heap.size + 2) zerosB := by rw [← hs2]; exact arr_new w2 _ _
  have hA := hA1.below (below_alloc w2 (objB zerosB))
  have hR := hR0.below (below_alloc w2 (objB zerosB))
  have hb : Below w.heap.size w (w2.alloc (objB zerosB)) := Below.alloc hb2 hb2.size _
  rw [hw2] at hN hA hR hb
  clear hA0 hR0 hA1 hb2 hs2 hw2
  go_enter Tryz.func27, Tryz.ntmps27
  go_wp2_with (refine wpList_storeB rfl (.tmp 3) (.tmp 5) rfl (w.heap.size + 2) zerosB zerosB rfl rfl rfl rfl hN ?_; intro w3 hN3 hg3)
  have hR3 := hR.kept hg3 (by omega)
  have hA3 := hA.kept hg3 (by omega)
  have hb3 := bkept hb hg3 (by omega) hb.size
  clear hN hA hR hb hg3
  go_loopw [6] (fun iv wr => ∃ (k : Nat) (L : List UInt8), k ≤ 32 ∧ iv = .int .i64 k ∧ L.length = 32 ∧ Hid (L.take k = (leB n).take k) ∧ BAt wr (w.heap.size + 2) L ∧ NAt wr w.heap.size (dig 16 n) ∧ BAt wr (w.heap.size + 1) zerosB ∧ Below w.heap.size w wr) (fun iv _ => 32 - (intOf iv).toNat)
  case atStart => exact ⟨0, zerosB, Nat.zero_le _, rfl, rfl, rfl, hN3, hA3, hR3, hb3⟩
  case round =>
    clear hN3 hR3 hb3 hA3
    obtain ⟨k, L, hk, rfl, hL, HT, hN, hA, hR, hb⟩ := hrel
    by_cases hlt : k < 32
    · have cN := hN.cell k (by simp; omega)
      obtain ⟨j, hj⟩ : ∃ j, j = k / 2 := ⟨_, rfl⟩
      have hj16 : j < 16 := by omega
      have cA := hA.cell j (by simp; omega)
      rw [u64s_get, dig_get] at cA
      have fN := hN.fr k
      have e1 : (k : Int) / 2 = (j : Int) := by omega
      have i0 : (0 : Int) ≤ (j : Int) := by omega
      have i1 : (j : Int) < 16 := by omega
      have i2 : (0 : Int) ≤ (k : Int) := by omega
      have i3 : (k : Int) < 32 := by omega
      have hll : (leB n).length = 32 := leB_length n
      have hba := leB_at n k hlt
      have hbe := byte_even n j
      have hbo := byte_odd n j
      have hd : n / 65536 ^ j % 65536 < 65536 := Nat.mod_lt _ (by decide)
      generalize n / 65536 ^ j % 65536 = d at *
      obtain ⟨c, hc, hc2⟩ : ∃ c, c = n / 256 ^ k % 256 ∧ c < 256 := ⟨_, rfl, Nat.mod_lt _ (by decide)⟩
      rw [← hc] at hba
      have hcc : ((UInt8.ofNat c).toNat : Int) = (c : Int) := by rw [UInt8.toNat_ofNat', Nat.mod_eq_of_lt hc2]
      have hst := b_set hN k (UInt8.ofNat c) (by omega)
      rw [hcc] at hst
      have htk : (L.set k (UInt8.ofNat c)).take (k + 1) = (leB n).take (k + 1) := by
        rw [List.take_succ_eq_append_getElem (by simpa using (by omega : k < L.length)), List.getElem_set_self, List.take_set_of_le (Nat.le_refl k), HT.out, List.take_succ_eq_append_getElem (by omega)]
        congr 2
        rw [List.getElem?_eq_getElem (by omega)] at hba
        exact (Option.some.inj hba).symm
      have HTK := Lib.hid htk
      clear htk hba hcc
      by_cases hpar : k % 2 = 0
      · have hk2 : k = 2 * j := by omega
        have hcd : d % 256 = c := by rw [hbe, hc, ← hk2]
        have e2 : (k : Int) % 2 = 0 := by omega
        have e3 : IntKind.u8.wrap (d : Int) = (c : Int) := by unfold IntKind.wrap; simp [IntKind.bits, IntKind.signed]; omega
        clear hbe hbo hc hj hk2 hcd
        go_wp2
        go_roundw
        case rel => exact ⟨k + 1, L.set k (UInt8.ofNat c), by omega, by go_num, by simpa using hL, HTK, hst, hA.other (by omega), hR.other (by omega), hb.setCell (by show w.heap.size ≤ w.heap.size + 2; omega) _⟩
        case measure => simp [intOf]; omega
      · have hk2 : k = 2 * j + 1 := by omega
        have hcd : d / 256 % 256 = c := by rw [hbo, hc, ← hk2]
        have e2 : (k : Int) % 2 = 1 := by omega
        have e3 : IntKind.u8.wrap ((d : Int) / 256) = (c : Int) := by unfold IntKind.wrap; simp [IntKind.bits, IntKind.signed]; omega
        clear hbe hbo hc hj hk2 hcd
        go_wp2
        go_roundw
        case rel => exact ⟨k + 1, L.set k (UInt8.ofNat c), by omega, by go_num, by simpa using hL, HTK, hst, hA.other (by omega), hR.other (by omega), hb.setCell (by show w.heap.size ≤ w.heap.size + 2; omega) _⟩
        case measure => simp [intOf]; omega
    · obtain rfl : k = 32 := by omega
      clear hlt
      have hLL : L = leB n := by
        have h := HT.out
        rwa [List.take_of_length_le (by omega), List.take_of_length_le (by simp)] at h
      subst hLL
      go_wp2_with (first | (refine wpList_loadB rfl (.tmp 3) rfl (w.heap.size + 2) (leB n) hL rfl hN ?_) | (refine wpList_storeB rfl (.tmp 2) (.tmp 21) rfl (w.heap.size + 1) (leB n) zerosB hL rfl rfl rfl hR ?_; intro w9 hN9 hg9))
      exact ret_b rfl (w.heap.size + 1) _ hL rfl hN9 rfl ⟨rfl, bkept hb hg9 (by omega) hb.size⟩

theorem u8_nat (a : Nat) (ha : a < 256) : (BitVec.ofInt 8 (a : Int)).toNat = a := by
  rw [BitVec.toNat_ofInt]; omega
theorem clamp_tab : ((List.range 256).all fun a => (bits .andNot .u8 ((a : Nat) : Int) 7 == ((a / 8 * 8 : Nat) : Int)) && ((bits .and .u8 ((a : Nat) : Int) 248 == ((a / 8 * 8 : Nat) : Int)) && ((bits .and .u8 ((a : Nat) : Int) 127 == ((a % 128 : Nat) : Int)) && (bits .or .u8 (((a % 128 : Nat)) : Int) 64 == ((a % 64 + 64 : Nat) : Int))))) = true := by kernel_rfl
theorem clamp_bits (a : Nat) (ha : a < 256) : bits .andNot .u8 (a : Int) 7 = ((a / 8 * 8 : Nat) : Int) ∧ bits .and .u8 (a : Int) 248 = ((a / 8 * 8 : Nat) : Int) ∧ bits .and .u8 (a : Int) 127 = ((a % 128 : Nat) : Int) ∧ bits .or .u8 ((a % 128 : Nat) : Int) 64 = ((a % 64 + 64 : Nat) : Int) := by
  have h := List.all_eq_true.1 clamp_tab a (List.mem_range.2 ha)
  simp only [Bool.and_eq_true, beq_iff_eq] at h
  exact h

set_option maxRecDepth 100000 in
set_option maxHeartbeats 1000000 in
theorem clamped_any (w : World) (l : List UInt8) (hl : l.length = 32) :
    Calls Tryz.prog 23 #[bv l] w fun e w' => e = .returned (bv (clampL l)) ∧ Below w.heap.size w w' := by
  have hA0 : BAt (w.alloc (objB l)) w.heap.size l := arr_new w _ _
  have hR : BAt ((w.alloc (objB l)).alloc (objB zerosB)) (w.heap.size + 1) zerosB := arr_new2 w _ _ _
  obtain ⟨w2, hw2⟩ : ∃ w2, w2 = (w.alloc (objB l)).alloc (objB zerosB) := ⟨_, rfl⟩
  have hA : BAt w2 w.heap.size l := by rw [hw2]; exact hA0.below (below_alloc _ _)
  rw [← hw2] at hR
  have hb : Below w.heap.size w w2 := by rw [hw2]; exact Below.alloc (below_alloc _ _) (below_alloc _ _).size _
  have c0 := hA.cell 0 (by simp; omega)
  have c31 := hA.cell 31 (by simp; omega)
  rw [u8s_get] at c0 c31
  have f0 := hA.fr 0
  have f31 := hA.fr 31
  have h0 := clamp_bits (l[0]'(by omega)).toNat (UInt8.toNat_lt _)
  have h31 := clamp_bits (l[31]'(by omega)).toNat (UInt8.toNat_lt _)
  have g0 : l.getD 0 0 = l[0]'(by omega) := by simp [List.getD, List.getElem?_eq_getElem (show 0 < l.length from by omega)]
  have g31 : l.getD 31 0 = l[31]'(by omega) := by simp [List.getD, List.getElem?_eq_getElem (show 31 < l.length from by omega)]
  have x0 : (l[0]'(by omega)).toNat < 256 := UInt8.toNat_lt _
  have x31 : (l[31]'(by omega)).toNat < 256 := UInt8.toNat_lt _
  have hst : BAt ((w2.setCell ⟨w.heap.size, 0, none⟩ (.int .u8 (((l[0]'(by omega)).toNat / 8 * 8 : Nat) : Int))).setCell ⟨w.heap.size, 31, none⟩ (.int .u8 (((l[31]'(by omega)).toNat % 64 + 64 : Nat) : Int))) w.heap.size (clampL l) := by
    have h1 := b_set (b_set hA 0 (UInt8.ofNat ((l.getD 0 0).toNat / 8 * 8)) (by omega)) 31 (UInt8.ofNat ((l.getD 31 0).toNat % 64 + 64)) (by simp; omega)
    rw [g0, g31, UInt8.toNat_ofNat', UInt8.toNat_ofNat', Nat.mod_eq_of_lt (by omega), Nat.mod_eq_of_lt (by omega)] at h1
    unfold clampL
    rw [g0, g31]
    exact h1
  have HST := Lib.hid hst
  clear hst g0 g31
  generalize (l[0]'(by omega)).toNat = y0 at *
  generalize (l[31]'(by omega)).toNat = y31 at *
  obtain ⟨b1, _, _, _⟩ := h0
  obtain ⟨_, _, b3, b4⟩ := h31
  have k0 : (w2.setCell ⟨w.heap.size, 0, none⟩ (.int .u8 ((y0 / 8 * 8 : Nat) : Int))).cell? ⟨w.heap.size, 31, none⟩ = some (.int .u8 (y31 : Int)) := by
    rw [World.cell?_setCell_other _ _ _ _ (by intro e; injection e with _ e2 _; exact absurd e2 (by decide))]; exact c31
  obtain ⟨p, hp⟩ : ∃ p, p = y0 / 8 * 8 := ⟨_, rfl⟩
  obtain ⟨q, hq⟩ : ∃ q, q = y31 % 128 := ⟨_, rfl⟩
  obtain ⟨r, hr⟩ : ∃ r, r = y31 % 64 + 64 := ⟨_, rfl⟩
  rw [← hp] at b1 k0 HST
  rw [← hq] at b3 b4
  rw [← hr] at b4 HST
  clear hp hq hr x0 x31
  have hb5 : Below w.heap.size w ((w2.setCell ⟨w.heap.size, 0, none⟩ (.int .u8 (p : Int))).setCell ⟨w.heap.size, 31, none⟩ (.int .u8 (r : Int))) := (hb.setCell (Nat.le_refl _) _).setCell (Nat.le_refl _) _
  have hR5 : BAt ((w2.setCell ⟨w.heap.size, 0, none⟩ (.int .u8 (p : Int))).setCell ⟨w.heap.size, 31, none⟩ (.int .u8 (r : Int))) (w.heap.size + 1) zerosB := (hR.other (by omega)).other (by omega)
  have HR5 := Lib.hid hR5
  have HB5 := Lib.hid hb5
  clear hR5 hb5 hA hR hb hA0
  go_enter Tryz.func23, Tryz.ntmps23
  go_upto_region 1 with fail
  show Code.wp _ _ _ _ ((w.alloc (objB l)).alloc (objB zerosB))
  rw [← hw2]
  clear hw2
  go_wp2_with (first | (refine wpList_loadB rfl (.tmp 1) rfl w.heap.size (clampL l) (by simp [hl]) rfl HST.out ?_) | (refine wpList_storeB rfl (.tmp 2) (.tmp 12) rfl (w.heap.size + 1) (clampL l) zerosB (by simp [hl]) rfl rfl rfl HR5.out ?_; intro w9 hN9 hg9))
  exact ret_b rfl (w.heap.size + 1) _ (by simp [hl]) rfl hN9 rfl ⟨rfl, bkept HB5.out hg9 (by omega) HB5.out.size⟩
end Go.Proofs.YthjminkkmljjhaaGreatDoor

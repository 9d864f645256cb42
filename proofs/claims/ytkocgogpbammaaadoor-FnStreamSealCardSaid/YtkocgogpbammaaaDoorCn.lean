/- ChaCha20's cipher is made out of a key and a nonce, in the package. Conditions: 32 bytes and 12. (Printed by wip/gennc.py.) -/
import Derived.Test.YtkocgogpbammaaaDoorCi
import Derived.Test.YtkocgogpbammaaaDoorPy
set_option linter.unusedVariables false
set_option linter.unusedSimpArgs false
namespace Go.Proofs.YtkocgogpbammaaaDoor
open Go.RowKit

/-- The words of a key and of a nonce. -/
def kwOf (key : List UInt8) : List Nat := [leW key 0, leW key 4, leW key 8, leW key 12, leW key 16, leW key 20, leW key 24, leW key 28]
def nwOf (nonce : List UInt8) : List Nat := [leW nonce 0, leW nonce 4, leW nonce 8]
theorem st0_words (key nonce : List UInt8) (cnt : Nat) : st0 key cnt nonce = stW (kwOf key) cnt (nwOf nonce) := rfl
theorem leU32_at (w : World) (g o : Nat) (l : List UInt8) (h : w.rangeAt g o (u8s l)) (i n c : Nat) (hi : i + 4 ≤ l.length) (hn : 4 ≤ n) :
    Calls Tryd.prog 75 #[.agg #[], .slice (some ⟨g, o + i, none⟩) n c] w fun e w' => e = .returned (.int .u32 (leW l i : Int)) ∧ Below w.heap.size w w' := by
  have hc : ∀ j (hj : j < 4), w.cell? ⟨g, o + i + j, none⟩ = some (.int .u8 ((l[i + j]'(by omega)).toNat : Int)) := fun j hj => by
    rw [Nat.add_assoc]; exact range_u8 h (i + j) _ (List.getElem?_eq_getElem (by omega))
  refine (Tryd.binary_LE_Uint32 g (o + i) n c _ _ _ _ w hn (hc 0 (by omega)) (hc 1 (by omega)) (hc 2 (by omega)) (hc 3 (by omega))).mono ?_
  rintro e w' ⟨rfl, hb⟩
  refine ⟨?_, hb⟩
  rw [leW_get l i (by omega)]
  congr 2
  simp only [Lib.leNat, le4, Nat.add_zero]
  omega
theorem GH.mid {W w : World} {r n : Nat} {T : TypeId} (h : GH W w r n T) (f : Nat) (vs : List Value) (hf : f + vs.length ≤ n) : GH W (w.setCells r f vs) r n T := by
  obtain ⟨hg, z, hn, hz⟩ := h
  exact ⟨grown_setCells _ _ _ _ hg, _, by simp; omega, arr_setCells vs f _ _ hz (by omega)⟩
def z3 : List Nat := [0, 0, 0]
def z8 : List Nat := [0, 0, 0, 0, 0, 0, 0, 0]
def z12 : List Nat := [0, 0, 0, 0, 0, 0, 0, 0, 0, 0, 0, 0]
theorem k120_size : (Tryd.prog.info? 120).map (·.size) = some 8 := by kernel_rfl
theorem k121_size : (Tryd.prog.info? 121).map (·.size) = some 3 := by kernel_rfl

set_option maxRecDepth 100000 in
set_option maxHeartbeats 8000000 in
theorem newCiph_any (w : World) (gc gk ok ck gn on cn : Nat) (key nonce : List UInt8) (hk : key.length = 32) (hn : nonce.length = 12) (hck : 32 ≤ ck) (hcn : 12 ≤ cn) (hKR : w.rangeAt gk ok (u8s key)) (hN : w.rangeAt gn on (u8s nonce)) (hkg : gk ≠ gc) (hng : gn ≠ gc)
    (hA : Arr w gc 123 (cphC z8 0 z3 zer64 0 false z12)) :
    Calls Tryd.prog 68 #[.pointer (some ⟨gc, 0, none⟩), .slice (some ⟨gk, ok, none⟩) 32 ck, .slice (some ⟨gn, on, none⟩) 12 cn] w fun e w' => e = .returned (.tuple #[.pointer (some ⟨gc, 0, none⟩), .nilIface]) ∧
      Arr w' gc 123 (cphC (kwOf key) 0 (nwOf nonce) zer64 0 false z12) ∧ w.grownBy w' (some gc) := by
  have hlen : (cphC z8 0 z3 zer64 0 false z12).length = 91 := by rw [cph_length _ _ _ _ _ _ _ rfl rfl rfl]; rfl
  obtain ⟨k0, hk0⟩ : ∃ x, x = leW key 0 := ⟨_, rfl⟩
  obtain ⟨k1, hk1⟩ : ∃ x, x = leW key 4 := ⟨_, rfl⟩
  obtain ⟨k2, hk2⟩ : ∃ x, x = leW key 8 := ⟨_, rfl⟩
  obtain ⟨k3, hk3⟩ : ∃ x, x = leW key 12 := ⟨_, rfl⟩
  obtain ⟨k4, hk4⟩ : ∃ x, x = leW key 16 := ⟨_, rfl⟩
  obtain ⟨k5, hk5⟩ : ∃ x, x = leW key 20 := ⟨_, rfl⟩
  obtain ⟨k6, hk6⟩ : ∃ x, x = leW key 24 := ⟨_, rfl⟩
  obtain ⟨k7, hk7⟩ : ∃ x, x = leW key 28 := ⟨_, rfl⟩
  obtain ⟨n0, hn0⟩ : ∃ x, x = leW nonce 0 := ⟨_, rfl⟩
  obtain ⟨n1, hn1⟩ : ∃ x, x = leW nonce 4 := ⟨_, rfl⟩
  obtain ⟨n2, hn2⟩ : ∃ x, x = leW nonce 8 := ⟨_, rfl⟩
  have HKW : Hid (kwOf key = [k0, k1, k2, k3, k4, k5, k6, k7]) := Lib.hid (by rw [hk0, hk1, hk2, hk3, hk4, hk5, hk6, hk7]; rfl)
  have HNW : Hid (nwOf nonce = [n0, n1, n2]) := Lib.hid (by rw [hn0, hn1, hn2]; rfl)
  have HK0 := Lib.hid hk0.symm
  have HK1 := Lib.hid hk1.symm
  have HK2 := Lib.hid hk2.symm
  have HK3 := Lib.hid hk3.symm
  have HK4 := Lib.hid hk4.symm
  have HK5 := Lib.hid hk5.symm
  have HK6 := Lib.hid hk6.symm
  have HK7 := Lib.hid hk7.symm
  have HN0 := Lib.hid hn0.symm
  have HN1 := Lib.hid hn1.symm
  have HN2 := Lib.hid hn2.symm
  clear hk0 hk1 hk2 hk3 hk4 hk5 hk6 hk7 hn0 hn1 hn2
  have dk1 : ¬ (ck = 4) := by omega
  have dk2 : ¬ (ck = 8) := by omega
  have dk3 : ¬ (ck = 12) := by omega
  have dk4 : ¬ (ck = 16) := by omega
  have dk5 : ¬ (ck = 20) := by omega
  have dk6 : ¬ (ck = 24) := by omega
  have dk7 : ¬ (ck = 28) := by omega
  have dn1 : ¬ (cn = 4) := by omega
  have dn2 : ¬ (cn = 8) := by omega
  have ik0 : (4 : Int) ≤ (ck : Int) := by omega
  have ik1 : (8 : Int) ≤ (ck : Int) := by omega
  have ik2 : (12 : Int) ≤ (ck : Int) := by omega
  have ik3 : (16 : Int) ≤ (ck : Int) := by omega
  have ik4 : (20 : Int) ≤ (ck : Int) := by omega
  have ik5 : (24 : Int) ≤ (ck : Int) := by omega
  have ik6 : (28 : Int) ≤ (ck : Int) := by omega
  have ik7 : (32 : Int) ≤ (ck : Int) := by omega
  have in0 : (4 : Int) ≤ (cn : Int) := by omega
  have in1 : (8 : Int) ≤ (cn : Int) := by omega
  have in2 : (12 : Int) ≤ (cn : Int) := by omega
  go_enter Tryd.func68, Tryd.ntmps68
  go_wp2_with fail
  go_quiet (fail)
  have hA : Arr (w.drewN nq) gc 123 _ := hA
  have hKR : (w.drewN nq).rangeAt gk ok (u8s key) := hKR
  have hN : (w.drewN nq).rangeAt gn on (u8s nonce) := hN
  have hg : w.grownBy (w.drewN nq) (some gc) := grown_drewN (World.grownBy.refl w (some gc)) nq
  generalize w.drewN nq = w1 at hA hKR hN hg ⊢
  go_wp2_with fail
  refine wp_region_held_drew (S := fun w' => GH w1 w' gc 91 123) (by kernel_rfl) (GH.start hA hlen) (fun hH => ?_)
  refine wpAnyH_take (i := 0) (v := ?_) rfl (by kernel_rfl) (by kernel_rfl) (by kernel_rfl) (fun _ _ _ h => h) (Or.inl ⟨by rfl, fun w' hSw => by go_simp; with_reducible rfl⟩) hH ?_
  simp only [Act.put, List.getElem_toArray, List.getElem_cons_succ, List.getElem_cons_zero, List.setIfInBounds_toArray, List.set_cons_zero, List.set_cons_succ]
  refine wpAnyH_take (i := 1) (v := ?_) rfl (by kernel_rfl) (by kernel_rfl) (by kernel_rfl) (fun _ _ _ h => h) (Or.inl ⟨by rfl, fun w' hSw => by go_simp; with_reducible rfl⟩) hH ?_
  simp only [Act.put, List.getElem_toArray, List.getElem_cons_succ, List.getElem_cons_zero, List.setIfInBounds_toArray, List.set_cons_zero, List.set_cons_succ]
  refine wpAnyH_take (i := 2) (v := ?_) rfl (by kernel_rfl) (by kernel_rfl) (by kernel_rfl) (fun _ _ _ h => h) (Or.inl ⟨by rfl, fun w' hSw => by go_simp; with_reducible rfl⟩) hH ?_
  simp only [Act.put, List.getElem_toArray, List.getElem_cons_succ, List.getElem_cons_zero, List.setIfInBounds_toArray, List.set_cons_zero, List.set_cons_succ]
  refine wpAnyH_take (i := 3) (v := ?_) rfl (by kernel_rfl) (by kernel_rfl) (by kernel_rfl) (fun _ _ _ h => h) (Or.inl ⟨by rfl, fun w' hSw => by go_simp; with_reducible rfl⟩) hH ?_
  simp only [Act.put, List.getElem_toArray, List.getElem_cons_succ, List.getElem_cons_zero, List.setIfInBounds_toArray, List.set_cons_zero, List.set_cons_succ]
  refine wpAnyH_take (i := 5) (v := ?_) rfl (by kernel_rfl) (by kernel_rfl) (by kernel_rfl) (fun _ _ _ h => h) (Or.inl ⟨by rfl, fun w' hSw => by go_simp; with_reducible rfl⟩) hH ?_
  simp only [Act.put, List.getElem_toArray, List.getElem_cons_succ, List.getElem_cons_zero, List.setIfInBounds_toArray, List.set_cons_zero, List.set_cons_succ]
  refine wpAnyH_take (i := 6) (v := ?_) rfl (by kernel_rfl) (by kernel_rfl) (by kernel_rfl) (fun _ _ _ h => h) (Or.inl ⟨by rfl, fun w' hSw => by go_simp; with_reducible rfl⟩) hH ?_
  simp only [Act.put, List.getElem_toArray, List.getElem_cons_succ, List.getElem_cons_zero, List.setIfInBounds_toArray, List.set_cons_zero, List.set_cons_succ]
  refine wpAnyH_take (i := 7) (v := ?_) rfl (by kernel_rfl) (by kernel_rfl) (by kernel_rfl) (fun _ _ _ h => h) (Or.inl ⟨by rfl, fun w' hSw => by go_simp; with_reducible rfl⟩) hH ?_
  simp only [Act.put, List.getElem_toArray, List.getElem_cons_succ, List.getElem_cons_zero, List.setIfInBounds_toArray, List.set_cons_zero, List.set_cons_succ]
  refine wpAnyH_take (i := 9) (v := ?_) rfl (by kernel_rfl) (by kernel_rfl) (by kernel_rfl) (fun _ _ _ h => h) (Or.inl ⟨by rfl, fun w' hSw => by go_simp; with_reducible rfl⟩) hH ?_
  simp only [Act.put, List.getElem_toArray, List.getElem_cons_succ, List.getElem_cons_zero, List.setIfInBounds_toArray, List.set_cons_zero, List.set_cons_succ]
  refine wpAnyH_take (i := 10) (v := ?_) rfl (by kernel_rfl) (by kernel_rfl) (by kernel_rfl) (fun _ _ _ h => h) (Or.inl ⟨by rfl, fun w' hSw => by go_simp; with_reducible rfl⟩) hH ?_
  simp only [Act.put, List.getElem_toArray, List.getElem_cons_succ, List.getElem_cons_zero, List.setIfInBounds_toArray, List.set_cons_zero, List.set_cons_succ]
  refine wpAnyH_take (i := 11) (v := ?_) rfl (by kernel_rfl) (by kernel_rfl) (by kernel_rfl) (fun _ _ _ h => h) (Or.inl ⟨by rfl, fun w' hSw => by go_simp; with_reducible rfl⟩) hH ?_
  simp only [Act.put, List.getElem_toArray, List.getElem_cons_succ, List.getElem_cons_zero, List.setIfInBounds_toArray, List.set_cons_zero, List.set_cons_succ]
  refine wpAnyH_take (i := 13) (v := ?_) rfl (by kernel_rfl) (by kernel_rfl) (by kernel_rfl) (fun _ _ _ h => h) (Or.inl ⟨by rfl, fun w' hSw => by go_simp; with_reducible rfl⟩) hH ?_
  simp only [Act.put, List.getElem_toArray, List.getElem_cons_succ, List.getElem_cons_zero, List.setIfInBounds_toArray, List.set_cons_zero, List.set_cons_succ]
  refine wpAnyH_take (i := 14) (v := ?_) rfl (by kernel_rfl) (by kernel_rfl) (by kernel_rfl) (fun _ _ _ h => h) (Or.inl ⟨by rfl, fun w' hSw => by go_simp; with_reducible rfl⟩) hH ?_
  simp only [Act.put, List.getElem_toArray, List.getElem_cons_succ, List.getElem_cons_zero, List.setIfInBounds_toArray, List.set_cons_zero, List.set_cons_succ]
  refine wpAnyH_take (i := 15) (v := ?_) rfl (by kernel_rfl) (by kernel_rfl) (by kernel_rfl) (fun _ _ _ h => h) (Or.inl ⟨by rfl, fun w' hSw => by go_simp; with_reducible rfl⟩) hH ?_
  simp only [Act.put, List.getElem_toArray, List.getElem_cons_succ, List.getElem_cons_zero, List.setIfInBounds_toArray, List.set_cons_zero, List.set_cons_succ]
  refine wpAnyH_take (i := 17) (v := ?_) rfl (by kernel_rfl) (by kernel_rfl) (by kernel_rfl) (fun _ _ _ h => h) (Or.inl ⟨by rfl, fun w' hSw => by go_simp; with_reducible rfl⟩) hH ?_
  simp only [Act.put, List.getElem_toArray, List.getElem_cons_succ, List.getElem_cons_zero, List.setIfInBounds_toArray, List.set_cons_zero, List.set_cons_succ]
  refine wpAnyH_take (i := 18) (v := ?_) rfl (by kernel_rfl) (by kernel_rfl) (by kernel_rfl) (fun _ _ _ h => h) (Or.inl ⟨by rfl, fun w' hSw => by go_simp; with_reducible rfl⟩) hH ?_
  simp only [Act.put, List.getElem_toArray, List.getElem_cons_succ, List.getElem_cons_zero, List.setIfInBounds_toArray, List.set_cons_zero, List.set_cons_succ]
  refine wpAnyH_take (i := 19) (v := ?_) rfl (by kernel_rfl) (by kernel_rfl) (by kernel_rfl) (fun _ _ _ h => h) (Or.inl ⟨by rfl, fun w' hSw => by go_simp; with_reducible rfl⟩) hH ?_
  simp only [Act.put, List.getElem_toArray, List.getElem_cons_succ, List.getElem_cons_zero, List.setIfInBounds_toArray, List.set_cons_zero, List.set_cons_succ]
  refine wpAnyH_take (i := 21) (v := ?_) rfl (by kernel_rfl) (by kernel_rfl) (by kernel_rfl) (fun _ _ _ h => h) (Or.inl ⟨by rfl, fun w' hSw => by go_simp; with_reducible rfl⟩) hH ?_
  simp only [Act.put, List.getElem_toArray, List.getElem_cons_succ, List.getElem_cons_zero, List.setIfInBounds_toArray, List.set_cons_zero, List.set_cons_succ]
  refine wpAnyH_take (i := 22) (v := ?_) rfl (by kernel_rfl) (by kernel_rfl) (by kernel_rfl) (fun _ _ _ h => h) (Or.inl ⟨by rfl, fun w' hSw => by go_simp; with_reducible rfl⟩) hH ?_
  simp only [Act.put, List.getElem_toArray, List.getElem_cons_succ, List.getElem_cons_zero, List.setIfInBounds_toArray, List.set_cons_zero, List.set_cons_succ]
  refine wpAnyH_take (i := 23) (v := ?_) rfl (by kernel_rfl) (by kernel_rfl) (by kernel_rfl) (fun _ _ _ h => h) (Or.inl ⟨by rfl, fun w' hSw => by go_simp; with_reducible rfl⟩) hH ?_
  simp only [Act.put, List.getElem_toArray, List.getElem_cons_succ, List.getElem_cons_zero, List.setIfInBounds_toArray, List.set_cons_zero, List.set_cons_succ]
  refine wpAnyH_take (i := 25) (v := ?_) rfl (by kernel_rfl) (by kernel_rfl) (by kernel_rfl) (fun _ _ _ h => h) (Or.inl ⟨by rfl, fun w' hSw => by go_simp; with_reducible rfl⟩) hH ?_
  simp only [Act.put, List.getElem_toArray, List.getElem_cons_succ, List.getElem_cons_zero, List.setIfInBounds_toArray, List.set_cons_zero, List.set_cons_succ]
  refine wpAnyH_take (i := 26) (v := ?_) rfl (by kernel_rfl) (by kernel_rfl) (by kernel_rfl) (fun _ _ _ h => h) (Or.inl ⟨by rfl, fun w' hSw => by go_simp; with_reducible rfl⟩) hH ?_
  simp only [Act.put, List.getElem_toArray, List.getElem_cons_succ, List.getElem_cons_zero, List.setIfInBounds_toArray, List.set_cons_zero, List.set_cons_succ]
  refine wpAnyH_take (i := 27) (v := ?_) rfl (by kernel_rfl) (by kernel_rfl) (by kernel_rfl) (fun _ _ _ h => h) (Or.inl ⟨by rfl, fun w' hSw => by go_simp; with_reducible rfl⟩) hH ?_
  simp only [Act.put, List.getElem_toArray, List.getElem_cons_succ, List.getElem_cons_zero, List.setIfInBounds_toArray, List.set_cons_zero, List.set_cons_succ]
  refine wpAnyH_take (i := 29) (v := ?_) rfl (by kernel_rfl) (by kernel_rfl) (by kernel_rfl) (fun _ _ _ h => h) (Or.inl ⟨by rfl, fun w' hSw => by go_simp; with_reducible rfl⟩) hH ?_
  simp only [Act.put, List.getElem_toArray, List.getElem_cons_succ, List.getElem_cons_zero, List.setIfInBounds_toArray, List.set_cons_zero, List.set_cons_succ]
  refine wpAnyH_take (i := 30) (v := ?_) rfl (by kernel_rfl) (by kernel_rfl) (by kernel_rfl) (fun _ _ _ h => h) (Or.inl ⟨by rfl, fun w' hSw => by go_simp; with_reducible rfl⟩) hH ?_
  simp only [Act.put, List.getElem_toArray, List.getElem_cons_succ, List.getElem_cons_zero, List.setIfInBounds_toArray, List.set_cons_zero, List.set_cons_succ]
  refine wpAnyH_take (i := 31) (v := ?_) rfl (by kernel_rfl) (by kernel_rfl) (by kernel_rfl) (fun _ _ _ h => h) (Or.inl ⟨by rfl, fun w' hSw => by go_simp; with_reducible rfl⟩) hH ?_
  simp only [Act.put, List.getElem_toArray, List.getElem_cons_succ, List.getElem_cons_zero, List.setIfInBounds_toArray, List.set_cons_zero, List.set_cons_succ]
  refine wpAnyH_ready (rs := [4]) (by kernel_rfl) (by simp) ?_
  refine AllReadyH.cons rfl (fun K hK => ?_) AllReadyH.nil
  try simp only [List.getElem_toArray, List.getElem_cons_succ, List.getElem_cons_zero]
  go_simp
  go_at_call 75
  refine (leU32_at _ gk ok key (hH.range hKR hkg) 0 _ _ (by omega) (by omega)).mono ?_
  rintro e v0 ⟨rfl, hb_v0⟩
  rw [HK0.out]
  refine hK.out _ _ (hH.call hb_v0) (fun hH => ?_)
  clear hK K
  try simp only [Act.put, List.getElem_toArray, List.getElem_cons_succ, List.getElem_cons_zero, List.setIfInBounds_toArray, List.set_cons_zero, List.set_cons_succ]
  refine wpAnyH_ready (rs := [8]) (by kernel_rfl) (by simp) ?_
  refine AllReadyH.cons rfl (fun K hK => ?_) AllReadyH.nil
  try simp only [List.getElem_toArray, List.getElem_cons_succ, List.getElem_cons_zero]
  go_simp
  go_at_call 75
  refine (leU32_at _ gk ok key (hH.range hKR hkg) 4 _ _ (by omega) (by omega)).mono ?_
  rintro e v1 ⟨rfl, hb_v1⟩
  rw [HK1.out]
  refine hK.out _ _ (hH.call hb_v1) (fun hH => ?_)
  clear hK K
  try simp only [Act.put, List.getElem_toArray, List.getElem_cons_succ, List.getElem_cons_zero, List.setIfInBounds_toArray, List.set_cons_zero, List.set_cons_succ]
  refine wpAnyH_ready (rs := [12]) (by kernel_rfl) (by simp) ?_
  refine AllReadyH.cons rfl (fun K hK => ?_) AllReadyH.nil
  try simp only [List.getElem_toArray, List.getElem_cons_succ, List.getElem_cons_zero]
  go_simp
  go_at_call 75
  refine (leU32_at _ gk ok key (hH.range hKR hkg) 8 _ _ (by omega) (by omega)).mono ?_
  rintro e v2 ⟨rfl, hb_v2⟩
  rw [HK2.out]
  refine hK.out _ _ (hH.call hb_v2) (fun hH => ?_)
  clear hK K
  try simp only [Act.put, List.getElem_toArray, List.getElem_cons_succ, List.getElem_cons_zero, List.setIfInBounds_toArray, List.set_cons_zero, List.set_cons_succ]
  refine wpAnyH_ready (rs := [16]) (by kernel_rfl) (by simp) ?_
  refine AllReadyH.cons rfl (fun K hK => ?_) AllReadyH.nil
  try simp only [List.getElem_toArray, List.getElem_cons_succ, List.getElem_cons_zero]
  go_simp
  go_at_call 75
  refine (leU32_at _ gk ok key (hH.range hKR hkg) 12 _ _ (by omega) (by omega)).mono ?_
  rintro e v3 ⟨rfl, hb_v3⟩
  rw [HK3.out]
  refine hK.out _ _ (hH.call hb_v3) (fun hH => ?_)
  clear hK K
  try simp only [Act.put, List.getElem_toArray, List.getElem_cons_succ, List.getElem_cons_zero, List.setIfInBounds_toArray, List.set_cons_zero, List.set_cons_succ]
  refine wpAnyH_ready (rs := [20]) (by kernel_rfl) (by simp) ?_
  refine AllReadyH.cons rfl (fun K hK => ?_) AllReadyH.nil
  try simp only [List.getElem_toArray, List.getElem_cons_succ, List.getElem_cons_zero]
  go_simp
  go_at_call 75
  refine (leU32_at _ gk ok key (hH.range hKR hkg) 16 _ _ (by omega) (by omega)).mono ?_
  rintro e v4 ⟨rfl, hb_v4⟩
  rw [HK4.out]
  refine hK.out _ _ (hH.call hb_v4) (fun hH => ?_)
  clear hK K
  try simp only [Act.put, List.getElem_toArray, List.getElem_cons_succ, List.getElem_cons_zero, List.setIfInBounds_toArray, List.set_cons_zero, List.set_cons_succ]
  refine wpAnyH_ready (rs := [24]) (by kernel_rfl) (by simp) ?_
  refine AllReadyH.cons rfl (fun K hK => ?_) AllReadyH.nil
  try simp only [List.getElem_toArray, List.getElem_cons_succ, List.getElem_cons_zero]
  go_simp
  go_at_call 75
  refine (leU32_at _ gk ok key (hH.range hKR hkg) 20 _ _ (by omega) (by omega)).mono ?_
  rintro e v5 ⟨rfl, hb_v5⟩
  rw [HK5.out]
  refine hK.out _ _ (hH.call hb_v5) (fun hH => ?_)
  clear hK K
  try simp only [Act.put, List.getElem_toArray, List.getElem_cons_succ, List.getElem_cons_zero, List.setIfInBounds_toArray, List.set_cons_zero, List.set_cons_succ]
  refine wpAnyH_ready (rs := [28]) (by kernel_rfl) (by simp) ?_
  refine AllReadyH.cons rfl (fun K hK => ?_) AllReadyH.nil
  try simp only [List.getElem_toArray, List.getElem_cons_succ, List.getElem_cons_zero]
  go_simp
  go_at_call 75
  refine (leU32_at _ gk ok key (hH.range hKR hkg) 24 _ _ (by omega) (by omega)).mono ?_
  rintro e v6 ⟨rfl, hb_v6⟩
  rw [HK6.out]
  refine hK.out _ _ (hH.call hb_v6) (fun hH => ?_)
  clear hK K
  try simp only [Act.put, List.getElem_toArray, List.getElem_cons_succ, List.getElem_cons_zero, List.setIfInBounds_toArray, List.set_cons_zero, List.set_cons_succ]
  refine wpAnyH_ready (rs := [32]) (by kernel_rfl) (by simp) ?_
  refine AllReadyH.cons rfl (fun K hK => ?_) AllReadyH.nil
  try simp only [List.getElem_toArray, List.getElem_cons_succ, List.getElem_cons_zero]
  go_simp
  go_at_call 75
  refine (leU32_at _ gk ok key (hH.range hKR hkg) 28 _ _ (by omega) (by omega)).mono ?_
  rintro e v7 ⟨rfl, hb_v7⟩
  rw [HK7.out]
  refine hK.out _ _ (hH.call hb_v7) (fun hH => ?_)
  clear hK K
  try simp only [Act.put, List.getElem_toArray, List.getElem_cons_succ, List.getElem_cons_zero, List.setIfInBounds_toArray, List.set_cons_zero, List.set_cons_succ]
  refine wpAnyH_take (i := 33) (v := ?_) rfl (by kernel_rfl) (by kernel_rfl) (by kernel_rfl) (fun _ _ _ h => h) (Or.inl ⟨by rfl, fun w' hSw => by go_simp; with_reducible rfl⟩) hH ?_
  simp only [Act.put, List.getElem_toArray, List.getElem_cons_succ, List.getElem_cons_zero, List.setIfInBounds_toArray, List.set_cons_zero, List.set_cons_succ]
  refine wpAnyH_take (i := 34) (v := ?_) rfl (by kernel_rfl) (by kernel_rfl) (by kernel_rfl) (fun _ _ _ h => h) (Or.inl ⟨by rfl, fun w' hSw => by go_simp; with_reducible rfl⟩) hH ?_
  simp only [Act.put, List.getElem_toArray, List.getElem_cons_succ, List.getElem_cons_zero, List.setIfInBounds_toArray, List.set_cons_zero, List.set_cons_succ]
  refine wpAnyH_take (i := 35) (v := ?_) rfl (by kernel_rfl) (by kernel_rfl) (by kernel_rfl) (fun _ _ _ h => h) (Or.inl ⟨by rfl, fun w' hSw => by go_simp; with_reducible rfl⟩) hH ?_
  simp only [Act.put, List.getElem_toArray, List.getElem_cons_succ, List.getElem_cons_zero, List.setIfInBounds_toArray, List.set_cons_zero, List.set_cons_succ]
  refine wpAnyH_ready (rs := [36]) (by kernel_rfl) (by simp) ?_
  refine AllReadyH.cons rfl (fun K hK' => ?_) AllReadyH.nil
  try simp only [List.getElem_toArray, List.getElem_cons_succ, List.getElem_cons_zero]
  have hAv := (Arr.below (Arr.below (Arr.below (Arr.below (Arr.below (Arr.below (Arr.below (Arr.below (show Arr w1.drew gc 123 _ from hA) hb_v0) hb_v1) hb_v2) hb_v3) hb_v4) hb_v5) hb_v6) hb_v7)
  refine wanted_step (by rfl) ?_
  refine wp_store_mid 120 (.tmp 73) (.tmp 71) rfl gc 0 (u32s [k0, k1, k2, k3, k4, k5, k6, k7]).toArray rfl rfl (fun j hj => ⟨by rw [hAv.cell (0 + j) (by rw [hlen]; simp at hj; omega)]; rfl, hAv.fr _⟩) (by rw [k120_size]; rfl) (by rw [all_oneCell_toArray (u32s_oneCell _)]) ?_
  refine hK'.out _ _ (hH.mid 0 _ (by simp)) (fun hH => ?_)
  clear hK' K
  refine wpAnyH_done (by kernel_rfl) ?_ _
  have hA2 := arr_setCells (u32s [k0, k1, k2, k3, k4, k5, k6, k7]) 0 _ _ ((Arr.below (Arr.below (Arr.below (Arr.below (Arr.below (Arr.below (Arr.below (Arr.below (show Arr w1.drew gc 123 _ from hA) hb_v0) hb_v1) hb_v2) hb_v3) hb_v4) hb_v5) hb_v6) hb_v7)) (by rw [hlen]; simp)
  have hA2 : Arr (v7.setCells gc 0 (u32s [k0, k1, k2, k3, k4, k5, k6, k7])) gc 123 (cphC [k0, k1, k2, k3, k4, k5, k6, k7] 0 z3 zer64 0 false z12) := hA2
  have hg2 := grown_trans' hg hH.g
  have hN2 := hH.range hN hng
  generalize World.setCells v7 _ _ _ = w2 at hA2 hg2 hN2 ⊢
  clear hH hb_v0 hb_v1 hb_v2 hb_v3 hb_v4 hb_v5 hb_v6 hb_v7
  have hlen2 : (cphC [k0, k1, k2, k3, k4, k5, k6, k7] 0 z3 zer64 0 false z12).length = 91 := by rw [cph_length _ _ _ _ _ _ _ rfl rfl rfl]; rfl
  go_wp2_with fail
  refine wp_region_held_drew (S := fun w' => GH w2 w' gc 91 123) (by kernel_rfl) (GH.start hA2 hlen2) (fun hH => ?_)
  refine wpAnyH_take (i := 0) (v := ?_) rfl (by kernel_rfl) (by kernel_rfl) (by kernel_rfl) (fun _ _ _ h => h) (Or.inl ⟨by rfl, fun w' hSw => by go_simp; with_reducible rfl⟩) hH ?_
  simp only [Act.put, List.getElem_toArray, List.getElem_cons_succ, List.getElem_cons_zero, List.setIfInBounds_toArray, List.set_cons_zero, List.set_cons_succ]
  refine wpAnyH_take (i := 1) (v := ?_) rfl (by kernel_rfl) (by kernel_rfl) (by kernel_rfl) (fun _ _ _ h => h) (Or.inl ⟨by rfl, fun w' hSw => by go_simp; with_reducible rfl⟩) hH ?_
  simp only [Act.put, List.getElem_toArray, List.getElem_cons_succ, List.getElem_cons_zero, List.setIfInBounds_toArray, List.set_cons_zero, List.set_cons_succ]
  refine wpAnyH_take (i := 2) (v := ?_) rfl (by kernel_rfl) (by kernel_rfl) (by kernel_rfl) (fun _ _ _ h => h) (Or.inl ⟨by rfl, fun w' hSw => by go_simp; with_reducible rfl⟩) hH ?_
  simp only [Act.put, List.getElem_toArray, List.getElem_cons_succ, List.getElem_cons_zero, List.setIfInBounds_toArray, List.set_cons_zero, List.set_cons_succ]
  refine wpAnyH_take (i := 3) (v := ?_) rfl (by kernel_rfl) (by kernel_rfl) (by kernel_rfl) (fun _ _ _ h => h) (Or.inl ⟨by rfl, fun w' hSw => by go_simp; with_reducible rfl⟩) hH ?_
  simp only [Act.put, List.getElem_toArray, List.getElem_cons_succ, List.getElem_cons_zero, List.setIfInBounds_toArray, List.set_cons_zero, List.set_cons_succ]
  refine wpAnyH_take (i := 5) (v := ?_) rfl (by kernel_rfl) (by kernel_rfl) (by kernel_rfl) (fun _ _ _ h => h) (Or.inl ⟨by rfl, fun w' hSw => by go_simp; with_reducible rfl⟩) hH ?_
  simp only [Act.put, List.getElem_toArray, List.getElem_cons_succ, List.getElem_cons_zero, List.setIfInBounds_toArray, List.set_cons_zero, List.set_cons_succ]
  refine wpAnyH_take (i := 6) (v := ?_) rfl (by kernel_rfl) (by kernel_rfl) (by kernel_rfl) (fun _ _ _ h => h) (Or.inl ⟨by rfl, fun w' hSw => by go_simp; with_reducible rfl⟩) hH ?_
  simp only [Act.put, List.getElem_toArray, List.getElem_cons_succ, List.getElem_cons_zero, List.setIfInBounds_toArray, List.set_cons_zero, List.set_cons_succ]
  refine wpAnyH_take (i := 7) (v := ?_) rfl (by kernel_rfl) (by kernel_rfl) (by kernel_rfl) (fun _ _ _ h => h) (Or.inl ⟨by rfl, fun w' hSw => by go_simp; with_reducible rfl⟩) hH ?_
  simp only [Act.put, List.getElem_toArray, List.getElem_cons_succ, List.getElem_cons_zero, List.setIfInBounds_toArray, List.set_cons_zero, List.set_cons_succ]
  refine wpAnyH_take (i := 9) (v := ?_) rfl (by kernel_rfl) (by kernel_rfl) (by kernel_rfl) (fun _ _ _ h => h) (Or.inl ⟨by rfl, fun w' hSw => by go_simp; with_reducible rfl⟩) hH ?_
  simp only [Act.put, List.getElem_toArray, List.getElem_cons_succ, List.getElem_cons_zero, List.setIfInBounds_toArray, List.set_cons_zero, List.set_cons_succ]
  refine wpAnyH_take (i := 10) (v := ?_) rfl (by kernel_rfl) (by kernel_rfl) (by kernel_rfl) (fun _ _ _ h => h) (Or.inl ⟨by rfl, fun w' hSw => by go_simp; with_reducible rfl⟩) hH ?_
  simp only [Act.put, List.getElem_toArray, List.getElem_cons_succ, List.getElem_cons_zero, List.setIfInBounds_toArray, List.set_cons_zero, List.set_cons_succ]
  refine wpAnyH_take (i := 11) (v := ?_) rfl (by kernel_rfl) (by kernel_rfl) (by kernel_rfl) (fun _ _ _ h => h) (Or.inl ⟨by rfl, fun w' hSw => by go_simp; with_reducible rfl⟩) hH ?_
  simp only [Act.put, List.getElem_toArray, List.getElem_cons_succ, List.getElem_cons_zero, List.setIfInBounds_toArray, List.set_cons_zero, List.set_cons_succ]
  refine wpAnyH_ready (rs := [4]) (by kernel_rfl) (by simp) ?_
  refine AllReadyH.cons rfl (fun K hK => ?_) AllReadyH.nil
  try simp only [List.getElem_toArray, List.getElem_cons_succ, List.getElem_cons_zero]
  go_simp
  go_at_call 75
  refine (leU32_at _ gn on nonce (hH.range hN2 hng) 0 _ _ (by omega) (by omega)).mono ?_
  rintro e u0 ⟨rfl, hb_u0⟩
  rw [HN0.out]
  refine hK.out _ _ (hH.call hb_u0) (fun hH => ?_)
  clear hK K
  try simp only [Act.put, List.getElem_toArray, List.getElem_cons_succ, List.getElem_cons_zero, List.setIfInBounds_toArray, List.set_cons_zero, List.set_cons_succ]
  refine wpAnyH_ready (rs := [8]) (by kernel_rfl) (by simp) ?_
  refine AllReadyH.cons rfl (fun K hK => ?_) AllReadyH.nil
  try simp only [List.getElem_toArray, List.getElem_cons_succ, List.getElem_cons_zero]
  go_simp
  go_at_call 75
  refine (leU32_at _ gn on nonce (hH.range hN2 hng) 4 _ _ (by omega) (by omega)).mono ?_
  rintro e u1 ⟨rfl, hb_u1⟩
  rw [HN1.out]
  refine hK.out _ _ (hH.call hb_u1) (fun hH => ?_)
  clear hK K
  try simp only [Act.put, List.getElem_toArray, List.getElem_cons_succ, List.getElem_cons_zero, List.setIfInBounds_toArray, List.set_cons_zero, List.set_cons_succ]
  refine wpAnyH_ready (rs := [12]) (by kernel_rfl) (by simp) ?_
  refine AllReadyH.cons rfl (fun K hK => ?_) AllReadyH.nil
  try simp only [List.getElem_toArray, List.getElem_cons_succ, List.getElem_cons_zero]
  go_simp
  go_at_call 75
  refine (leU32_at _ gn on nonce (hH.range hN2 hng) 8 _ _ (by omega) (by omega)).mono ?_
  rintro e u2 ⟨rfl, hb_u2⟩
  rw [HN2.out]
  refine hK.out _ _ (hH.call hb_u2) (fun hH => ?_)
  clear hK K
  try simp only [Act.put, List.getElem_toArray, List.getElem_cons_succ, List.getElem_cons_zero, List.setIfInBounds_toArray, List.set_cons_zero, List.set_cons_succ]
  refine wpAnyH_take (i := 13) (v := ?_) rfl (by kernel_rfl) (by kernel_rfl) (by kernel_rfl) (fun _ _ _ h => h) (Or.inl ⟨by rfl, fun w' hSw => by go_simp; with_reducible rfl⟩) hH ?_
  simp only [Act.put, List.getElem_toArray, List.getElem_cons_succ, List.getElem_cons_zero, List.setIfInBounds_toArray, List.set_cons_zero, List.set_cons_succ]
  refine wpAnyH_take (i := 14) (v := ?_) rfl (by kernel_rfl) (by kernel_rfl) (by kernel_rfl) (fun _ _ _ h => h) (Or.inl ⟨by rfl, fun w' hSw => by go_simp; with_reducible rfl⟩) hH ?_
  simp only [Act.put, List.getElem_toArray, List.getElem_cons_succ, List.getElem_cons_zero, List.setIfInBounds_toArray, List.set_cons_zero, List.set_cons_succ]
  refine wpAnyH_take (i := 15) (v := ?_) rfl (by kernel_rfl) (by kernel_rfl) (by kernel_rfl) (fun _ _ _ h => h) (Or.inl ⟨by rfl, fun w' hSw => by go_simp; with_reducible rfl⟩) hH ?_
  simp only [Act.put, List.getElem_toArray, List.getElem_cons_succ, List.getElem_cons_zero, List.setIfInBounds_toArray, List.set_cons_zero, List.set_cons_succ]
  refine wpAnyH_ready (rs := [16]) (by kernel_rfl) (by simp) ?_
  refine AllReadyH.cons rfl (fun K hK' => ?_) AllReadyH.nil
  try simp only [List.getElem_toArray, List.getElem_cons_succ, List.getElem_cons_zero]
  have hAv := (Arr.below (Arr.below (Arr.below (show Arr w2.drew gc 123 _ from hA2) hb_u0) hb_u1) hb_u2)
  refine wanted_step (by rfl) ?_
  refine wp_store_mid 121 (.tmp 89) (.tmp 87) rfl gc 9 (u32s [n0, n1, n2]).toArray rfl rfl (fun j hj => ⟨by rw [hAv.cell (9 + j) (by rw [hlen2]; simp at hj; omega)]; rfl, hAv.fr _⟩) (by rw [k121_size]; rfl) (by rw [all_oneCell_toArray (u32s_oneCell _)]) ?_
  refine hK'.out _ _ (hH.mid 9 _ (by simp)) (fun hH => ?_)
  clear hK' K
  refine wpAnyH_done (by kernel_rfl) ?_ _
  have hA3 := arr_setCells (u32s [n0, n1, n2]) 9 _ _ ((Arr.below (Arr.below (Arr.below (show Arr w2.drew gc 123 _ from hA2) hb_u0) hb_u1) hb_u2)) (by rw [hlen2]; simp)
  have hA3 : Arr (u2.setCells gc 9 (u32s [n0, n1, n2])) gc 123 (cphC [k0, k1, k2, k3, k4, k5, k6, k7] 0 [n0, n1, n2] zer64 0 false z12) := hA3
  have hg3 := grown_trans' hg2 hH.g
  generalize World.setCells u2 _ _ _ = w3 at hA3 hg3 ⊢
  go_wp2_with fail
  go_ret2
  refine ⟨rfl, ?_, hg3⟩
  rw [HKW.out, HNW.out]; exact hA3

set_option maxRecDepth 100000 in
set_option maxHeartbeats 2000000 in
theorem newCipher_any (w : World) (gk ok ck gn on cn : Nat) (key nonce : List UInt8) (hk : key.length = 32) (hn : nonce.length = 12) (hck : 32 ≤ ck) (hcn : 12 ≤ cn) (hKR : w.rangeAt gk ok (u8s key)) (hN : w.rangeAt gn on (u8s nonce)) :
    Calls Tryd.prog 61 #[.slice (some ⟨gk, ok, none⟩) 32 ck, .slice (some ⟨gn, on, none⟩) 12 cn] w fun e w' => e = .returned (.tuple #[.pointer (some ⟨w.heap.size, 0, none⟩), .nilIface]) ∧
      Arr w' w.heap.size 123 (cphC (kwOf key) 0 (nwOf nonce) zer64 0 false z12) ∧ Below w.heap.size w w' := by
  have hA : Arr (w.alloc (.cells (cphC z8 0 z3 zer64 0 false z12).toArray 123)) w.heap.size 123 (cphC z8 0 z3 zer64 0 false z12) := arr_new w _ _
  have hb := below_alloc w (.cells (cphC z8 0 z3 zer64 0 false z12).toArray 123)
  have hK1 := range_below hKR hb
  have hN1 := range_below hN hb
  have hkl : gk < w.heap.size := World.block_lt_of_cell? w _ (hKR 0 _ (List.getElem?_eq_getElem (by simp; omega)))
  have hnl : gn < w.heap.size := World.block_lt_of_cell? w _ (hN 0 _ (List.getElem?_eq_getElem (by simp; omega)))
  go_enter Tryd.func61, Tryd.ntmps61
  go_wp2_with fail
  refine (newCiph_any _ w.heap.size gk ok ck gn on cn key nonce hk hn hck hcn hK1 hN1 (by omega) (by omega) hA).mono ?_
  rintro e w1 ⟨rfl, hA1, hg1⟩
  go_wp2_with fail
  go_ret2
  exact ⟨rfl, hA1, bkept hb hg1 (Nat.le_refl _) (by simp)⟩
end Go.Proofs.YtkocgogpbammaaaDoor

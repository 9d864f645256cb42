/- The reference's X25519 and Public. Condition: 32 bytes each, the point's number below the prime. (Printed by wip/genx.py.) -/
import Derived.Test.YthjminkkmljjhaaGreatDoorStp
namespace Go.Proofs.YthjminkkmljjhaaGreatDoor
open Go.RowKit

section
variable {ops : Array Oper} {rest : List Oper} {o : Oper} {a : Act} {w : World} {Q : Exit → Act → World → Prop}
theorem wpList_loadW (hgd : o.guard = none) (x : Operand) (ho : o.op = .load 59 x) (g u : Nat) (s : LS) (hx : a.eval x = .pointer (some ⟨g, 0, none⟩)) (hR : WAt w g u s)
    (h : wpList Tryz.prog ops Q rest (a.put o.dst (nv (l5 u s))) w) : wpList Tryz.prog ops Q (o :: rest) a w :=
  wpList_load_row hgd _ x ho g hx _ (u64s (l5 u s)).toArray (0, 0) (.array 5 56) hR w_und rfl (by rw [w_size]; simp) h
theorem wpList_storeW (hgd : o.guard = none) (x y : Operand) (ho : o.op = .store 59 x y) (g u u' : Nat) (s s' : LS) (hx : a.eval x = .pointer (some ⟨g, 0, none⟩)) (hy : a.eval y = nv (l5 u' s')) (hR : WAt w g u s)
    (h : ∀ w', WAt w' g u' s' → w.grownBy w' (some g) → wpList Tryz.prog ops Q rest (a.put o.dst undef) w') : wpList Tryz.prog ops Q (o :: rest) a w :=
  wpList_store_row hgd _ x y ho g (u64s (l5 u' s')).toArray hx hy _ (u64s (l5 u s)).toArray hR (by rw [w_size]; simp) (by simp) (by rw [all_oneCell_toArray (u64s_oneCell _)])
    (h _ (setRow_heap w g _ _ _ (0, 0) hR) ⟨rfl, rfl, rfl, by simp [World.setRow], fun k _ hk => setRow_other w g k _ (fun e => hk (by rw [e]))⟩)
end
theorem step_storeW {o : Oper} {a : Act} {w : World} {K : Act → World → Prop} {Q : Exit → Act → World → Prop} (x y : Operand) (ho : o.op = .store 59 x y) (g u : Nat) (s : LS) (z : List Nat) (hz : z.length = 80) (hx : a.eval x = .pointer (some ⟨g, 0, none⟩)) (hy : a.eval y = nv (l5 u s)) (hR : Arr w g 59 (u64s z))
    (h : ∀ w', WAt w' g u s → w.grownBy w' (some g) → K (a.put o.dst undef) w') : o.wp Tryz.prog a w K Q :=
  wp_store_row _ x y ho g (u64s (l5 u s)).toArray hx hy _ (u64s z).toArray hR (by rw [w_size]; simp) (by simp [hz]) (by rw [all_oneCell_toArray (u64s_oneCell _)])
    (h _ (setRow_heap w g _ _ _ (0, 0) hR) ⟨rfl, rfl, rfl, by simp [World.setRow], fun k _ hk => setRow_other w g k _ (fun e => hk (by rw [e]))⟩)
theorem zerosW_len : zerosW.length = 80 := by simp [zerosW, zerosN]
theorem ladS_lt (u K n : Nat) (hu : u < 115792089237316195423570985008687907853269984665640564039457584007913129639936) : LsLt (ladS u K n) := by
  cases n with
  | zero => exact ⟨(by decide : (1 : Nat) < 115792089237316195423570985008687907853269984665640564039457584007913129639936), (by decide : (0 : Nat) < 115792089237316195423570985008687907853269984665640564039457584007913129639936), hu, (by decide : (1 : Nat) < 115792089237316195423570985008687907853269984665640564039457584007913129639936)⟩
  | succ n => exact dbl_lt _ _
theorem numB_lt256 (l : List UInt8) (hl : l.length = 32) : numB l < 115792089237316195423570985008687907853269984665640564039457584007913129639936 := by
  have := numB_lt l; rw [hl] at this; exact Nat.lt_of_lt_of_le this (by decide)
/-- The point's bytes, the highest bit struck. -/
def maskL (l : List UInt8) : List UInt8 := l.set 31 (UInt8.ofNat ((l.getD 31 0).toNat % 128))

set_option maxRecDepth 100000 in
set_option maxHeartbeats 4000000 in
theorem x25519_any (w : World) (sec pt : List UInt8) (ls : sec.length = 32) (lp : pt.length = 32) (hu : numB (maskL pt) < pp) :
    Calls Tryz.prog 14 #[bv sec, bv pt] w fun e w' => e = .returned (bv (leB (ladR (numB (maskL pt)) (numB (clampL sec))))) ∧ Below w.heap.size w w' := by
  have hS0 : BAt (w.alloc (objB sec)) w.heap.size sec := arr_new w _ _
  have hP0 : BAt ((w.alloc (objB sec)).alloc (objB pt)) (w.heap.size + 1) pt := arr_new2 w _ _ _
  have hsz1 : ((w.alloc (objB sec)).alloc (objB pt)).heap.size = w.heap.size + 2 := by simp
  obtain ⟨w3, hw3⟩ : ∃ x, x = ((w.alloc (objB sec)).alloc (objB pt)).alloc (objB zerosB) := ⟨_, rfl⟩
  have hS : BAt w3 w.heap.size sec := by rw [hw3]; exact (hS0.below (below_alloc _ _)).below (below_alloc _ _)
  have hP : BAt w3 (w.heap.size + 1) pt := by rw [hw3]; exact hP0.below (below_alloc _ _)
  have hR : BAt w3 (w.heap.size + 2) zerosB := by rw [hw3, ← hsz1]; exact arr_new _ _ _
  have hb : Below w.heap.size w w3 := by rw [hw3]; exact Below.alloc (Below.alloc (below_alloc _ _) (below_alloc _ _).size _) (Below.alloc (below_alloc _ _) (below_alloc _ _).size _).size _
  have hsz : w.heap.size + 3 ≤ w3.heap.size := by rw [hw3]; simp
  clear hS0 hP0 hsz1
  obtain ⟨K, hK⟩ : ∃ K, K = numB (clampL sec) := ⟨_, rfl⟩
  obtain ⟨u, hu2⟩ : ∃ u, u = numB (maskL pt) := ⟨_, rfl⟩
  have HKB : Hid (K < 115792089237316195423570985008687907853269984665640564039457584007913129639936) := by rw [hK]; exact numB_lt256 _ (by simp [ls])
  rw [← hu2] at hu ⊢
  rw [← hK]
  have HK := Lib.hid hK
  have HU := Lib.hid hu2
  have HUP := Lib.hid hu
  have HU6 := Lib.hid (n_lt hu)
  clear hK hu2 hu
  have hmp : (maskL pt).length = 32 := by simp [maskL, lp]
  go_enter Tryz.func14, Tryz.ntmps14
  go_upto_region 1 with fail
  show Code.wp _ _ _ _ (((w.alloc (objB sec)).alloc (objB pt)).alloc (objB zerosB))
  rw [← hw3]
  clear hw3
  go_wp2_with (refine wpList_loadB rfl (.tmp 2) rfl w.heap.size sec ls rfl hS ?_)
  refine (clamped_any _ sec ls).mono ?_
  rintro e w4 ⟨rfl, hb4⟩
  have hP4 := hP.below hb4
  have hR4 := hR.below hb4
  have hbb4 := hb.trans (hb4.mono hb.size)
  have hsz4 := Nat.le_trans hsz hb4.size
  clear hS hP hR hb hsz hb4
  go_wp2_with fail
  refine (of_any _ (clampL sec) (by simp [ls])).mono ?_
  rintro e w5 ⟨rfl, hb5⟩
  rw [← HK.out]
  have hP5 := hP4.below hb5
  have hR5 := hR4.below hb5
  have hbb5 := hbb4.trans (hb5.mono hbb4.size)
  have hsz5 := Nat.le_trans hsz4 hb5.size
  clear hP4 hR4 hbb4 hsz4 hb5
  have hn5 : NAt (w5.alloc (objN zerosN)) w5.heap.size zerosN := arr_new _ _ _
  have k5 := below_alloc w5 (objN zerosN)
  go_upto_region 2 with (refine wpList_storeN rfl (.tmp 5) (.tmp 13) rfl w5.heap.size (dig 16 K) zerosN (by simp) rfl rfl rfl hn5 ?_; intro w6 hN6 hg6)
  have hg6 : (w5.alloc (objN zerosN)).grownBy w6 (some w5.heap.size) := hg6
  have hP6 := (hP5.below k5).kept hg6 (by omega)
  have hR6 := (hR5.below k5).kept hg6 (by omega)
  have hbb6 : Below w.heap.size w w6 := bkept (hbb5.trans (k5.mono hbb5.size)) hg6 (by omega) (hbb5.trans (k5.mono hbb5.size)).size
  have hsz6 : w.heap.size + 3 ≤ w6.heap.size := Nat.le_trans hsz5 (Nat.le_trans k5.size hg6.size)
  obtain ⟨g5, hg5⟩ : ∃ g, g = w5.heap.size := ⟨_, rfl⟩
  have q5 : w.heap.size + 3 ≤ g5 := by omega
  rw [← hg5] at hN6 ⊢
  have c31 := hP6.cell 31 (by simp; omega)
  rw [u8s_get] at c31
  have f31 := hP6.fr 31
  have hbits := (clamp_bits (pt[31]'(by omega)).toNat (UInt8.toNat_lt _)).2.2.1
  have gd : pt.getD 31 0 = pt[31]'(by omega) := by simp [List.getD, List.getElem?_eq_getElem (show 31 < pt.length from by omega)]
  have x31 : (pt[31]'(by omega)).toNat < 256 := UInt8.toNat_lt _
  have hst : BAt (w6.setCell ⟨w.heap.size + 1, 31, none⟩ (.int .u8 (((pt[31]'(by omega)).toNat % 128 : Nat) : Int))) (w.heap.size + 1) (maskL pt) := by
    have h1 := b_set hP6 31 (UInt8.ofNat ((pt.getD 31 0).toNat % 128)) (by omega)
    rw [gd, UInt8.toNat_ofNat', Nat.mod_eq_of_lt (by omega)] at h1
    unfold maskL; rw [gd]; exact h1
  clear gd x31 hP5 hR5 hbb5 hsz5 hn5 k5 hg6 hg5
  generalize (pt[31]'(by omega)).toNat = y at *
  obtain ⟨r, hr⟩ : ∃ r, r = y % 128 := ⟨_, rfl⟩
  rw [← hr] at hbits hst
  clear hr
  have hN7 := (Arr.other hN6 (by omega : g5 ≠ w.heap.size + 1) (i := 31) (u := .int .u8 (r : Int)))
  have hR7 := (Arr.other hR6 (by omega : w.heap.size + 2 ≠ w.heap.size + 1) (i := 31) (u := .int .u8 (r : Int)))
  have hbb7 := hbb6.setCell (p := ⟨w.heap.size + 1, 31, none⟩) (by show w.heap.size ≤ w.heap.size + 1; omega) (.int .u8 (r : Int))
  have hsz7 : w.heap.size + 3 ≤ (w6.setCell ⟨w.heap.size + 1, 31, none⟩ (.int .u8 (r : Int))).heap.size := by simpa [World.setCell] using hsz6
  go_wp2_with (refine wpList_loadB rfl (.tmp 3) rfl (w.heap.size + 1) (maskL pt) hmp rfl hst ?_)
  clear c31 f31 hbits
  generalize w6.setCell ⟨w.heap.size + 1, 31, none⟩ (.int .u8 (r : Int)) = w7 at *
  refine (of_any _ (maskL pt) hmp).mono ?_
  rintro e w8 ⟨rfl, hb8⟩
  rw [← HU.out]
  have hN8 := hN7.below hb8
  have hR8 := hR7.below hb8
  have hbb8 := hbb7.trans (hb8.mono hbb7.size)
  have hsz8 := Nat.le_trans hsz7 hb8.size
  clear hN6 hP6 hR6 hbb6 hsz6 hst hN7 hR7 hbb7 hsz7 hb8
  have hn8 : NAt (w8.alloc (objN zerosN)) w8.heap.size zerosN := arr_new _ _ _
  have k8 := below_alloc w8 (objN zerosN)
  have hlt8 := hN8.lt
  go_wp2_with (refine wpList_storeN rfl (.tmp 6) (.tmp 19) rfl w8.heap.size (dig 16 u) zerosN (by simp) rfl rfl rfl hn8 ?_; intro wc hN9 hg9)
  have hg9 : (w8.alloc (objN zerosN)).grownBy wc (some w8.heap.size) := hg9
  have m_g5 := (hN8.below k8).kept hg9 (by omega)
  have hR := (hR8.below k8).kept hg9 (by omega)
  have hb : Below w.heap.size w wc := bkept (hbb8.trans (k8.mono hbb8.size)) hg9 (by omega) (hbb8.trans (k8.mono hbb8.size)).size
  have hsz : w.heap.size + 3 ≤ wc.heap.size := Nat.le_trans hsz8 (Nat.le_trans k8.size hg9.size)
  obtain ⟨g6, hg6⟩ : ∃ g, g = w8.heap.size := ⟨_, rfl⟩
  have q6 : w.heap.size + 3 ≤ g6 := by omega
  rw [← hg6] at hN9 ⊢
  have m_g6 : NAt wc g6 (dig 16 u) := hN9
  clear hN8 hR8 hbb8 hsz8 hn8 k8 hlt8 hg9 hg6 hN9
  go_wp2_with fail
  go_frame
  go_cut [7] (fun s7 wx => ∃ g7 : Nat, s7 = .pointer (some ⟨g7, 0, none⟩) ∧ WAt wx g7 u (ladS u K 0) ∧ w.heap.size + 3 ≤ g7 ∧ g5 ≠ g7 ∧ NAt wx g5 (dig 16 K) ∧ (∃ z, z.length = 32 ∧ Arr wx (w.heap.size + 2) 22 z) ∧ Below w.heap.size w wx)
  case first =>
    refine wp_region_held_drew (S := fun w' => GH wc w' (w.heap.size + 2) 32 22) (by kernel_rfl) (GH.start hR (by simp [zerosB])) (fun hH => ?_)
    refine wpAnyH_take (i := 0) (v := _) rfl (by kernel_rfl) (by kernel_rfl) (by kernel_rfl) (fun _ _ _ h => h) (yieldsIf_load_mid (by rfl) _ _ rfl _ _ rfl _ _ (fun w' h => Arr.range (Arr.kept m_g6 (GH.g h) (by omega))) n_und rfl (n_len u)) hH ?_
    simp only [Act.put, List.getElem_toArray, List.getElem_cons_succ, List.getElem_cons_zero, List.setIfInBounds_toArray, List.set_cons_zero, List.set_cons_succ]
    refine wpAnyH_take (i := 2) (v := ?_) rfl (by kernel_rfl) (by kernel_rfl) (by kernel_rfl) (fun _ _ _ h => h) (Or.inl ⟨by rfl, fun w' hSw => by go_simp; with_reducible rfl⟩) hH ?_
    simp only [Act.put, List.getElem_toArray, List.getElem_cons_succ, List.getElem_cons_zero, List.setIfInBounds_toArray, List.set_cons_zero, List.set_cons_succ]
    refine wpAnyH_take (i := 3) (v := _) rfl (by kernel_rfl) (by kernel_rfl) (by kernel_rfl) (fun _ _ _ h => h) (yieldsIf_load_mid (by rfl) _ _ rfl _ _ rfl _ _ (fun w' h => Arr.range (Arr.kept m_g6 (GH.g h) (by omega))) n_und rfl (n_len u)) hH ?_
    simp only [Act.put, List.getElem_toArray, List.getElem_cons_succ, List.getElem_cons_zero, List.setIfInBounds_toArray, List.set_cons_zero, List.set_cons_succ]
    refine wpAnyH_ready (rs := [1, 6]) (by kernel_rfl) (by simp) ?_
    refine AllReadyH.cons rfl (fun K hK => ?_) ?_
    · try simp only [List.getElem_toArray, List.getElem_cons_succ, List.getElem_cons_zero]
      go_simp
      go_at_call 24
      refine (small_any _ 1 (by decide)).mono ?_
      rintro e v1 ⟨rfl, hb_v1⟩
      refine hK.out _ _ (hH.call hb_v1) (fun hH => ?_)
      clear hK K
      try simp only [Act.put, List.getElem_toArray, List.getElem_cons_succ, List.getElem_cons_zero, List.setIfInBounds_toArray, List.set_cons_zero, List.set_cons_succ]
      refine wpAnyH_ready (rs := [4, 6]) (by kernel_rfl) (by simp) ?_
      refine AllReadyH.cons rfl (fun K hK => ?_) ?_
      · try simp only [List.getElem_toArray, List.getElem_cons_succ, List.getElem_cons_zero]
        go_simp
        go_at_call 24
        refine (small_any _ 1 (by decide)).mono ?_
        rintro e v2 ⟨rfl, hb_v2⟩
        refine hK.out _ _ (hH.call hb_v2) (fun hH => ?_)
        clear hK K
        try simp only [Act.put, List.getElem_toArray, List.getElem_cons_succ, List.getElem_cons_zero, List.setIfInBounds_toArray, List.set_cons_zero, List.set_cons_succ]
        refine wpAnyH_ready (rs := [5, 6]) (by kernel_rfl) (by simp) ?_
        refine AllReadyH.cons rfl (fun K hK => ?_) ?_
        · try simp only [List.getElem_toArray, List.getElem_cons_succ, List.getElem_cons_zero]
          refine wanted_step (by rfl) ?_
          refine step_buildW _ rfl u 1 0 u 1 (by simp [Act.eval]; rfl) ?_
          refine hK.out _ _ hH (fun hH => ?_)
          clear hK K
          try simp only [Act.put, List.getElem_toArray, List.getElem_cons_succ, List.getElem_cons_zero, List.setIfInBounds_toArray, List.set_cons_zero, List.set_cons_succ]
          refine wpAnyH_ready (rs := [6]) (by kernel_rfl) (by simp) ?_
          refine AllReadyH.cons rfl (fun K hK => ?_) AllReadyH.nil
          try simp only [List.getElem_toArray, List.getElem_cons_succ, List.getElem_cons_zero]
          go_simp
          show K _ (v2.alloc (objW zerosW))
          obtain ⟨v4, e_v4⟩ : ∃ x, x = v2.alloc (objW zerosW) := ⟨_, rfl⟩
          obtain ⟨g7, e_g7⟩ : ∃ g, g = v2.heap.size := ⟨_, rfl⟩
          have e2_g7 : v2.heap.size = g7 := e_g7.symm
          rw [← e_v4]
          try rw [← e_g7]
          try rw [e2_g7]
          have n_g7 : Arr v4 g7 59 (u64s zerosW) := by rw [e_v4, e_g7]; exact arr_new _ _ _
          have b_v4 : Below v2.heap.size v2 v4 := by rw [e_v4]; exact below_alloc _ _
          have ge_g7 : wc.heap.size ≤ g7 := by rw [e_g7]; exact hH.g.size
          refine hK.out _ _ (hH.call b_v4) (fun hH => ?_)
          clear hK K e_v4 e_g7 e2_g7 b_v4
          refine wpAnyH_ready (rs := [7]) (by kernel_rfl) (by simp) ?_
          refine AllReadyH.cons rfl (fun K hK => ?_) AllReadyH.nil
          try simp only [List.getElem_toArray, List.getElem_cons_succ, List.getElem_cons_zero]
          refine wanted_step (by rfl) ?_
          refine step_storeW (.tmp 7) (.tmp 25) rfl g7 u ⟨1, 0, u, 1⟩ zerosW zerosW_len rfl rfl n_g7 ?_
          intro v5 m_g7 g_v5
          refine hK.out _ _ (hH.other g_v5 ge_g7 (by omega)) (fun hH => ?_)
          clear hK K n_g7 g_v5
          refine wpAnyH_done (by kernel_rfl) ?_ _
          go_wp2_with fail
          go_meet
          exact ⟨g7, rfl, m_g7, (by omega), (by have := m_g5.lt; omega), m_g5.kept hH.g (by omega), hH.z, hH.below hb (by omega) hb.size⟩
        refine AllReadyH.cons rfl (fun K hK => ?_) ?_
        · try simp only [List.getElem_toArray, List.getElem_cons_succ, List.getElem_cons_zero]
          go_simp
          show K _ (v2.alloc (objW zerosW))
          obtain ⟨v6, e_v6⟩ : ∃ x, x = v2.alloc (objW zerosW) := ⟨_, rfl⟩
          obtain ⟨g7, e_g7⟩ : ∃ g, g = v2.heap.size := ⟨_, rfl⟩
          have e2_g7 : v2.heap.size = g7 := e_g7.symm
          rw [← e_v6]
          try rw [← e_g7]
          try rw [e2_g7]
          have n_g7 : Arr v6 g7 59 (u64s zerosW) := by rw [e_v6, e_g7]; exact arr_new _ _ _
          have b_v6 : Below v2.heap.size v2 v6 := by rw [e_v6]; exact below_alloc _ _
          have ge_g7 : wc.heap.size ≤ g7 := by rw [e_g7]; exact hH.g.size
          refine hK.out _ _ (hH.call b_v6) (fun hH => ?_)
          clear hK K e_v6 e_g7 e2_g7 b_v6
          refine wpAnyH_ready (rs := [5]) (by kernel_rfl) (by simp) ?_
          refine AllReadyH.cons rfl (fun K hK => ?_) AllReadyH.nil
          try simp only [List.getElem_toArray, List.getElem_cons_succ, List.getElem_cons_zero]
          refine wanted_step (by rfl) ?_
          refine step_buildW _ rfl u 1 0 u 1 (by simp [Act.eval]; rfl) ?_
          refine hK.out _ _ hH (fun hH => ?_)
          clear hK K
          try simp only [Act.put, List.getElem_toArray, List.getElem_cons_succ, List.getElem_cons_zero, List.setIfInBounds_toArray, List.set_cons_zero, List.set_cons_succ]
          refine wpAnyH_ready (rs := [7]) (by kernel_rfl) (by simp) ?_
          refine AllReadyH.cons rfl (fun K hK => ?_) AllReadyH.nil
          try simp only [List.getElem_toArray, List.getElem_cons_succ, List.getElem_cons_zero]
          refine wanted_step (by rfl) ?_
          refine step_storeW (.tmp 7) (.tmp 25) rfl g7 u ⟨1, 0, u, 1⟩ zerosW zerosW_len rfl rfl n_g7 ?_
          intro v8 m_g7 g_v8
          refine hK.out _ _ (hH.other g_v8 ge_g7 (by omega)) (fun hH => ?_)
          clear hK K n_g7 g_v8
          refine wpAnyH_done (by kernel_rfl) ?_ _
          go_wp2_with fail
          go_meet
          exact ⟨g7, rfl, m_g7, (by omega), (by have := m_g5.lt; omega), m_g5.kept hH.g (by omega), hH.z, hH.below hb (by omega) hb.size⟩
        exact AllReadyH.nil
      refine AllReadyH.cons rfl (fun K hK => ?_) ?_
      · try simp only [List.getElem_toArray, List.getElem_cons_succ, List.getElem_cons_zero]
        go_simp
        show K _ (v1.alloc (objW zerosW))
        obtain ⟨v9, e_v9⟩ : ∃ x, x = v1.alloc (objW zerosW) := ⟨_, rfl⟩
        obtain ⟨g7, e_g7⟩ : ∃ g, g = v1.heap.size := ⟨_, rfl⟩
        have e2_g7 : v1.heap.size = g7 := e_g7.symm
        rw [← e_v9]
        try rw [← e_g7]
        try rw [e2_g7]
        have n_g7 : Arr v9 g7 59 (u64s zerosW) := by rw [e_v9, e_g7]; exact arr_new _ _ _
        have b_v9 : Below v1.heap.size v1 v9 := by rw [e_v9]; exact below_alloc _ _
        have ge_g7 : wc.heap.size ≤ g7 := by rw [e_g7]; exact hH.g.size
        refine hK.out _ _ (hH.call b_v9) (fun hH => ?_)
        clear hK K e_v9 e_g7 e2_g7 b_v9
        refine wpAnyH_ready (rs := [4]) (by kernel_rfl) (by simp) ?_
        refine AllReadyH.cons rfl (fun K hK => ?_) AllReadyH.nil
        try simp only [List.getElem_toArray, List.getElem_cons_succ, List.getElem_cons_zero]
        go_simp
        go_at_call 24
        refine (small_any _ 1 (by decide)).mono ?_
        rintro e v10 ⟨rfl, hb_v10⟩
        refine hK.out _ _ (hH.call hb_v10) (fun hH => ?_)
        clear hK K
        try simp only [Act.put, List.getElem_toArray, List.getElem_cons_succ, List.getElem_cons_zero, List.setIfInBounds_toArray, List.set_cons_zero, List.set_cons_succ]
        have n_g7 := n_g7.below hb_v10
        refine wpAnyH_ready (rs := [5]) (by kernel_rfl) (by simp) ?_
        refine AllReadyH.cons rfl (fun K hK => ?_) AllReadyH.nil
        try simp only [List.getElem_toArray, List.getElem_cons_succ, List.getElem_cons_zero]
        refine wanted_step (by rfl) ?_
        refine step_buildW _ rfl u 1 0 u 1 (by simp [Act.eval]; rfl) ?_
        refine hK.out _ _ hH (fun hH => ?_)
        clear hK K
        try simp only [Act.put, List.getElem_toArray, List.getElem_cons_succ, List.getElem_cons_zero, List.setIfInBounds_toArray, List.set_cons_zero, List.set_cons_succ]
        refine wpAnyH_ready (rs := [7]) (by kernel_rfl) (by simp) ?_
        refine AllReadyH.cons rfl (fun K hK => ?_) AllReadyH.nil
        try simp only [List.getElem_toArray, List.getElem_cons_succ, List.getElem_cons_zero]
        refine wanted_step (by rfl) ?_
        refine step_storeW (.tmp 7) (.tmp 25) rfl g7 u ⟨1, 0, u, 1⟩ zerosW zerosW_len rfl rfl n_g7 ?_
        intro v12 m_g7 g_v12
        refine hK.out _ _ (hH.other g_v12 ge_g7 (by omega)) (fun hH => ?_)
        clear hK K n_g7 g_v12
        refine wpAnyH_done (by kernel_rfl) ?_ _
        go_wp2_with fail
        go_meet
        exact ⟨g7, rfl, m_g7, (by omega), (by have := m_g5.lt; omega), m_g5.kept hH.g (by omega), hH.z, hH.below hb (by omega) hb.size⟩
      exact AllReadyH.nil
    refine AllReadyH.cons rfl (fun K hK => ?_) ?_
    · try simp only [List.getElem_toArray, List.getElem_cons_succ, List.getElem_cons_zero]
      go_simp
      show K _ (wc.drew.alloc (objW zerosW))
      obtain ⟨v13, e_v13⟩ : ∃ x, x = wc.drew.alloc (objW zerosW) := ⟨_, rfl⟩
      obtain ⟨g7, e_g7⟩ : ∃ g, g = wc.drew.heap.size := ⟨_, rfl⟩
      have e2_g7 : wc.heap.size = g7 := e_g7.symm
      rw [← e_v13]
      try rw [← e_g7]
      try rw [e2_g7]
      have n_g7 : Arr v13 g7 59 (u64s zerosW) := by rw [e_v13, e_g7]; exact arr_new _ _ _
      have b_v13 : Below wc.drew.heap.size wc.drew v13 := by rw [e_v13]; exact below_alloc _ _
      have ge_g7 : wc.heap.size ≤ g7 := by rw [e_g7]; exact hH.g.size
      refine hK.out _ _ (hH.call b_v13) (fun hH => ?_)
      clear hK K e_v13 e_g7 e2_g7 b_v13
      refine wpAnyH_ready (rs := [1]) (by kernel_rfl) (by simp) ?_
      refine AllReadyH.cons rfl (fun K hK => ?_) AllReadyH.nil
      try simp only [List.getElem_toArray, List.getElem_cons_succ, List.getElem_cons_zero]
      go_simp
      go_at_call 24
      refine (small_any _ 1 (by decide)).mono ?_
      rintro e v14 ⟨rfl, hb_v14⟩
      refine hK.out _ _ (hH.call hb_v14) (fun hH => ?_)
      clear hK K
      try simp only [Act.put, List.getElem_toArray, List.getElem_cons_succ, List.getElem_cons_zero, List.setIfInBounds_toArray, List.set_cons_zero, List.set_cons_succ]
      have n_g7 := n_g7.below hb_v14
      refine wpAnyH_ready (rs := [4]) (by kernel_rfl) (by simp) ?_
      refine AllReadyH.cons rfl (fun K hK => ?_) AllReadyH.nil
      try simp only [List.getElem_toArray, List.getElem_cons_succ, List.getElem_cons_zero]
      go_simp
      go_at_call 24
      refine (small_any _ 1 (by decide)).mono ?_
      rintro e v15 ⟨rfl, hb_v15⟩
      refine hK.out _ _ (hH.call hb_v15) (fun hH => ?_)
      clear hK K
      try simp only [Act.put, List.getElem_toArray, List.getElem_cons_succ, List.getElem_cons_zero, List.setIfInBounds_toArray, List.set_cons_zero, List.set_cons_succ]
      have n_g7 := n_g7.below hb_v15
      refine wpAnyH_ready (rs := [5]) (by kernel_rfl) (by simp) ?_
      refine AllReadyH.cons rfl (fun K hK => ?_) AllReadyH.nil
      try simp only [List.getElem_toArray, List.getElem_cons_succ, List.getElem_cons_zero]
      refine wanted_step (by rfl) ?_
      refine step_buildW _ rfl u 1 0 u 1 (by simp [Act.eval]; rfl) ?_
      refine hK.out _ _ hH (fun hH => ?_)
      clear hK K
      try simp only [Act.put, List.getElem_toArray, List.getElem_cons_succ, List.getElem_cons_zero, List.setIfInBounds_toArray, List.set_cons_zero, List.set_cons_succ]
      refine wpAnyH_ready (rs := [7]) (by kernel_rfl) (by simp) ?_
      refine AllReadyH.cons rfl (fun K hK => ?_) AllReadyH.nil
      try simp only [List.getElem_toArray, List.getElem_cons_succ, List.getElem_cons_zero]
      refine wanted_step (by rfl) ?_
      refine step_storeW (.tmp 7) (.tmp 25) rfl g7 u ⟨1, 0, u, 1⟩ zerosW zerosW_len rfl rfl n_g7 ?_
      intro v17 m_g7 g_v17
      refine hK.out _ _ (hH.other g_v17 ge_g7 (by omega)) (fun hH => ?_)
      clear hK K n_g7 g_v17
      refine wpAnyH_done (by kernel_rfl) ?_ _
      go_wp2_with fail
      go_meet
      exact ⟨g7, rfl, m_g7, (by omega), (by have := m_g5.lt; omega), m_g5.kept hH.g (by omega), hH.z, hH.below hb (by omega) hb.size⟩
    exact AllReadyH.nil
  clear hR hb hsz m_g5 m_g6
  obtain ⟨g7, rfl, hW, q7, hne57, m_g5, ⟨zr, hzr, hR⟩, hb⟩ := hcut
  go_wp2_with fail
  try go_frame
  go_loopw [8, 9] (fun lv iv wr => ∃ (n : Nat) (z : Int), n ≤ 255 ∧ z = 254 - (n : Int) ∧ iv = .int .i64 z ∧ lv = .int .u64 (lastB K n : Int) ∧ WAt wr g7 u (ladS u K n) ∧ NAt wr g5 (dig 16 K) ∧ Arr wr (w.heap.size + 2) 22 zr ∧ Below w.heap.size w wr) (fun _ iv _ => (intOf iv + 1).toNat)
  case atStart => exact ⟨0, 254, Nat.zero_le _, rfl, rfl, rfl, hW, m_g5, hR, hb⟩
  case round =>
    clear hW m_g5 hR hb
    obtain ⟨n, z, hn, hz, rfl, rfl, hW, m_g5, hR, hb⟩ := hrel
    by_cases hlt : n < 255
    · obtain ⟨i, hi⟩ : ∃ i : Nat, i = 254 - n := ⟨_, rfl⟩
      obtain rfl : z = (i : Int) := by omega
      have hi2 : i < 256 := by omega
      have hls := ladS_lt u K n HU6.out
      have hlb := lastB_lt K n
      have hlS : lastB K (n + 1) = bitN K i := by rw [lastB_succ, hi]
      have hladS : ladS u K (n + 1) = dbl u (swp (bitN K i ^^^ lastB K n) (ladS u K n)) := by rw [hi]; rfl
      have hbt := bitN_lt K i
      have hxor : bits BinOp.xor IntKind.u64 (bitN K i : Int) (lastB K n : Int) = ((bitN K i ^^^ lastB K n : Nat) : Int) := u64_xor_nat _ _ (by omega) (by omega)
      have hxl : bitN K i ^^^ lastB K n < 2 := Nat.xor_lt_two_pow (n := 1) hbt hlb
      have him : (i : Int) - 1 = 254 - ((n + 1 : Nat) : Int) := by omega
      clear hz hi
      obtain ⟨bt, hbt2⟩ : ∃ b, b = bitN K i := ⟨_, rfl⟩
      rw [← hbt2] at hlS hladS hbt hxor hxl
      have hBT : Hid (bitN K i = bt) := hbt2.symm
      clear hbt2
      have HL2 := Lib.hid hladS
      generalize ladS u K n = s at *
      generalize lastB K n = lb at *
      obtain ⟨s2, hs2⟩ : ∃ x, x = dbl u (swp (bt ^^^ lb) s) := ⟨_, rfl⟩
      rw [← hs2] at HL2
      have HLS := Lib.hid hs2
      have hlS2 := Lib.hid hlS
      clear hlS hs2 hladS hlb hbt
      have j0 : (0 : Int) ≤ (i : Int) := by omega
      go_wp2_with (refine wpList_loadN rfl (.tmp 5) rfl g5 (dig 16 K) (by simp) rfl m_g5 ?_)
      refine (bit_any _ K i hi2).mono ?_
      rintro e w1 ⟨rfl, hb1⟩
      rw [hBT.out]
      have hW := hW.below hb1
      have m_g5 := m_g5.below hb1
      have hR := hR.below hb1
      have hb := hb.trans (hb1.mono hb.size)
      go_wp2_with (refine wpList_loadW rfl (.tmp 7) rfl g7 u s rfl hW ?_)
      refine (step_any _ u (bt ^^^ lb) s HU6.out hls hxl).mono ?_
      rintro e w2 ⟨rfl, hb2⟩
      rw [Nat.mod_eq_of_lt HUP.out, ← HLS.out]
      have hW := hW.below hb2
      have m_g5 := m_g5.below hb2
      have hR := hR.below hb2
      have hb := hb.trans (hb2.mono hb.size)
      go_wp2_with (refine wpList_storeW rfl (.tmp 7) (.tmp 37) rfl g7 u u s s2 rfl rfl hW ?_; intro w4 h4 g4)
      go_roundw
      case rel => exact ⟨n + 1, (i : Int) - 1, by omega, him, by go_num, (by rw [hlS2.out]), (by rw [HL2.out]; exact h4), m_g5.kept g4 hne57, hR.kept g4 (by omega), bkept hb g4 (by omega) hb.size⟩
      case measure => simp [intOf]; omega
    · obtain rfl : n = 255 := by omega
      obtain rfl : z = -1 := by omega
      clear hz hlt
      have d0 : decide ((-1 : Int) ≥ 0) = false := by decide
      have hls := ladS_lt u K 255 HU6.out
      have hdef : ladR u K = mulm (swp (lastB K 255) (ladS u K 255)).x2 (invm (swp (lastB K 255) (ladS u K 255)).z2) := rfl
      have HDEF := Lib.hid hdef
      have hsl := swp_lt (b := lastB K 255) hls
      generalize lastB K 255 = lb at *
      generalize ladS u K 255 = s at *
      obtain ⟨R, hRR⟩ : ∃ R, R = swp lb s := ⟨_, rfl⟩
      rw [← hRR] at HDEF hsl
      clear hdef
      go_upto_if 40 with fail
      go_cut [] (fun wx => (∃ s' : LS, s'.x2 = R.x2 ∧ s'.z2 = R.z2 ∧ WAt wx g7 u s') ∧ Arr wx (w.heap.size + 2) 22 zr ∧ Below w.heap.size w wx ∧ w.heap.size + 3 ≤ wx.heap.size)
      case first =>
        obtain ⟨a, b2, c, d⟩ := s
        have hsz : w.heap.size + 3 ≤ wr.heap.size := by have := hW.lt; omega
        by_cases hlb1 : lb = 1
        · subst hlb1
          go_wp2_with (first | (refine wpList_load_mid rfl 56 (.tmp 41) rfl g7 48 rfl (u64s (dig 16 c)) _ hW.r3 n_und rfl (n_len c) ?_) | (refine wpList_load_mid rfl 56 (.tmp 43) rfl g7 64 rfl (u64s (dig 16 d)) _ hW.r4 n_und rfl (n_len d) ?_) | (refine wpList_storeW1 rfl (.tmp 45) (.tmp 42) rfl g7 u a b2 c d c rfl rfl hW ?_; intro w3 h3 g3) | (refine wpList_storeW2 rfl (.tmp 46) (.tmp 44) rfl g7 u c b2 c d d rfl rfl h3 ?_; intro w4 h4 g4))
          go_meet
          have gg := grown_trans' g3 g4
          exact ⟨⟨⟨c, d, c, d⟩, by rw [hRR]; rfl, by rw [hRR]; rfl, h4⟩, hR.kept gg (by omega), bkept hb gg (by omega) hb.size, Nat.le_trans hsz gg.size⟩
        · have d1 : ((lb : Int) == 1) = false := by rw [beq_eq_false_iff_ne]; omega
          go_wp2_with fail
          go_meet
          exact ⟨⟨⟨a, b2, c, d⟩, by rw [hRR]; unfold swp; rw [if_neg hlb1], by rw [hRR]; unfold swp; rw [if_neg hlb1], hW⟩, hR, hb, hsz⟩
      clear hW m_g5 hR hb hls hRR
      obtain ⟨⟨s', hx2, hz2, hW⟩, hR, hb, hsz⟩ := hcut
      obtain ⟨a, b2, c, d⟩ := s'
      simp only at hx2 hz2
      subst hx2 hz2
      have hx := Lib.hid hsl.x2
      have hz := Lib.hid hsl.z2
      go_wp2_with fail
      refine wp_region_held_drew (S := fun w' => GH wc w' (w.heap.size + 2) 32 22) (by kernel_rfl) (GH.start hR hzr) (fun hH => ?_)
      refine wpAnyH_take (i := 0) (v := ?_) rfl (by kernel_rfl) (by kernel_rfl) (by kernel_rfl) (fun _ _ _ h => h) (Or.inl ⟨by rfl, fun w' hSw => by go_simp; with_reducible rfl⟩) hH ?_
      simp only [Act.put, List.getElem_toArray, List.getElem_cons_succ, List.getElem_cons_zero, List.setIfInBounds_toArray, List.set_cons_zero, List.set_cons_succ]
      refine wpAnyH_take (i := 1) (v := _) rfl (by kernel_rfl) (by kernel_rfl) (by kernel_rfl) (fun _ _ _ h => h) (yieldsIf_load_mid (by rfl) _ _ rfl _ _ rfl _ _ (fun w' h => WAt.r1 (Arr.kept hW (GH.g h) (by omega))) n_und rfl (n_len R.x2)) hH ?_
      simp only [Act.put, List.getElem_toArray, List.getElem_cons_succ, List.getElem_cons_zero, List.setIfInBounds_toArray, List.set_cons_zero, List.set_cons_succ]
      refine wpAnyH_take (i := 2) (v := ?_) rfl (by kernel_rfl) (by kernel_rfl) (by kernel_rfl) (fun _ _ _ h => h) (Or.inl ⟨by rfl, fun w' hSw => by go_simp; with_reducible rfl⟩) hH ?_
      simp only [Act.put, List.getElem_toArray, List.getElem_cons_succ, List.getElem_cons_zero, List.setIfInBounds_toArray, List.set_cons_zero, List.set_cons_succ]
      refine wpAnyH_take (i := 3) (v := _) rfl (by kernel_rfl) (by kernel_rfl) (by kernel_rfl) (fun _ _ _ h => h) (yieldsIf_load_mid (by rfl) _ _ rfl _ _ rfl _ _ (fun w' h => WAt.r2 (Arr.kept hW (GH.g h) (by omega))) n_und rfl (n_len R.z2)) hH ?_
      simp only [Act.put, List.getElem_toArray, List.getElem_cons_succ, List.getElem_cons_zero, List.setIfInBounds_toArray, List.set_cons_zero, List.set_cons_succ]
      refine wpAnyH_ready (rs := [4]) (by kernel_rfl) (by simp) ?_
      refine AllReadyH.cons rfl (fun K hK => ?_) AllReadyH.nil
      try simp only [List.getElem_toArray, List.getElem_cons_succ, List.getElem_cons_zero]
      go_simp
      go_at_call 29
      refine (inv_any _ R.z2 hz.out).mono ?_
      rintro e y4 ⟨rfl, hb_y4⟩
      refine hK.out _ _ (hH.call hb_y4) (fun hH => ?_)
      clear hK K
      try simp only [Act.put, List.getElem_toArray, List.getElem_cons_succ, List.getElem_cons_zero, List.setIfInBounds_toArray, List.set_cons_zero, List.set_cons_succ]
      refine wpAnyH_ready (rs := [5]) (by kernel_rfl) (by simp) ?_
      refine AllReadyH.cons rfl (fun K hK => ?_) AllReadyH.nil
      try simp only [List.getElem_toArray, List.getElem_cons_succ, List.getElem_cons_zero]
      go_simp
      go_at_call 28
      refine (specMul_any _ R.x2 (invm R.z2) hx.out (n_lt (pw_lt _ _))).mono ?_
      rintro e y5 ⟨rfl, hb_y5⟩
      refine hK.out _ _ (hH.call hb_y5) (fun hH => ?_)
      clear hK K
      try simp only [Act.put, List.getElem_toArray, List.getElem_cons_succ, List.getElem_cons_zero, List.setIfInBounds_toArray, List.set_cons_zero, List.set_cons_succ]
      refine wpAnyH_ready (rs := [6]) (by kernel_rfl) (by simp) ?_
      refine AllReadyH.cons rfl (fun K hK => ?_) AllReadyH.nil
      try simp only [List.getElem_toArray, List.getElem_cons_succ, List.getElem_cons_zero]
      go_simp
      go_at_call 27
      refine (bytes_any _ (mulm R.x2 (invm R.z2))).mono ?_
      rintro e y6 ⟨rfl, hb_y6⟩
      refine hK.out _ _ (hH.call hb_y6) (fun hH => ?_)
      clear hK K
      try simp only [Act.put, List.getElem_toArray, List.getElem_cons_succ, List.getElem_cons_zero, List.setIfInBounds_toArray, List.set_cons_zero, List.set_cons_succ]
      refine wpAnyH_ready (rs := [7]) (by kernel_rfl) (by simp) ?_
      refine AllReadyH.cons rfl (fun K hK => ?_) AllReadyH.nil
      try simp only [List.getElem_toArray, List.getElem_cons_succ, List.getElem_cons_zero]
      refine wanted_step (by rfl) ?_
      refine step_store 22 (.tmp 4) (.tmp 53) rfl hH (u8s (leB (mulm R.x2 (invm R.z2)))) rfl rfl (by simp) b_size (u8s_oneCell _) ?_
      intro y9 hH hN_y9
      refine hK.out _ _ hH (fun hH => ?_)
      clear hK K
      refine wpAnyH_done (by kernel_rfl) ?_ _
      go_wp2_with fail
      rw [HDEF.out]
      exact ret_b rfl (w.heap.size + 2) _ (by simp) rfl hN_y9 rfl ⟨rfl, hH.below hb (by omega) (by omega)⟩

set_option maxRecDepth 100000 in
set_option maxHeartbeats 1000000 in
theorem public_any (w : World) (sec : List UInt8) (ls : sec.length = 32) :
    Calls Tryz.prog 7 #[bv sec] w fun e w' => e = .returned (bv (pubL sec)) ∧ Below w.heap.size w w' := by
  have hS0 : BAt (w.alloc (objB sec)) w.heap.size sec := arr_new w _ _
  have hR0 : BAt ((w.alloc (objB sec)).alloc (objB zerosB)) (w.heap.size + 1) zerosB := arr_new2 w _ _ _
  have hb : Below w.heap.size w ((w.alloc (objB sec)).alloc (objB zerosB)) := Below.alloc (below_alloc _ _) (below_alloc _ _).size _
  have hS : BAt ((w.alloc (objB sec)).alloc (objB zerosB)) w.heap.size sec := hS0.below (below_alloc _ _)
  have hm : numB (maskL ([9] ++ List.replicate 31 0)) = 9 := by kernel_rfl
  have hbv : bv ([9] ++ List.replicate 31 0) = .agg #[.int .u8 9, .int .u8 0, .int .u8 0, .int .u8 0, .int .u8 0, .int .u8 0, .int .u8 0, .int .u8 0, .int .u8 0, .int .u8 0, .int .u8 0, .int .u8 0, .int .u8 0, .int .u8 0, .int .u8 0, .int .u8 0, .int .u8 0, .int .u8 0, .int .u8 0, .int .u8 0, .int .u8 0, .int .u8 0, .int .u8 0, .int .u8 0, .int .u8 0, .int .u8 0, .int .u8 0, .int .u8 0, .int .u8 0, .int .u8 0, .int .u8 0, .int .u8 0] := by kernel_rfl
  have hx (w : World) := x25519_any w sec ([9] ++ List.replicate 31 0) ls (by simp) (by rw [hm]; decide)
  rw [hbv] at hx
  go_enter Tryz.func7, Tryz.ntmps7
  go_wp2_with (refine wpList_loadB rfl (.tmp 1) rfl w.heap.size sec ls rfl hS ?_)
  refine (hx _).mono ?_
  rintro e w1 ⟨rfl, hb1⟩
  rw [hm]
  have hR1 := hR0.below hb1
  have hbb := hb.trans (hb1.mono hb.size)
  go_wp2_with (refine wpList_storeB rfl (.tmp 2) (.tmp 5) rfl (w.heap.size + 1) (leB (ladR 9 (numB (clampL sec)))) zerosB (by simp) rfl rfl rfl hR1 ?_; intro w9 hN9 hg9)
  exact ret_b rfl (w.heap.size + 1) _ (by simp) rfl hN9 rfl ⟨rfl, bkept hbb hg9 (by omega) hbb.size⟩
end Go.Proofs.YthjminkkmljjhaaGreatDoor

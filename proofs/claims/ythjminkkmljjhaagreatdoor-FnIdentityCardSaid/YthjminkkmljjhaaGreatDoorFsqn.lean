/- The walk of feSquareN. Conditions: limbs below 2^52. (Printed by wip/gensqn.py.) -/
import Derived.Test.YthjminkkmljjhaaGreatDoorFsq
import Derived.Deep.QuietTactic
import Derived.BigQuiet
namespace Go.Proofs.YthjminkkmljjhaaGreatDoor
open Go.RowKit

/-- Squared n times. -/
def sqL : Nat → L5 → L5
  | 0, x => x
  | k + 1, x => wideL (colsSq (sqL k x))

set_option maxRecDepth 100000 in
set_option maxHeartbeats 8000000 in
theorem feSquareN_any (w : World) (v a n : Nat) (z x : L5) (hn : n < 9223372036854775807) (hv : FeAt w v z) (ha : FeAt w a x) (hx : x.l0 < 4503599627370496 ∧ x.l1 < 4503599627370496 ∧ x.l2 < 4503599627370496 ∧ x.l3 < 4503599627370496 ∧ x.l4 < 4503599627370496) :
    Calls Tryz.prog 100 #[.pointer (some ⟨v, 0, none⟩), .pointer (some ⟨a, 0, none⟩), .int .i64 (n : Int)] w fun e w' => e = .returned (.tuple #[]) ∧ FeAt w' v (sqL n x) ∧ w.grownBy w' (some v) := by
  obtain ⟨y0, y1, y2, y3, y4⟩ := x
  simp only at hx
  have ca0 : w.cell? ⟨a, 0, none⟩ = some (.int .u64 (y0 : Int)) := ha.c0
  have ca1 : w.cell? ⟨a, 1, none⟩ = some (.int .u64 (y1 : Int)) := ha.c1
  have ca2 : w.cell? ⟨a, 2, none⟩ = some (.int .u64 (y2 : Int)) := ha.c2
  have ca3 : w.cell? ⟨a, 3, none⟩ = some (.int .u64 (y3 : Int)) := ha.c3
  have ca4 : w.cell? ⟨a, 4, none⟩ = some (.int .u64 (y4 : Int)) := ha.c4
  have hv0 := hv.lt
  go_enter Tryz.func100, Tryz.ntmps100
  go_wp2
  go_loopw [6, 7, 8, 9, 10, 47] (fun s0 s1 s2 s3 s4 i wr => ∃ k x0 x1 x2 x3 x4 : Nat, k ≤ n ∧ i = .int .i64 k ∧ s0 = .int .u64 x0 ∧ s1 = .int .u64 x1 ∧ s2 = .int .u64 x2 ∧ s3 = .int .u64 x3 ∧ s4 = .int .u64 x4 ∧ Hid (sqL k ⟨y0, y1, y2, y3, y4⟩ = ⟨x0, x1, x2, x3, x4⟩) ∧ (x0 < 4503599627370496 ∧ x1 < 4503599627370496 ∧ x2 < 4503599627370496 ∧ x3 < 4503599627370496 ∧ x4 < 4503599627370496) ∧ Below w.heap.size w wr) (fun _ _ _ _ _ i _ => n - (intOf i).toNat)
  case atStart => exact ⟨0, y0, y1, y2, y3, y4, Nat.zero_le _, rfl, rfl, rfl, rfl, rfl, rfl, rfl, hx, Below.refl _ _⟩
  case round =>
   obtain ⟨k, x0, x1, x2, x3, x4, hk, rfl, rfl, rfl, rfl, rfl, rfl, HY, hxx, hbr⟩ := hrel
   clear ca0 ca1 ca2 ca3 ca4 hx
   obtain ⟨hx0, hx1, hx2, hx3, hx4⟩ := hxx
   have hvr : FeAt wr v z := (hbr.block v hv0).trans hv
   by_cases hlt : k < n
   · have hskip : True := trivial
     have hp00 : x0 * x0 < 20282409603651670423947251286016 := Nat.mul_lt_mul'' hx0 hx0
     have hp01 : x0 * x1 < 20282409603651670423947251286016 := Nat.mul_lt_mul'' hx0 hx1
     have hp02 : x0 * x2 < 20282409603651670423947251286016 := Nat.mul_lt_mul'' hx0 hx2
     have hp03 : x0 * x3 < 20282409603651670423947251286016 := Nat.mul_lt_mul'' hx0 hx3
     have hp04 : x0 * x4 < 20282409603651670423947251286016 := Nat.mul_lt_mul'' hx0 hx4
     have hp10 : x1 * x0 < 20282409603651670423947251286016 := Nat.mul_lt_mul'' hx1 hx0
     have hp11 : x1 * x1 < 20282409603651670423947251286016 := Nat.mul_lt_mul'' hx1 hx1
     have hp12 : x1 * x2 < 20282409603651670423947251286016 := Nat.mul_lt_mul'' hx1 hx2
     have hp13 : x1 * x3 < 20282409603651670423947251286016 := Nat.mul_lt_mul'' hx1 hx3
     have hp14 : x1 * x4 < 20282409603651670423947251286016 := Nat.mul_lt_mul'' hx1 hx4
     have hp20 : x2 * x0 < 20282409603651670423947251286016 := Nat.mul_lt_mul'' hx2 hx0
     have hp21 : x2 * x1 < 20282409603651670423947251286016 := Nat.mul_lt_mul'' hx2 hx1
     have hp22 : x2 * x2 < 20282409603651670423947251286016 := Nat.mul_lt_mul'' hx2 hx2
     have hp23 : x2 * x3 < 20282409603651670423947251286016 := Nat.mul_lt_mul'' hx2 hx3
     have hp24 : x2 * x4 < 20282409603651670423947251286016 := Nat.mul_lt_mul'' hx2 hx4
     have hp30 : x3 * x0 < 20282409603651670423947251286016 := Nat.mul_lt_mul'' hx3 hx0
     have hp31 : x3 * x1 < 20282409603651670423947251286016 := Nat.mul_lt_mul'' hx3 hx1
     have hp32 : x3 * x2 < 20282409603651670423947251286016 := Nat.mul_lt_mul'' hx3 hx2
     have hp33 : x3 * x3 < 20282409603651670423947251286016 := Nat.mul_lt_mul'' hx3 hx3
     have hp34 : x3 * x4 < 20282409603651670423947251286016 := Nat.mul_lt_mul'' hx3 hx4
     have hp40 : x4 * x0 < 20282409603651670423947251286016 := Nat.mul_lt_mul'' hx4 hx0
     have hp41 : x4 * x1 < 20282409603651670423947251286016 := Nat.mul_lt_mul'' hx4 hx1
     have hp42 : x4 * x2 < 20282409603651670423947251286016 := Nat.mul_lt_mul'' hx4 hx2
     have hp43 : x4 * x3 < 20282409603651670423947251286016 := Nat.mul_lt_mul'' hx4 hx3
     have hp44 : x4 * x4 < 20282409603651670423947251286016 := Nat.mul_lt_mul'' hx4 hx4
     obtain ⟨V00, hV00⟩ : ∃ V, V = x0 * x0 := ⟨_, rfl⟩
     have bV00 : V00 < 20282409603651670423947251286016 := by rw [hV00]; have := hp00; omega
     obtain ⟨V01, hV01⟩ : ∃ V, V = V00 + 19 * x1 * (2 * x4) := ⟨_, rfl⟩
     have bV01 : V01 < 791013974542415146533942800154624 := by rw [hV01]; have := hp14; rw [show 19 * x1 * (2 * x4) = 38 * (x1 * x4) from by grind]; omega
     obtain ⟨V02, hV02⟩ : ∃ V, V = V01 + 19 * x2 * (2 * x3) := ⟨_, rfl⟩
     have bV02 : V02 < 1561745539481178622643938349023232 := by rw [hV02]; have := hp23; rw [show 19 * x2 * (2 * x3) = 38 * (x2 * x3) from by grind]; omega
     obtain ⟨V10, hV10⟩ : ∃ V, V = 2 * x0 * x1 := ⟨_, rfl⟩
     have bV10 : V10 < 40564819207303340847894502572032 := by rw [hV10]; have := hp01; rw [Nat.mul_assoc]; omega
     obtain ⟨V11, hV11⟩ : ∃ V, V = V10 + 19 * x2 * (2 * x4) := ⟨_, rfl⟩
     have bV11 : V11 < 811296384146066816957890051440640 := by rw [hV11]; have := hp24; rw [show 19 * x2 * (2 * x4) = 38 * (x2 * x4) from by grind]; omega
     obtain ⟨V12, hV12⟩ : ∃ V, V = V11 + 19 * x3 * x3 := ⟨_, rfl⟩
     have bV12 : V12 < 1196662166615448555012887825874944 := by rw [hV12]; have := hp33; rw [Nat.mul_assoc]; omega
     obtain ⟨V20, hV20⟩ : ∃ V, V = 2 * x0 * x2 := ⟨_, rfl⟩
     have bV20 : V20 < 40564819207303340847894502572032 := by rw [hV20]; have := hp02; rw [Nat.mul_assoc]; omega
     obtain ⟨V21, hV21⟩ : ∃ V, V = V20 + x1 * x1 := ⟨_, rfl⟩
     have bV21 : V21 < 60847228810955011271841753858048 := by rw [hV21]; have := hp11; omega
     obtain ⟨V22, hV22⟩ : ∃ V, V = V21 + 19 * x3 * (2 * x4) := ⟨_, rfl⟩
     have bV22 : V22 < 831578793749718487381837302726656 := by rw [hV22]; have := hp34; rw [show 19 * x3 * (2 * x4) = 38 * (x3 * x4) from by grind]; omega
     obtain ⟨V30, hV30⟩ : ∃ V, V = 2 * x0 * x3 := ⟨_, rfl⟩
     have bV30 : V30 < 40564819207303340847894502572032 := by rw [hV30]; have := hp03; rw [Nat.mul_assoc]; omega
     obtain ⟨V31, hV31⟩ : ∃ V, V = V30 + 2 * x1 * x2 := ⟨_, rfl⟩
     have bV31 : V31 < 81129638414606681695789005144064 := by rw [hV31]; have := hp12; rw [Nat.mul_assoc]; omega
     obtain ⟨V32, hV32⟩ : ∃ V, V = V31 + 19 * x4 * x4 := ⟨_, rfl⟩
     have bV32 : V32 < 466495420883988419750786779578368 := by rw [hV32]; have := hp44; rw [Nat.mul_assoc]; omega
     obtain ⟨V40, hV40⟩ : ∃ V, V = 2 * x0 * x4 := ⟨_, rfl⟩
     have bV40 : V40 < 40564819207303340847894502572032 := by rw [hV40]; have := hp04; rw [Nat.mul_assoc]; omega
     obtain ⟨V41, hV41⟩ : ∃ V, V = V40 + 2 * x1 * x3 := ⟨_, rfl⟩
     have bV41 : V41 < 81129638414606681695789005144064 := by rw [hV41]; have := hp13; rw [Nat.mul_assoc]; omega
     obtain ⟨V42, hV42⟩ : ∃ V, V = V41 + x2 * x2 := ⟨_, rfl⟩
     have bV42 : V42 < 101412048018258352119736256430080 := by rw [hV42]; have := hp22; omega
     clear hp00
     clear hp01
     clear hp02
     clear hp03
     clear hp04
     clear hp10
     clear hp11
     clear hp12
     clear hp13
     clear hp14
     clear hp20
     clear hp21
     clear hp22
     clear hp23
     clear hp24
     clear hp30
     clear hp31
     clear hp32
     clear hp33
     clear hp34
     clear hp40
     clear hp41
     clear hp42
     clear hp43
     clear hp44
     have HV00 := Lib.hid hV00; clear hV00
     have BV00 := Lib.hid bV00; clear bV00
     have HV01 := Lib.hid hV01; clear hV01
     have BV01 := Lib.hid bV01; clear bV01
     have HV02 := Lib.hid hV02; clear hV02
     have BV02 := Lib.hid bV02; clear bV02
     have HV10 := Lib.hid hV10; clear hV10
     have BV10 := Lib.hid bV10; clear bV10
     have HV11 := Lib.hid hV11; clear hV11
     have BV11 := Lib.hid bV11; clear bV11
     have HV12 := Lib.hid hV12; clear hV12
     have BV12 := Lib.hid bV12; clear bV12
     have HV20 := Lib.hid hV20; clear hV20
     have BV20 := Lib.hid bV20; clear bV20
     have HV21 := Lib.hid hV21; clear hV21
     have BV21 := Lib.hid bV21; clear bV21
     have HV22 := Lib.hid hV22; clear hV22
     have BV22 := Lib.hid bV22; clear bV22
     have HV30 := Lib.hid hV30; clear hV30
     have BV30 := Lib.hid bV30; clear bV30
     have HV31 := Lib.hid hV31; clear hV31
     have BV31 := Lib.hid bV31; clear bV31
     have HV32 := Lib.hid hV32; clear hV32
     have BV32 := Lib.hid bV32; clear bV32
     have HV40 := Lib.hid hV40; clear hV40
     have BV40 := Lib.hid bV40; clear bV40
     have HV41 := Lib.hid hV41; clear hV41
     have BV41 := Lib.hid bV41; clear bV41
     have HV42 := Lib.hid hV42; clear hV42
     have BV42 := Lib.hid bV42; clear bV42
     have HX : Hid (x0 < 4503599627370496 ∧ x1 < 4503599627370496 ∧ x2 < 4503599627370496 ∧ x3 < 4503599627370496 ∧ x4 < 4503599627370496) := ⟨hx0, hx1, hx2, hx3, hx4⟩
     go_wp2_with fail
     refine (mul_any _ x0 x0 (by have := HX.out; omega) (by have := HX.out; omega)).mono ?_
     rintro e w0 ⟨rfl, hb0⟩
     rw [← HV00.out]
     have bb0 : Below w.heap.size w w0 := hbr.trans (hb0.mono hbr.size)
     have rn0 : RegAt (w0.alloc (.cells #[.int .u64 0, .int .u64 0] 141)) w0.heap.size 0 := reg_new w0
     have hgw0 : w.heap.size ≤ w0.heap.size := bb0.size
     go_wp2_with (first | (refine wpList_storeU rfl (.tmp 11) (.tmp 51) rfl w0.heap.size V00 0 rfl rfl rn0 ?_; intro ws0 R0s0 gr0) | (refine wpList_loadU rfl (.tmp 11) rfl w0.heap.size V00 rfl R0s0 ?_))
     have bs0 : Below w.heap.size w ws0 := below_kept (bb0.alloc bb0.size _) gr0 hgw0 (by have := bb0.size; simp; omega)
     refine (addMul38_any _ V00 x1 x4 (by have := HX.out; omega) (by have := HX.out; omega) (by rw [← HV01.out]; have := BV01.out; omega)).mono ?_
     rintro e w1 ⟨rfl, hb1⟩
     rw [← HV01.out]
     have bb1 : Below w.heap.size w w1 := bs0.trans (hb1.mono bs0.size)
     have R0c1 := R0s0.below hb1
     go_wp2_with (first | (refine wpList_storeU rfl (.tmp 11) (.tmp 55) rfl w0.heap.size V01 V00 rfl rfl R0c1 ?_; intro ws1 R0s1 gr1) | (refine wpList_loadU rfl (.tmp 11) rfl w0.heap.size V01 rfl R0s1 ?_))
     have bs1 : Below w.heap.size w ws1 := below_kept bb1 gr1 hgw0 bb1.size
     refine (addMul38_any _ V01 x2 x3 (by have := HX.out; omega) (by have := HX.out; omega) (by rw [← HV02.out]; have := BV02.out; omega)).mono ?_
     rintro e w2 ⟨rfl, hb2⟩
     rw [← HV02.out]
     have bb2 : Below w.heap.size w w2 := bs1.trans (hb2.mono bs1.size)
     have R0c2 := R0s1.below hb2
     go_wp2_with (first | (refine wpList_storeU rfl (.tmp 11) (.tmp 59) rfl w0.heap.size V02 V01 rfl rfl R0c2 ?_; intro ws2 R0s2 gr2))
     have bs2 : Below w.heap.size w ws2 := below_kept bb2 gr2 hgw0 bb2.size
     rw [show (x0 : Int) * 2 = ((2 * x0 : Nat) : Int) from by omega]
     refine (mul_any _ (2 * x0) x1 (by have := HX.out; omega) (by have := HX.out; omega)).mono ?_
     rintro e w3 ⟨rfl, hb3⟩
     rw [← HV10.out]
     have bb3 : Below w.heap.size w w3 := bs2.trans (hb3.mono bs2.size)
     have R0n3 := R0s2.below hb3
     have rn1 : RegAt (w3.alloc (.cells #[.int .u64 0, .int .u64 0] 141)) w3.heap.size 0 := reg_new w3
     have hgw1 : w.heap.size ≤ w3.heap.size := bb3.size
     have hne01 : w0.heap.size ≠ w3.heap.size := by have := R0n3.lt; omega
     go_wp2_with (first | (refine wpList_storeU rfl (.tmp 12) (.tmp 63) rfl w3.heap.size V10 0 rfl rfl rn1 ?_; intro ws3 R1s0 gr3) | (refine wpList_loadU rfl (.tmp 12) rfl w3.heap.size V10 rfl R1s0 ?_))
     have bs3 : Below w.heap.size w ws3 := below_kept (bb3.alloc bb3.size _) gr3 hgw1 (by have := bb3.size; simp; omega)
     have R0m3 := (R0n3.below (Below.alloc (Below.refl _ _) (Nat.le_refl _) (.cells #[.int .u64 0, .int .u64 0] 141))).kept gr3 hne01
     refine (addMul38_any _ V10 x2 x4 (by have := HX.out; omega) (by have := HX.out; omega) (by rw [← HV11.out]; have := BV11.out; omega)).mono ?_
     rintro e w4 ⟨rfl, hb4⟩
     rw [← HV11.out]
     have bb4 : Below w.heap.size w w4 := bs3.trans (hb4.mono bs3.size)
     have R0n4 := R0m3.below hb4
     have R1c1 := R1s0.below hb4
     go_wp2_with (first | (refine wpList_storeU rfl (.tmp 12) (.tmp 67) rfl w3.heap.size V11 V10 rfl rfl R1c1 ?_; intro ws4 R1s1 gr4) | (refine wpList_loadU rfl (.tmp 12) rfl w3.heap.size V11 rfl R1s1 ?_))
     have bs4 : Below w.heap.size w ws4 := below_kept bb4 gr4 hgw1 bb4.size
     have R0m4 := R0n4.kept gr4 hne01
     refine (addMul19_any _ V11 x3 x3 (by have := HX.out; omega) (by have := HX.out; omega) (by rw [← HV12.out]; have := BV12.out; omega)).mono ?_
     rintro e w5 ⟨rfl, hb5⟩
     rw [← HV12.out]
     have bb5 : Below w.heap.size w w5 := bs4.trans (hb5.mono bs4.size)
     have R0n5 := R0m4.below hb5
     have R1c2 := R1s1.below hb5
     go_wp2_with (first | (refine wpList_storeU rfl (.tmp 12) (.tmp 71) rfl w3.heap.size V12 V11 rfl rfl R1c2 ?_; intro ws5 R1s2 gr5))
     have bs5 : Below w.heap.size w ws5 := below_kept bb5 gr5 hgw1 bb5.size
     have R0m5 := R0n5.kept gr5 hne01
     rw [show (x0 : Int) * 2 = ((2 * x0 : Nat) : Int) from by omega]
     refine (mul_any _ (2 * x0) x2 (by have := HX.out; omega) (by have := HX.out; omega)).mono ?_
     rintro e w6 ⟨rfl, hb6⟩
     rw [← HV20.out]
     have bb6 : Below w.heap.size w w6 := bs5.trans (hb6.mono bs5.size)
     have R0n6 := R0m5.below hb6
     have R1n6 := R1s2.below hb6
     have rn2 : RegAt (w6.alloc (.cells #[.int .u64 0, .int .u64 0] 141)) w6.heap.size 0 := reg_new w6
     have hgw2 : w.heap.size ≤ w6.heap.size := bb6.size
     have hne02 : w0.heap.size ≠ w6.heap.size := by have := R0n6.lt; omega
     have hne12 : w3.heap.size ≠ w6.heap.size := by have := R1n6.lt; omega
     go_wp2_with (first | (refine wpList_storeU rfl (.tmp 13) (.tmp 75) rfl w6.heap.size V20 0 rfl rfl rn2 ?_; intro ws6 R2s0 gr6) | (refine wpList_loadU rfl (.tmp 13) rfl w6.heap.size V20 rfl R2s0 ?_))
     have bs6 : Below w.heap.size w ws6 := below_kept (bb6.alloc bb6.size _) gr6 hgw2 (by have := bb6.size; simp; omega)
     have R0m6 := (R0n6.below (Below.alloc (Below.refl _ _) (Nat.le_refl _) (.cells #[.int .u64 0, .int .u64 0] 141))).kept gr6 hne02
     have R1m6 := (R1n6.below (Below.alloc (Below.refl _ _) (Nat.le_refl _) (.cells #[.int .u64 0, .int .u64 0] 141))).kept gr6 hne12
     refine (addMul_any _ V20 x1 x1 (by have := HX.out; omega) (by have := HX.out; omega) (by rw [← HV21.out]; have := BV21.out; omega)).mono ?_
     rintro e w7 ⟨rfl, hb7⟩
     rw [← HV21.out]
     have bb7 : Below w.heap.size w w7 := bs6.trans (hb7.mono bs6.size)
     have R0n7 := R0m6.below hb7
     have R1n7 := R1m6.below hb7
     have R2c1 := R2s0.below hb7
     go_wp2_with (first | (refine wpList_storeU rfl (.tmp 13) (.tmp 79) rfl w6.heap.size V21 V20 rfl rfl R2c1 ?_; intro ws7 R2s1 gr7) | (refine wpList_loadU rfl (.tmp 13) rfl w6.heap.size V21 rfl R2s1 ?_))
     have bs7 : Below w.heap.size w ws7 := below_kept bb7 gr7 hgw2 bb7.size
     have R0m7 := R0n7.kept gr7 hne02
     have R1m7 := R1n7.kept gr7 hne12
     refine (addMul38_any _ V21 x3 x4 (by have := HX.out; omega) (by have := HX.out; omega) (by rw [← HV22.out]; have := BV22.out; omega)).mono ?_
     rintro e w8 ⟨rfl, hb8⟩
     rw [← HV22.out]
     have bb8 : Below w.heap.size w w8 := bs7.trans (hb8.mono bs7.size)
     have R0n8 := R0m7.below hb8
     have R1n8 := R1m7.below hb8
     have R2c2 := R2s1.below hb8
     go_wp2_with (first | (refine wpList_storeU rfl (.tmp 13) (.tmp 83) rfl w6.heap.size V22 V21 rfl rfl R2c2 ?_; intro ws8 R2s2 gr8))
     have bs8 : Below w.heap.size w ws8 := below_kept bb8 gr8 hgw2 bb8.size
     have R0m8 := R0n8.kept gr8 hne02
     have R1m8 := R1n8.kept gr8 hne12
     rw [show (x0 : Int) * 2 = ((2 * x0 : Nat) : Int) from by omega]
     refine (mul_any _ (2 * x0) x3 (by have := HX.out; omega) (by have := HX.out; omega)).mono ?_
     rintro e w9 ⟨rfl, hb9⟩
     rw [← HV30.out]
     have bb9 : Below w.heap.size w w9 := bs8.trans (hb9.mono bs8.size)
     have R0n9 := R0m8.below hb9
     have R1n9 := R1m8.below hb9
     have R2n9 := R2s2.below hb9
     have rn3 : RegAt (w9.alloc (.cells #[.int .u64 0, .int .u64 0] 141)) w9.heap.size 0 := reg_new w9
     have hgw3 : w.heap.size ≤ w9.heap.size := bb9.size
     have hne03 : w0.heap.size ≠ w9.heap.size := by have := R0n9.lt; omega
     have hne13 : w3.heap.size ≠ w9.heap.size := by have := R1n9.lt; omega
     have hne23 : w6.heap.size ≠ w9.heap.size := by have := R2n9.lt; omega
     go_wp2_with (first | (refine wpList_storeU rfl (.tmp 14) (.tmp 87) rfl w9.heap.size V30 0 rfl rfl rn3 ?_; intro ws9 R3s0 gr9) | (refine wpList_loadU rfl (.tmp 14) rfl w9.heap.size V30 rfl R3s0 ?_))
     have bs9 : Below w.heap.size w ws9 := below_kept (bb9.alloc bb9.size _) gr9 hgw3 (by have := bb9.size; simp; omega)
     have R0m9 := (R0n9.below (Below.alloc (Below.refl _ _) (Nat.le_refl _) (.cells #[.int .u64 0, .int .u64 0] 141))).kept gr9 hne03
     have R1m9 := (R1n9.below (Below.alloc (Below.refl _ _) (Nat.le_refl _) (.cells #[.int .u64 0, .int .u64 0] 141))).kept gr9 hne13
     have R2m9 := (R2n9.below (Below.alloc (Below.refl _ _) (Nat.le_refl _) (.cells #[.int .u64 0, .int .u64 0] 141))).kept gr9 hne23
     rw [show (x1 : Int) * 2 = ((2 * x1 : Nat) : Int) from by omega]
     refine (addMul_any _ V30 (2 * x1) x2 (by have := HX.out; omega) (by have := HX.out; omega) (by rw [← HV31.out]; have := BV31.out; omega)).mono ?_
     rintro e w10 ⟨rfl, hb10⟩
     rw [← HV31.out]
     have bb10 : Below w.heap.size w w10 := bs9.trans (hb10.mono bs9.size)
     have R0n10 := R0m9.below hb10
     have R1n10 := R1m9.below hb10
     have R2n10 := R2m9.below hb10
     have R3c1 := R3s0.below hb10
     go_wp2_with (first | (refine wpList_storeU rfl (.tmp 14) (.tmp 92) rfl w9.heap.size V31 V30 rfl rfl R3c1 ?_; intro ws10 R3s1 gr10) | (refine wpList_loadU rfl (.tmp 14) rfl w9.heap.size V31 rfl R3s1 ?_))
     have bs10 : Below w.heap.size w ws10 := below_kept bb10 gr10 hgw3 bb10.size
     have R0m10 := R0n10.kept gr10 hne03
     have R1m10 := R1n10.kept gr10 hne13
     have R2m10 := R2n10.kept gr10 hne23
     refine (addMul19_any _ V31 x4 x4 (by have := HX.out; omega) (by have := HX.out; omega) (by rw [← HV32.out]; have := BV32.out; omega)).mono ?_
     rintro e w11 ⟨rfl, hb11⟩
     rw [← HV32.out]
     have bb11 : Below w.heap.size w w11 := bs10.trans (hb11.mono bs10.size)
     have R0n11 := R0m10.below hb11
     have R1n11 := R1m10.below hb11
     have R2n11 := R2m10.below hb11
     have R3c2 := R3s1.below hb11
     go_wp2_with (first | (refine wpList_storeU rfl (.tmp 14) (.tmp 96) rfl w9.heap.size V32 V31 rfl rfl R3c2 ?_; intro ws11 R3s2 gr11))
     have bs11 : Below w.heap.size w ws11 := below_kept bb11 gr11 hgw3 bb11.size
     have R0m11 := R0n11.kept gr11 hne03
     have R1m11 := R1n11.kept gr11 hne13
     have R2m11 := R2n11.kept gr11 hne23
     rw [show (x0 : Int) * 2 = ((2 * x0 : Nat) : Int) from by omega]
     refine (mul_any _ (2 * x0) x4 (by have := HX.out; omega) (by have := HX.out; omega)).mono ?_
     rintro e w12 ⟨rfl, hb12⟩
     rw [← HV40.out]
     have bb12 : Below w.heap.size w w12 := bs11.trans (hb12.mono bs11.size)
     have R0n12 := R0m11.below hb12
     have R1n12 := R1m11.below hb12
     have R2n12 := R2m11.below hb12
     have R3n12 := R3s2.below hb12
     have rn4 : RegAt (w12.alloc (.cells #[.int .u64 0, .int .u64 0] 141)) w12.heap.size 0 := reg_new w12
     have hgw4 : w.heap.size ≤ w12.heap.size := bb12.size
     have hne04 : w0.heap.size ≠ w12.heap.size := by have := R0n12.lt; omega
     have hne14 : w3.heap.size ≠ w12.heap.size := by have := R1n12.lt; omega
     have hne24 : w6.heap.size ≠ w12.heap.size := by have := R2n12.lt; omega
     have hne34 : w9.heap.size ≠ w12.heap.size := by have := R3n12.lt; omega
     go_wp2_with (first | (refine wpList_storeU rfl (.tmp 15) (.tmp 100) rfl w12.heap.size V40 0 rfl rfl rn4 ?_; intro ws12 R4s0 gr12) | (refine wpList_loadU rfl (.tmp 15) rfl w12.heap.size V40 rfl R4s0 ?_))
     have bs12 : Below w.heap.size w ws12 := below_kept (bb12.alloc bb12.size _) gr12 hgw4 (by have := bb12.size; simp; omega)
     have R0m12 := (R0n12.below (Below.alloc (Below.refl _ _) (Nat.le_refl _) (.cells #[.int .u64 0, .int .u64 0] 141))).kept gr12 hne04
     have R1m12 := (R1n12.below (Below.alloc (Below.refl _ _) (Nat.le_refl _) (.cells #[.int .u64 0, .int .u64 0] 141))).kept gr12 hne14
     have R2m12 := (R2n12.below (Below.alloc (Below.refl _ _) (Nat.le_refl _) (.cells #[.int .u64 0, .int .u64 0] 141))).kept gr12 hne24
     have R3m12 := (R3n12.below (Below.alloc (Below.refl _ _) (Nat.le_refl _) (.cells #[.int .u64 0, .int .u64 0] 141))).kept gr12 hne34
     rw [show (x1 : Int) * 2 = ((2 * x1 : Nat) : Int) from by omega]
     refine (addMul_any _ V40 (2 * x1) x3 (by have := HX.out; omega) (by have := HX.out; omega) (by rw [← HV41.out]; have := BV41.out; omega)).mono ?_
     rintro e w13 ⟨rfl, hb13⟩
     rw [← HV41.out]
     have bb13 : Below w.heap.size w w13 := bs12.trans (hb13.mono bs12.size)
     have R0n13 := R0m12.below hb13
     have R1n13 := R1m12.below hb13
     have R2n13 := R2m12.below hb13
     have R3n13 := R3m12.below hb13
     have R4c1 := R4s0.below hb13
     go_wp2_with (first | (refine wpList_storeU rfl (.tmp 15) (.tmp 105) rfl w12.heap.size V41 V40 rfl rfl R4c1 ?_; intro ws13 R4s1 gr13) | (refine wpList_loadU rfl (.tmp 15) rfl w12.heap.size V41 rfl R4s1 ?_))
     have bs13 : Below w.heap.size w ws13 := below_kept bb13 gr13 hgw4 bb13.size
     have R0m13 := R0n13.kept gr13 hne04
     have R1m13 := R1n13.kept gr13 hne14
     have R2m13 := R2n13.kept gr13 hne24
     have R3m13 := R3n13.kept gr13 hne34
     refine (addMul_any _ V41 x2 x2 (by have := HX.out; omega) (by have := HX.out; omega) (by rw [← HV42.out]; have := BV42.out; omega)).mono ?_
     rintro e w14 ⟨rfl, hb14⟩
     rw [← HV42.out]
     have bb14 : Below w.heap.size w w14 := bs13.trans (hb14.mono bs13.size)
     have R0n14 := R0m13.below hb14
     have R1n14 := R1m13.below hb14
     have R2n14 := R2m13.below hb14
     have R3n14 := R3m13.below hb14
     have R4c2 := R4s1.below hb14
     go_wp2_with (first | (refine wpList_storeU rfl (.tmp 15) (.tmp 109) rfl w12.heap.size V42 V41 rfl rfl R4c2 ?_; intro ws14 R4s2 gr14) | (refine wpList_loadU rfl (.tmp 11) rfl w0.heap.size V02 rfl (R0n14.kept gr14 hne04) ?_))
     have bs14 : Below w.heap.size w ws14 := below_kept bb14 gr14 hgw4 bb14.size
     have R0m14 := R0n14.kept gr14 hne04
     have R1m14 := R1n14.kept gr14 hne14
     have R2m14 := R2n14.kept gr14 hne24
     have R3m14 := R3n14.kept gr14 hne34
     refine (shr51_any _ V02 (by have := BV02.out; omega)).mono ?_
     rintro e w15 ⟨rfl, hb15⟩
     obtain ⟨C0, hC0⟩ : ∃ C, C = V02 / 2251799813685248 := ⟨_, rfl⟩
     rw [← hC0]
     have HC0 := Lib.hid hC0; clear hC0
     have R0n15 := (R0m14).below hb15
     have R1n15 := (R1m14).below hb15
     have R2n15 := (R2m14).below hb15
     have R3n15 := (R3m14).below hb15
     have R4n15 := (R4s2).below hb15
     have bs15 : Below w.heap.size w w15 := bs14.trans (hb15.mono bs14.size)
     go_wp2_with (first | (refine wpList_loadU rfl (.tmp 12) rfl w3.heap.size V12 rfl (R1n15) ?_))
     refine (shr51_any _ V12 (by have := BV12.out; omega)).mono ?_
     rintro e w16 ⟨rfl, hb16⟩
     obtain ⟨C1, hC1⟩ : ∃ C, C = V12 / 2251799813685248 := ⟨_, rfl⟩
     rw [← hC1]
     have HC1 := Lib.hid hC1; clear hC1
     have R0n16 := (R0n15).below hb16
     have R1n16 := (R1n15).below hb16
     have R2n16 := (R2n15).below hb16
     have R3n16 := (R3n15).below hb16
     have R4n16 := (R4n15).below hb16
     have bs16 : Below w.heap.size w w16 := bs15.trans (hb16.mono bs15.size)
     go_wp2_with (first | (refine wpList_loadU rfl (.tmp 13) rfl w6.heap.size V22 rfl (R2n16) ?_))
     refine (shr51_any _ V22 (by have := BV22.out; omega)).mono ?_
     rintro e w17 ⟨rfl, hb17⟩
     obtain ⟨C2, hC2⟩ : ∃ C, C = V22 / 2251799813685248 := ⟨_, rfl⟩
     rw [← hC2]
     have HC2 := Lib.hid hC2; clear hC2
     have R0n17 := (R0n16).below hb17
     have R1n17 := (R1n16).below hb17
     have R2n17 := (R2n16).below hb17
     have R3n17 := (R3n16).below hb17
     have R4n17 := (R4n16).below hb17
     have bs17 : Below w.heap.size w w17 := bs16.trans (hb17.mono bs16.size)
     go_wp2_with (first | (refine wpList_loadU rfl (.tmp 14) rfl w9.heap.size V32 rfl (R3n17) ?_))
     refine (shr51_any _ V32 (by have := BV32.out; omega)).mono ?_
     rintro e w18 ⟨rfl, hb18⟩
     obtain ⟨C3, hC3⟩ : ∃ C, C = V32 / 2251799813685248 := ⟨_, rfl⟩
     rw [← hC3]
     have HC3 := Lib.hid hC3; clear hC3
     have R0n18 := (R0n17).below hb18
     have R1n18 := (R1n17).below hb18
     have R2n18 := (R2n17).below hb18
     have R3n18 := (R3n17).below hb18
     have R4n18 := (R4n17).below hb18
     have bs18 : Below w.heap.size w w18 := bs17.trans (hb18.mono bs17.size)
     go_wp2_with (first | (refine wpList_loadU rfl (.tmp 15) rfl w12.heap.size V42 rfl (R4n18) ?_))
     refine (shr51_any _ V42 (by have := BV42.out; omega)).mono ?_
     rintro e w19 ⟨rfl, hb19⟩
     obtain ⟨C4, hC4⟩ : ∃ C, C = V42 / 2251799813685248 := ⟨_, rfl⟩
     rw [← hC4]
     have HC4 := Lib.hid hC4; clear hC4
     have R0n19 := (R0n18).below hb19
     have R1n19 := (R1n18).below hb19
     have R2n19 := (R2n18).below hb19
     have R3n19 := (R3n18).below hb19
     have R4n19 := (R4n18).below hb19
     have bs19 : Below w.heap.size w w19 := bs18.trans (hb19.mono bs18.size)
     obtain ⟨L0, hL0⟩ : ∃ L, L = V02 % 2251799813685248 := ⟨_, rfl⟩
     have cl0 : w19.cell? ⟨w0.heap.size, 0, none⟩ = some (.int .u64 ((V02 % 18446744073709551616 : Nat) : Int)) := by have h := R0n19; unfold RegAt at h; simp [World.cell?, h, ucells]
     obtain ⟨U0, hU0⟩ : ∃ U, U = V02 % 18446744073709551616 := ⟨_, rfl⟩
     rw [← hU0] at cl0
     have ea0 : bits BinOp.and IntKind.u64 (U0 : Int) 2251799813685247 = (L0 : Int) := by
       rw [show (2251799813685247 : Int) = ((2251799813685247 : Nat) : Int) from rfl, u64_and_nat _ _ (by omega) (by omega), Nat.and_two_pow_sub_one_eq_mod _ 51, hL0, hU0]; congr 1; omega
     have bL0 : L0 < 2251799813685248 := by omega
     have bC0 : C0 < 693554342615056384 := by have := HC0.out; have := BV02.out; omega
     have HL0 := Lib.hid hL0; clear hL0 hU0
     obtain ⟨L1, hL1⟩ : ∃ L, L = V12 % 2251799813685248 := ⟨_, rfl⟩
     have cl1 : w19.cell? ⟨w3.heap.size, 0, none⟩ = some (.int .u64 ((V12 % 18446744073709551616 : Nat) : Int)) := by have h := R1n19; unfold RegAt at h; simp [World.cell?, h, ucells]
     obtain ⟨U1, hU1⟩ : ∃ U, U = V12 % 18446744073709551616 := ⟨_, rfl⟩
     rw [← hU1] at cl1
     have ea1 : bits BinOp.and IntKind.u64 (U1 : Int) 2251799813685247 = (L1 : Int) := by
       rw [show (2251799813685247 : Int) = ((2251799813685247 : Nat) : Int) from rfl, u64_and_nat _ _ (by omega) (by omega), Nat.and_two_pow_sub_one_eq_mod _ 51, hL1, hU1]; congr 1; omega
     have bL1 : L1 < 2251799813685248 := by omega
     have bC1 : C1 < 531424756029718528 := by have := HC1.out; have := BV12.out; omega
     have HL1 := Lib.hid hL1; clear hL1 hU1
     obtain ⟨L2, hL2⟩ : ∃ L, L = V22 % 2251799813685248 := ⟨_, rfl⟩
     have cl2 : w19.cell? ⟨w6.heap.size, 0, none⟩ = some (.int .u64 ((V22 % 18446744073709551616 : Nat) : Int)) := by have h := R2n19; unfold RegAt at h; simp [World.cell?, h, ucells]
     obtain ⟨U2, hU2⟩ : ∃ U, U = V22 % 18446744073709551616 := ⟨_, rfl⟩
     rw [← hU2] at cl2
     have ea2 : bits BinOp.and IntKind.u64 (U2 : Int) 2251799813685247 = (L2 : Int) := by
       rw [show (2251799813685247 : Int) = ((2251799813685247 : Nat) : Int) from rfl, u64_and_nat _ _ (by omega) (by omega), Nat.and_two_pow_sub_one_eq_mod _ 51, hL2, hU2]; congr 1; omega
     have bL2 : L2 < 2251799813685248 := by omega
     have bC2 : C2 < 369295169444380672 := by have := HC2.out; have := BV22.out; omega
     have HL2 := Lib.hid hL2; clear hL2 hU2
     obtain ⟨L3, hL3⟩ : ∃ L, L = V32 % 2251799813685248 := ⟨_, rfl⟩
     have cl3 : w19.cell? ⟨w9.heap.size, 0, none⟩ = some (.int .u64 ((V32 % 18446744073709551616 : Nat) : Int)) := by have h := R3n19; unfold RegAt at h; simp [World.cell?, h, ucells]
     obtain ⟨U3, hU3⟩ : ∃ U, U = V32 % 18446744073709551616 := ⟨_, rfl⟩
     rw [← hU3] at cl3
     have ea3 : bits BinOp.and IntKind.u64 (U3 : Int) 2251799813685247 = (L3 : Int) := by
       rw [show (2251799813685247 : Int) = ((2251799813685247 : Nat) : Int) from rfl, u64_and_nat _ _ (by omega) (by omega), Nat.and_two_pow_sub_one_eq_mod _ 51, hL3, hU3]; congr 1; omega
     have bL3 : L3 < 2251799813685248 := by omega
     have bC3 : C3 < 207165582859042816 := by have := HC3.out; have := BV32.out; omega
     have HL3 := Lib.hid hL3; clear hL3 hU3
     obtain ⟨L4, hL4⟩ : ∃ L, L = V42 % 2251799813685248 := ⟨_, rfl⟩
     have cl4 : w19.cell? ⟨w12.heap.size, 0, none⟩ = some (.int .u64 ((V42 % 18446744073709551616 : Nat) : Int)) := by have h := R4n19; unfold RegAt at h; simp [World.cell?, h, ucells]
     obtain ⟨U4, hU4⟩ : ∃ U, U = V42 % 18446744073709551616 := ⟨_, rfl⟩
     rw [← hU4] at cl4
     have ea4 : bits BinOp.and IntKind.u64 (U4 : Int) 2251799813685247 = (L4 : Int) := by
       rw [show (2251799813685247 : Int) = ((2251799813685247 : Nat) : Int) from rfl, u64_and_nat _ _ (by omega) (by omega), Nat.and_two_pow_sub_one_eq_mod _ 51, hL4, hU4]; congr 1; omega
     have bL4 : L4 < 2251799813685248 := by omega
     have bC4 : C4 < 45035996273704960 := by have := HC4.out; have := BV42.out; omega
     have HL4 := Lib.hid hL4; clear hL4 hU4
     obtain ⟨P0, hP0⟩ : ∃ P, P = (L0 + 19 * C4) % 2251799813685248 := ⟨_, rfl⟩
     obtain ⟨Q0, hQ0⟩ : ∃ Q, Q = (L0 + 19 * C4) / 2251799813685248 := ⟨_, rfl⟩
     have eb0 : bits BinOp.and IntKind.u64 ((L0 : Int) + 19 * (C4 : Int)) 2251799813685247 = (P0 : Int) := by
       rw [show (L0 : Int) + 19 * (C4 : Int) = ((L0 + 19 * C4 : Nat) : Int) from by omega, show (2251799813685247 : Int) = ((2251799813685247 : Nat) : Int) from rfl, u64_and_nat _ _ (by omega) (by omega), Nat.and_two_pow_sub_one_eq_mod _ 51, hP0]
     have ed0 : ((L0 : Int) + 19 * (C4 : Int)) / 2251799813685248 = (Q0 : Int) := by omega
     have bP0 : P0 < 2251799813685248 := by omega
     have bQ0 : Q0 < 1024 := by omega
     have HP0 := Lib.hid hP0; clear hP0
     have HQ0 := Lib.hid hQ0; clear hQ0
     obtain ⟨P1, hP1⟩ : ∃ P, P = (L1 + C0) % 2251799813685248 := ⟨_, rfl⟩
     obtain ⟨Q1, hQ1⟩ : ∃ Q, Q = (L1 + C0) / 2251799813685248 := ⟨_, rfl⟩
     have eb1 : bits BinOp.and IntKind.u64 ((L1 : Int) + (C0 : Int)) 2251799813685247 = (P1 : Int) := by
       rw [show (L1 : Int) + (C0 : Int) = ((L1 + C0 : Nat) : Int) from by omega, show (2251799813685247 : Int) = ((2251799813685247 : Nat) : Int) from rfl, u64_and_nat _ _ (by omega) (by omega), Nat.and_two_pow_sub_one_eq_mod _ 51, hP1]
     have ed1 : ((L1 : Int) + (C0 : Int)) / 2251799813685248 = (Q1 : Int) := by omega
     have bP1 : P1 < 2251799813685248 := by omega
     have bQ1 : Q1 < 1024 := by omega
     have HP1 := Lib.hid hP1; clear hP1
     have HQ1 := Lib.hid hQ1; clear hQ1
     obtain ⟨P2, hP2⟩ : ∃ P, P = (L2 + C1) % 2251799813685248 := ⟨_, rfl⟩
     obtain ⟨Q2, hQ2⟩ : ∃ Q, Q = (L2 + C1) / 2251799813685248 := ⟨_, rfl⟩
     have eb2 : bits BinOp.and IntKind.u64 ((L2 : Int) + (C1 : Int)) 2251799813685247 = (P2 : Int) := by
       rw [show (L2 : Int) + (C1 : Int) = ((L2 + C1 : Nat) : Int) from by omega, show (2251799813685247 : Int) = ((2251799813685247 : Nat) : Int) from rfl, u64_and_nat _ _ (by omega) (by omega), Nat.and_two_pow_sub_one_eq_mod _ 51, hP2]
     have ed2 : ((L2 : Int) + (C1 : Int)) / 2251799813685248 = (Q2 : Int) := by omega
     have bP2 : P2 < 2251799813685248 := by omega
     have bQ2 : Q2 < 1024 := by omega
     have HP2 := Lib.hid hP2; clear hP2
     have HQ2 := Lib.hid hQ2; clear hQ2
     obtain ⟨P3, hP3⟩ : ∃ P, P = (L3 + C2) % 2251799813685248 := ⟨_, rfl⟩
     obtain ⟨Q3, hQ3⟩ : ∃ Q, Q = (L3 + C2) / 2251799813685248 := ⟨_, rfl⟩
     have eb3 : bits BinOp.and IntKind.u64 ((L3 : Int) + (C2 : Int)) 2251799813685247 = (P3 : Int) := by
       rw [show (L3 : Int) + (C2 : Int) = ((L3 + C2 : Nat) : Int) from by omega, show (2251799813685247 : Int) = ((2251799813685247 : Nat) : Int) from rfl, u64_and_nat _ _ (by omega) (by omega), Nat.and_two_pow_sub_one_eq_mod _ 51, hP3]
     have ed3 : ((L3 : Int) + (C2 : Int)) / 2251799813685248 = (Q3 : Int) := by omega
     have bP3 : P3 < 2251799813685248 := by omega
     have bQ3 : Q3 < 1024 := by omega
     have HP3 := Lib.hid hP3; clear hP3
     have HQ3 := Lib.hid hQ3; clear hQ3
     obtain ⟨P4, hP4⟩ : ∃ P, P = (L4 + C3) % 2251799813685248 := ⟨_, rfl⟩
     obtain ⟨Q4, hQ4⟩ : ∃ Q, Q = (L4 + C3) / 2251799813685248 := ⟨_, rfl⟩
     have eb4 : bits BinOp.and IntKind.u64 ((L4 : Int) + (C3 : Int)) 2251799813685247 = (P4 : Int) := by
       rw [show (L4 : Int) + (C3 : Int) = ((L4 + C3 : Nat) : Int) from by omega, show (2251799813685247 : Int) = ((2251799813685247 : Nat) : Int) from rfl, u64_and_nat _ _ (by omega) (by omega), Nat.and_two_pow_sub_one_eq_mod _ 51, hP4]
     have ed4 : ((L4 : Int) + (C3 : Int)) / 2251799813685248 = (Q4 : Int) := by omega
     have bP4 : P4 < 2251799813685248 := by omega
     have bQ4 : Q4 < 1024 := by omega
     have HP4 := Lib.hid hP4; clear hP4
     have HQ4 := Lib.hid hQ4; clear hQ4
     have hw40 : IntKind.u64.wrap ((L0 : Int) + 19 * (C4 : Int)) = (L0 : Int) + 19 * (C4 : Int) := IntWalk.u64_in _ (by omega)
     go_wp2_with fail
     go_quiet (first | (go_at_call 92; refine Calls.quiet_of_same (mul19_any _ C4 (by omega))))
     go_wp2_with (go_at_call 92; refine (mul19_any _ Q4 (by omega)).mono ?_; rintro e wq ⟨rfl, hwq⟩; rw [hwq])
     go_roundw
     case rel => exact ⟨k + 1, P0 + 19 * Q4, P1 + Q0, P2 + Q1, P3 + Q2, P4 + Q3, by omega, by go_num, by go_num, by go_num, by go_num, by go_num, by go_num, by
       unfold Hid
       simp only [sqL, HY.out]
       simp only [wideL, carryL, colsSq, HP0.out, HQ0.out, HL0.out, HC0.out, HP1.out, HQ1.out, HL1.out, HC1.out, HP2.out, HQ2.out, HL2.out, HC2.out, HP3.out, HQ3.out, HL3.out, HC3.out, HP4.out, HQ4.out, HL4.out, HC4.out, HV02.out, HV01.out, HV00.out, HV12.out, HV11.out, HV10.out, HV22.out, HV21.out, HV20.out, HV32.out, HV31.out, HV30.out, HV42.out, HV41.out, HV40.out], by omega, ⟨bs19.os, bs19.tape, bs19.output, bs19.size, bs19.block⟩⟩
     case measure => simp [intOf]; omega
   · have hge : n ≤ k := by omega
     clear hlt
     have f0 := hvr.fr 0
     have f1 := hvr.fr 1
     have f2 := hvr.fr 2
     have f3 := hvr.fr 3
     have f4 := hvr.fr 4
     have cv0 : wr.cell? ⟨v, 0, none⟩ = some (.int .u64 (z.l0 : Int)) := hvr.c0
     have cv1 : wr.cell? ⟨v, 1, none⟩ = some (.int .u64 (z.l1 : Int)) := hvr.c1
     have cv2 : wr.cell? ⟨v, 2, none⟩ = some (.int .u64 (z.l2 : Int)) := hvr.c2
     have cv3 : wr.cell? ⟨v, 3, none⟩ = some (.int .u64 (z.l3 : Int)) := hvr.c3
     have cv4 : wr.cell? ⟨v, 4, none⟩ = some (.int .u64 (z.l4 : Int)) := hvr.c4
     go_wp2
     go_end0
     obtain rfl : k = n := by omega
     refine ⟨rfl, ?_, ?_⟩
     · rw [HY.out]
       exact ((((hvr.s0 x0).s1 x1).s2 x2).s3 x3).s4 x4
     · exact grown_set (grown_set (grown_set (grown_set (grown_set (show w.grownBy wr (some v) from ⟨hbr.os, hbr.tape, hbr.output, hbr.size, fun k hk _ => hbr.block k hk⟩) 0 _) 1 _) 2 _) 3 _) 4 _
end Go.Proofs.YthjminkkmljjhaaGreatDoor

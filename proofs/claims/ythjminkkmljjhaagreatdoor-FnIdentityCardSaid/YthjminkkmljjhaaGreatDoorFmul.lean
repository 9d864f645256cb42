/- The walk of feMulGeneric as far as its five columns. Conditions: limbs below 2^52. (Printed by wip/genmul.py.) -/
import Derived.Test.YthjminkkmljjhaaGreatDoorFu
import Derived.Deep.QuietTactic
import Derived.BigQuiet
namespace Go.Proofs.YthjminkkmljjhaaGreatDoor
open Go.RowKit

/-- The five columns of a product. -/
def colsMul (x y : L5) : L5 := ⟨x.l0 * y.l0 + 19 * x.l1 * y.l4 + 19 * x.l2 * y.l3 + 19 * x.l3 * y.l2 + 19 * x.l4 * y.l1,
  x.l0 * y.l1 + x.l1 * y.l0 + 19 * x.l2 * y.l4 + 19 * x.l3 * y.l3 + 19 * x.l4 * y.l2,
  x.l0 * y.l2 + x.l1 * y.l1 + x.l2 * y.l0 + 19 * x.l3 * y.l4 + 19 * x.l4 * y.l3,
  x.l0 * y.l3 + x.l1 * y.l2 + x.l2 * y.l1 + x.l3 * y.l0 + 19 * x.l4 * y.l4,
  x.l0 * y.l4 + x.l1 * y.l3 + x.l2 * y.l2 + x.l3 * y.l1 + x.l4 * y.l0⟩
/-- The carries of wide columns. -/
def wideL (V : L5) : L5 := carryL ⟨V.l0 % 2251799813685248 + 19 * (V.l4 / 2251799813685248), V.l1 % 2251799813685248 + V.l0 / 2251799813685248, V.l2 % 2251799813685248 + V.l1 / 2251799813685248, V.l3 % 2251799813685248 + V.l2 / 2251799813685248, V.l4 % 2251799813685248 + V.l3 / 2251799813685248⟩

set_option maxRecDepth 100000 in
set_option maxHeartbeats 8000000 in
theorem feMul_any (w : World) (v a b : Nat) (z x y : L5) (hv : FeAt w v z) (ha : FeAt w a x) (hb : FeAt w b y) (hx : x.l0 < 4503599627370496 ∧ x.l1 < 4503599627370496 ∧ x.l2 < 4503599627370496 ∧ x.l3 < 4503599627370496 ∧ x.l4 < 4503599627370496) (hy : y.l0 < 4503599627370496 ∧ y.l1 < 4503599627370496 ∧ y.l2 < 4503599627370496 ∧ y.l3 < 4503599627370496 ∧ y.l4 < 4503599627370496) :
    Calls Tryz.prog 93 #[.pointer (some ⟨v, 0, none⟩), .pointer (some ⟨a, 0, none⟩), .pointer (some ⟨b, 0, none⟩)] w fun e w' => e = .returned (.tuple #[]) ∧ FeAt w' v (wideL (colsMul x y)) ∧ w.grownBy w' (some v) := by
  obtain ⟨x0, x1, x2, x3, x4⟩ := x
  obtain ⟨y0, y1, y2, y3, y4⟩ := y
  simp only at hx hy
  obtain ⟨hx0, hx1, hx2, hx3, hx4⟩ := hx
  obtain ⟨hy0, hy1, hy2, hy3, hy4⟩ := hy
  have hp00 : x0 * y0 < 20282409603651670423947251286016 := Nat.mul_lt_mul'' hx0 hy0
  have hp01 : x0 * y1 < 20282409603651670423947251286016 := Nat.mul_lt_mul'' hx0 hy1
  have hp02 : x0 * y2 < 20282409603651670423947251286016 := Nat.mul_lt_mul'' hx0 hy2
  have hp03 : x0 * y3 < 20282409603651670423947251286016 := Nat.mul_lt_mul'' hx0 hy3
  have hp04 : x0 * y4 < 20282409603651670423947251286016 := Nat.mul_lt_mul'' hx0 hy4
  have hp10 : x1 * y0 < 20282409603651670423947251286016 := Nat.mul_lt_mul'' hx1 hy0
  have hp11 : x1 * y1 < 20282409603651670423947251286016 := Nat.mul_lt_mul'' hx1 hy1
  have hp12 : x1 * y2 < 20282409603651670423947251286016 := Nat.mul_lt_mul'' hx1 hy2
  have hp13 : x1 * y3 < 20282409603651670423947251286016 := Nat.mul_lt_mul'' hx1 hy3
  have hp14 : x1 * y4 < 20282409603651670423947251286016 := Nat.mul_lt_mul'' hx1 hy4
  have hp20 : x2 * y0 < 20282409603651670423947251286016 := Nat.mul_lt_mul'' hx2 hy0
  have hp21 : x2 * y1 < 20282409603651670423947251286016 := Nat.mul_lt_mul'' hx2 hy1
  have hp22 : x2 * y2 < 20282409603651670423947251286016 := Nat.mul_lt_mul'' hx2 hy2
  have hp23 : x2 * y3 < 20282409603651670423947251286016 := Nat.mul_lt_mul'' hx2 hy3
  have hp24 : x2 * y4 < 20282409603651670423947251286016 := Nat.mul_lt_mul'' hx2 hy4
  have hp30 : x3 * y0 < 20282409603651670423947251286016 := Nat.mul_lt_mul'' hx3 hy0
  have hp31 : x3 * y1 < 20282409603651670423947251286016 := Nat.mul_lt_mul'' hx3 hy1
  have hp32 : x3 * y2 < 20282409603651670423947251286016 := Nat.mul_lt_mul'' hx3 hy2
  have hp33 : x3 * y3 < 20282409603651670423947251286016 := Nat.mul_lt_mul'' hx3 hy3
  have hp34 : x3 * y4 < 20282409603651670423947251286016 := Nat.mul_lt_mul'' hx3 hy4
  have hp40 : x4 * y0 < 20282409603651670423947251286016 := Nat.mul_lt_mul'' hx4 hy0
  have hp41 : x4 * y1 < 20282409603651670423947251286016 := Nat.mul_lt_mul'' hx4 hy1
  have hp42 : x4 * y2 < 20282409603651670423947251286016 := Nat.mul_lt_mul'' hx4 hy2
  have hp43 : x4 * y3 < 20282409603651670423947251286016 := Nat.mul_lt_mul'' hx4 hy3
  have hp44 : x4 * y4 < 20282409603651670423947251286016 := Nat.mul_lt_mul'' hx4 hy4
  obtain ⟨V00, hV00⟩ : ∃ V, V = x0 * y0 := ⟨_, rfl⟩
  have bV00 : V00 < 20282409603651670423947251286016 := by rw [hV00]; exact hp00
  obtain ⟨V01, hV01⟩ : ∃ V, V = V00 + 19 * x1 * y4 := ⟨_, rfl⟩
  have bV01 : V01 < 405648192073033408478945025720320 := by rw [hV01]; have := hp14; rw [Nat.mul_assoc]; omega
  obtain ⟨V02, hV02⟩ : ∃ V, V = V01 + 19 * x2 * y3 := ⟨_, rfl⟩
  have bV02 : V02 < 791013974542415146533942800154624 := by rw [hV02]; have := hp23; rw [Nat.mul_assoc]; omega
  obtain ⟨V03, hV03⟩ : ∃ V, V = V02 + 19 * x3 * y2 := ⟨_, rfl⟩
  have bV03 : V03 < 1176379757011796884588940574588928 := by rw [hV03]; have := hp32; rw [Nat.mul_assoc]; omega
  obtain ⟨V04, hV04⟩ : ∃ V, V = V03 + 19 * x4 * y1 := ⟨_, rfl⟩
  have bV04 : V04 < 1561745539481178622643938349023232 := by rw [hV04]; have := hp41; rw [Nat.mul_assoc]; omega
  obtain ⟨V10, hV10⟩ : ∃ V, V = x0 * y1 := ⟨_, rfl⟩
  have bV10 : V10 < 20282409603651670423947251286016 := by rw [hV10]; exact hp01
  obtain ⟨V11, hV11⟩ : ∃ V, V = V10 + x1 * y0 := ⟨_, rfl⟩
  have bV11 : V11 < 40564819207303340847894502572032 := by rw [hV11]; have := hp10; omega
  obtain ⟨V12, hV12⟩ : ∃ V, V = V11 + 19 * x2 * y4 := ⟨_, rfl⟩
  have bV12 : V12 < 425930601676685078902892277006336 := by rw [hV12]; have := hp24; rw [Nat.mul_assoc]; omega
  obtain ⟨V13, hV13⟩ : ∃ V, V = V12 + 19 * x3 * y3 := ⟨_, rfl⟩
  have bV13 : V13 < 811296384146066816957890051440640 := by rw [hV13]; have := hp33; rw [Nat.mul_assoc]; omega
  obtain ⟨V14, hV14⟩ : ∃ V, V = V13 + 19 * x4 * y2 := ⟨_, rfl⟩
  have bV14 : V14 < 1196662166615448555012887825874944 := by rw [hV14]; have := hp42; rw [Nat.mul_assoc]; omega
  obtain ⟨V20, hV20⟩ : ∃ V, V = x0 * y2 := ⟨_, rfl⟩
  have bV20 : V20 < 20282409603651670423947251286016 := by rw [hV20]; exact hp02
  obtain ⟨V21, hV21⟩ : ∃ V, V = V20 + x1 * y1 := ⟨_, rfl⟩
  have bV21 : V21 < 40564819207303340847894502572032 := by rw [hV21]; have := hp11; omega
  obtain ⟨V22, hV22⟩ : ∃ V, V = V21 + x2 * y0 := ⟨_, rfl⟩
  have bV22 : V22 < 60847228810955011271841753858048 := by rw [hV22]; have := hp20; omega
  obtain ⟨V23, hV23⟩ : ∃ V, V = V22 + 19 * x3 * y4 := ⟨_, rfl⟩
  have bV23 : V23 < 446213011280336749326839528292352 := by rw [hV23]; have := hp34; rw [Nat.mul_assoc]; omega
  obtain ⟨V24, hV24⟩ : ∃ V, V = V23 + 19 * x4 * y3 := ⟨_, rfl⟩
  have bV24 : V24 < 831578793749718487381837302726656 := by rw [hV24]; have := hp43; rw [Nat.mul_assoc]; omega
  obtain ⟨V30, hV30⟩ : ∃ V, V = x0 * y3 := ⟨_, rfl⟩
  have bV30 : V30 < 20282409603651670423947251286016 := by rw [hV30]; exact hp03
  obtain ⟨V31, hV31⟩ : ∃ V, V = V30 + x1 * y2 := ⟨_, rfl⟩
  have bV31 : V31 < 40564819207303340847894502572032 := by rw [hV31]; have := hp12; omega
  obtain ⟨V32, hV32⟩ : ∃ V, V = V31 + x2 * y1 := ⟨_, rfl⟩
  have bV32 : V32 < 60847228810955011271841753858048 := by rw [hV32]; have := hp21; omega
  obtain ⟨V33, hV33⟩ : ∃ V, V = V32 + x3 * y0 := ⟨_, rfl⟩
  have bV33 : V33 < 81129638414606681695789005144064 := by rw [hV33]; have := hp30; omega
  obtain ⟨V34, hV34⟩ : ∃ V, V = V33 + 19 * x4 * y4 := ⟨_, rfl⟩
  have bV34 : V34 < 466495420883988419750786779578368 := by rw [hV34]; have := hp44; rw [Nat.mul_assoc]; omega
  obtain ⟨V40, hV40⟩ : ∃ V, V = x0 * y4 := ⟨_, rfl⟩
  have bV40 : V40 < 20282409603651670423947251286016 := by rw [hV40]; exact hp04
  obtain ⟨V41, hV41⟩ : ∃ V, V = V40 + x1 * y3 := ⟨_, rfl⟩
  have bV41 : V41 < 40564819207303340847894502572032 := by rw [hV41]; have := hp13; omega
  obtain ⟨V42, hV42⟩ : ∃ V, V = V41 + x2 * y2 := ⟨_, rfl⟩
  have bV42 : V42 < 60847228810955011271841753858048 := by rw [hV42]; have := hp22; omega
  obtain ⟨V43, hV43⟩ : ∃ V, V = V42 + x3 * y1 := ⟨_, rfl⟩
  have bV43 : V43 < 81129638414606681695789005144064 := by rw [hV43]; have := hp31; omega
  obtain ⟨V44, hV44⟩ : ∃ V, V = V43 + x4 * y0 := ⟨_, rfl⟩
  have bV44 : V44 < 101412048018258352119736256430080 := by rw [hV44]; have := hp40; omega
  clear hp00
  clear hp01
  clear hp02
  clear hp03
  clear hp04
  clear hp10
  clear hp11
  clear hp12
  clear hp13
  clear hp14
  clear hp20
  clear hp21
  clear hp22
  clear hp23
  clear hp24
  clear hp30
  clear hp31
  clear hp32
  clear hp33
  clear hp34
  clear hp40
  clear hp41
  clear hp42
  clear hp43
  clear hp44
  have HV00 := Lib.hid hV00; clear hV00
  have BV00 := Lib.hid bV00; clear bV00
  have HV01 := Lib.hid hV01; clear hV01
  have BV01 := Lib.hid bV01; clear bV01
  have HV02 := Lib.hid hV02; clear hV02
  have BV02 := Lib.hid bV02; clear bV02
  have HV03 := Lib.hid hV03; clear hV03
  have BV03 := Lib.hid bV03; clear bV03
  have HV04 := Lib.hid hV04; clear hV04
  have BV04 := Lib.hid bV04; clear bV04
  have HV10 := Lib.hid hV10; clear hV10
  have BV10 := Lib.hid bV10; clear bV10
  have HV11 := Lib.hid hV11; clear hV11
  have BV11 := Lib.hid bV11; clear bV11
  have HV12 := Lib.hid hV12; clear hV12
  have BV12 := Lib.hid bV12; clear bV12
  have HV13 := Lib.hid hV13; clear hV13
  have BV13 := Lib.hid bV13; clear bV13
  have HV14 := Lib.hid hV14; clear hV14
  have BV14 := Lib.hid bV14; clear bV14
  have HV20 := Lib.hid hV20; clear hV20
  have BV20 := Lib.hid bV20; clear bV20
  have HV21 := Lib.hid hV21; clear hV21
  have BV21 := Lib.hid bV21; clear bV21
  have HV22 := Lib.hid hV22; clear hV22
  have BV22 := Lib.hid bV22; clear bV22
  have HV23 := Lib.hid hV23; clear hV23
  have BV23 := Lib.hid bV23; clear bV23
  have HV24 := Lib.hid hV24; clear hV24
  have BV24 := Lib.hid bV24; clear bV24
  have HV30 := Lib.hid hV30; clear hV30
  have BV30 := Lib.hid bV30; clear bV30
  have HV31 := Lib.hid hV31; clear hV31
  have BV31 := Lib.hid bV31; clear bV31
  have HV32 := Lib.hid hV32; clear hV32
  have BV32 := Lib.hid bV32; clear bV32
  have HV33 := Lib.hid hV33; clear hV33
  have BV33 := Lib.hid bV33; clear bV33
  have HV34 := Lib.hid hV34; clear hV34
  have BV34 := Lib.hid bV34; clear bV34
  have HV40 := Lib.hid hV40; clear hV40
  have BV40 := Lib.hid bV40; clear bV40
  have HV41 := Lib.hid hV41; clear hV41
  have BV41 := Lib.hid bV41; clear bV41
  have HV42 := Lib.hid hV42; clear hV42
  have BV42 := Lib.hid bV42; clear bV42
  have HV43 := Lib.hid hV43; clear hV43
  have BV43 := Lib.hid bV43; clear bV43
  have HV44 := Lib.hid hV44; clear hV44
  have BV44 := Lib.hid bV44; clear bV44
  have ca0 : w.cell? ⟨a, 0, none⟩ = some (.int .u64 (x0 : Int)) := ha.c0
  have ca1 : w.cell? ⟨a, 1, none⟩ = some (.int .u64 (x1 : Int)) := ha.c1
  have ca2 : w.cell? ⟨a, 2, none⟩ = some (.int .u64 (x2 : Int)) := ha.c2
  have ca3 : w.cell? ⟨a, 3, none⟩ = some (.int .u64 (x3 : Int)) := ha.c3
  have ca4 : w.cell? ⟨a, 4, none⟩ = some (.int .u64 (x4 : Int)) := ha.c4
  have cb0 : w.cell? ⟨b, 0, none⟩ = some (.int .u64 (y0 : Int)) := hb.c0
  have cb1 : w.cell? ⟨b, 1, none⟩ = some (.int .u64 (y1 : Int)) := hb.c1
  have cb2 : w.cell? ⟨b, 2, none⟩ = some (.int .u64 (y2 : Int)) := hb.c2
  have cb3 : w.cell? ⟨b, 3, none⟩ = some (.int .u64 (y3 : Int)) := hb.c3
  have cb4 : w.cell? ⟨b, 4, none⟩ = some (.int .u64 (y4 : Int)) := hb.c4
  have hv0 := hv.lt
  have HX : Hid (x0 < 4503599627370496 ∧ x1 < 4503599627370496 ∧ x2 < 4503599627370496 ∧ x3 < 4503599627370496 ∧ x4 < 4503599627370496) := ⟨hx0, hx1, hx2, hx3, hx4⟩
  have HY : Hid (y0 < 4503599627370496 ∧ y1 < 4503599627370496 ∧ y2 < 4503599627370496 ∧ y3 < 4503599627370496 ∧ y4 < 4503599627370496) := ⟨hy0, hy1, hy2, hy3, hy4⟩
  clear hx0 hx1 hx2 hx3 hx4 hy0 hy1 hy2 hy3 hy4
  go_enter Tryz.func93, Tryz.ntmps93
  go_wp2_with fail
  refine (mul_any _ x0 y0 (by have := HX.out; omega) (by have := HY.out; omega)).mono ?_
  rintro e w0 ⟨rfl, hb0⟩
  rw [← HV00.out]
  have bb0 : Below w.heap.size w w0 := (Below.refl w.heap.size w).trans (hb0.mono (Below.refl w.heap.size w).size)
  have rn0 : RegAt (w0.alloc (.cells #[.int .u64 0, .int .u64 0] 141)) w0.heap.size 0 := reg_new w0
  have hgw0 : w.heap.size ≤ w0.heap.size := bb0.size
  go_wp2_with (first | (refine wpList_storeU rfl (.tmp 16) (.tmp 73) rfl w0.heap.size V00 0 rfl rfl rn0 ?_; intro ws0 R0s0 gr0) | (refine wpList_loadU rfl (.tmp 16) rfl w0.heap.size V00 rfl R0s0 ?_))
  have bs0 : Below w.heap.size w ws0 := below_kept (bb0.alloc bb0.size _) gr0 hgw0 (by have := bb0.size; simp; omega)
  refine (addMul19_any _ V00 x1 y4 (by have := HX.out; omega) (by have := HY.out; omega) (by rw [← HV01.out]; have := BV01.out; omega)).mono ?_
  rintro e w1 ⟨rfl, hb1⟩
  rw [← HV01.out]
  have bb1 : Below w.heap.size w w1 := bs0.trans (hb1.mono bs0.size)
  have R0c1 := R0s0.below hb1
  go_wp2_with (first | (refine wpList_storeU rfl (.tmp 16) (.tmp 77) rfl w0.heap.size V01 V00 rfl rfl R0c1 ?_; intro ws1 R0s1 gr1) | (refine wpList_loadU rfl (.tmp 16) rfl w0.heap.size V01 rfl R0s1 ?_))
  have bs1 : Below w.heap.size w ws1 := below_kept bb1 gr1 hgw0 bb1.size
  refine (addMul19_any _ V01 x2 y3 (by have := HX.out; omega) (by have := HY.out; omega) (by rw [← HV02.out]; have := BV02.out; omega)).mono ?_
  rintro e w2 ⟨rfl, hb2⟩
  rw [← HV02.out]
  have bb2 : Below w.heap.size w w2 := bs1.trans (hb2.mono bs1.size)
  have R0c2 := R0s1.below hb2
  go_wp2_with (first | (refine wpList_storeU rfl (.tmp 16) (.tmp 81) rfl w0.heap.size V02 V01 rfl rfl R0c2 ?_; intro ws2 R0s2 gr2) | (refine wpList_loadU rfl (.tmp 16) rfl w0.heap.size V02 rfl R0s2 ?_))
  have bs2 : Below w.heap.size w ws2 := below_kept bb2 gr2 hgw0 bb2.size
  refine (addMul19_any _ V02 x3 y2 (by have := HX.out; omega) (by have := HY.out; omega) (by rw [← HV03.out]; have := BV03.out; omega)).mono ?_
  rintro e w3 ⟨rfl, hb3⟩
  rw [← HV03.out]
  have bb3 : Below w.heap.size w w3 := bs2.trans (hb3.mono bs2.size)
  have R0c3 := R0s2.below hb3
  go_wp2_with (first | (refine wpList_storeU rfl (.tmp 16) (.tmp 85) rfl w0.heap.size V03 V02 rfl rfl R0c3 ?_; intro ws3 R0s3 gr3) | (refine wpList_loadU rfl (.tmp 16) rfl w0.heap.size V03 rfl R0s3 ?_))
  have bs3 : Below w.heap.size w ws3 := below_kept bb3 gr3 hgw0 bb3.size
  refine (addMul19_any _ V03 x4 y1 (by have := HX.out; omega) (by have := HY.out; omega) (by rw [← HV04.out]; have := BV04.out; omega)).mono ?_
  rintro e w4 ⟨rfl, hb4⟩
  rw [← HV04.out]
  have bb4 : Below w.heap.size w w4 := bs3.trans (hb4.mono bs3.size)
  have R0c4 := R0s3.below hb4
  go_wp2_with (first | (refine wpList_storeU rfl (.tmp 16) (.tmp 89) rfl w0.heap.size V04 V03 rfl rfl R0c4 ?_; intro ws4 R0s4 gr4))
  have bs4 : Below w.heap.size w ws4 := below_kept bb4 gr4 hgw0 bb4.size
  refine (mul_any _ x0 y1 (by have := HX.out; omega) (by have := HY.out; omega)).mono ?_
  rintro e w5 ⟨rfl, hb5⟩
  rw [← HV10.out]
  have bb5 : Below w.heap.size w w5 := bs4.trans (hb5.mono bs4.size)
  have R0n5 := R0s4.below hb5
  have rn1 : RegAt (w5.alloc (.cells #[.int .u64 0, .int .u64 0] 141)) w5.heap.size 0 := reg_new w5
  have hgw1 : w.heap.size ≤ w5.heap.size := bb5.size
  have hne01 : w0.heap.size ≠ w5.heap.size := by have := R0n5.lt; omega
  go_wp2_with (first | (refine wpList_storeU rfl (.tmp 17) (.tmp 92) rfl w5.heap.size V10 0 rfl rfl rn1 ?_; intro ws5 R1s0 gr5) | (refine wpList_loadU rfl (.tmp 17) rfl w5.heap.size V10 rfl R1s0 ?_))
  have bs5 : Below w.heap.size w ws5 := below_kept (bb5.alloc bb5.size _) gr5 hgw1 (by have := bb5.size; simp; omega)
  have R0m5 := (R0n5.below (Below.alloc (Below.refl _ _) (Nat.le_refl _) (.cells #[.int .u64 0, .int .u64 0] 141))).kept gr5 hne01
  refine (addMul_any _ V10 x1 y0 (by have := HX.out; omega) (by have := HY.out; omega) (by rw [← HV11.out]; have := BV11.out; omega)).mono ?_
  rintro e w6 ⟨rfl, hb6⟩
  rw [← HV11.out]
  have bb6 : Below w.heap.size w w6 := bs5.trans (hb6.mono bs5.size)
  have R0n6 := R0m5.below hb6
  have R1c1 := R1s0.below hb6
  go_wp2_with (first | (refine wpList_storeU rfl (.tmp 17) (.tmp 96) rfl w5.heap.size V11 V10 rfl rfl R1c1 ?_; intro ws6 R1s1 gr6) | (refine wpList_loadU rfl (.tmp 17) rfl w5.heap.size V11 rfl R1s1 ?_))
  have bs6 : Below w.heap.size w ws6 := below_kept bb6 gr6 hgw1 bb6.size
  have R0m6 := R0n6.kept gr6 hne01
  refine (addMul19_any _ V11 x2 y4 (by have := HX.out; omega) (by have := HY.out; omega) (by rw [← HV12.out]; have := BV12.out; omega)).mono ?_
  rintro e w7 ⟨rfl, hb7⟩
  rw [← HV12.out]
  have bb7 : Below w.heap.size w w7 := bs6.trans (hb7.mono bs6.size)
  have R0n7 := R0m6.below hb7
  have R1c2 := R1s1.below hb7
  go_wp2_with (first | (refine wpList_storeU rfl (.tmp 17) (.tmp 100) rfl w5.heap.size V12 V11 rfl rfl R1c2 ?_; intro ws7 R1s2 gr7) | (refine wpList_loadU rfl (.tmp 17) rfl w5.heap.size V12 rfl R1s2 ?_))
  have bs7 : Below w.heap.size w ws7 := below_kept bb7 gr7 hgw1 bb7.size
  have R0m7 := R0n7.kept gr7 hne01
  refine (addMul19_any _ V12 x3 y3 (by have := HX.out; omega) (by have := HY.out; omega) (by rw [← HV13.out]; have := BV13.out; omega)).mono ?_
  rintro e w8 ⟨rfl, hb8⟩
  rw [← HV13.out]
  have bb8 : Below w.heap.size w w8 := bs7.trans (hb8.mono bs7.size)
  have R0n8 := R0m7.below hb8
  have R1c3 := R1s2.below hb8
  go_wp2_with (first | (refine wpList_storeU rfl (.tmp 17) (.tmp 104) rfl w5.heap.size V13 V12 rfl rfl R1c3 ?_; intro ws8 R1s3 gr8) | (refine wpList_loadU rfl (.tmp 17) rfl w5.heap.size V13 rfl R1s3 ?_))
  have bs8 : Below w.heap.size w ws8 := below_kept bb8 gr8 hgw1 bb8.size
  have R0m8 := R0n8.kept gr8 hne01
  refine (addMul19_any _ V13 x4 y2 (by have := HX.out; omega) (by have := HY.out; omega) (by rw [← HV14.out]; have := BV14.out; omega)).mono ?_
  rintro e w9 ⟨rfl, hb9⟩
  rw [← HV14.out]
  have bb9 : Below w.heap.size w w9 := bs8.trans (hb9.mono bs8.size)
  have R0n9 := R0m8.below hb9
  have R1c4 := R1s3.below hb9
  go_wp2_with (first | (refine wpList_storeU rfl (.tmp 17) (.tmp 108) rfl w5.heap.size V14 V13 rfl rfl R1c4 ?_; intro ws9 R1s4 gr9))
  have bs9 : Below w.heap.size w ws9 := below_kept bb9 gr9 hgw1 bb9.size
  have R0m9 := R0n9.kept gr9 hne01
  refine (mul_any _ x0 y2 (by have := HX.out; omega) (by have := HY.out; omega)).mono ?_
  rintro e w10 ⟨rfl, hb10⟩
  rw [← HV20.out]
  have bb10 : Below w.heap.size w w10 := bs9.trans (hb10.mono bs9.size)
  have R0n10 := R0m9.below hb10
  have R1n10 := R1s4.below hb10
  have rn2 : RegAt (w10.alloc (.cells #[.int .u64 0, .int .u64 0] 141)) w10.heap.size 0 := reg_new w10
  have hgw2 : w.heap.size ≤ w10.heap.size := bb10.size
  have hne02 : w0.heap.size ≠ w10.heap.size := by have := R0n10.lt; omega
  have hne12 : w5.heap.size ≠ w10.heap.size := by have := R1n10.lt; omega
  go_wp2_with (first | (refine wpList_storeU rfl (.tmp 18) (.tmp 111) rfl w10.heap.size V20 0 rfl rfl rn2 ?_; intro ws10 R2s0 gr10) | (refine wpList_loadU rfl (.tmp 18) rfl w10.heap.size V20 rfl R2s0 ?_))
  have bs10 : Below w.heap.size w ws10 := below_kept (bb10.alloc bb10.size _) gr10 hgw2 (by have := bb10.size; simp; omega)
  have R0m10 := (R0n10.below (Below.alloc (Below.refl _ _) (Nat.le_refl _) (.cells #[.int .u64 0, .int .u64 0] 141))).kept gr10 hne02
  have R1m10 := (R1n10.below (Below.alloc (Below.refl _ _) (Nat.le_refl _) (.cells #[.int .u64 0, .int .u64 0] 141))).kept gr10 hne12
  refine (addMul_any _ V20 x1 y1 (by have := HX.out; omega) (by have := HY.out; omega) (by rw [← HV21.out]; have := BV21.out; omega)).mono ?_
  rintro e w11 ⟨rfl, hb11⟩
  rw [← HV21.out]
  have bb11 : Below w.heap.size w w11 := bs10.trans (hb11.mono bs10.size)
  have R0n11 := R0m10.below hb11
  have R1n11 := R1m10.below hb11
  have R2c1 := R2s0.below hb11
  go_wp2_with (first | (refine wpList_storeU rfl (.tmp 18) (.tmp 115) rfl w10.heap.size V21 V20 rfl rfl R2c1 ?_; intro ws11 R2s1 gr11) | (refine wpList_loadU rfl (.tmp 18) rfl w10.heap.size V21 rfl R2s1 ?_))
  have bs11 : Below w.heap.size w ws11 := below_kept bb11 gr11 hgw2 bb11.size
  have R0m11 := R0n11.kept gr11 hne02
  have R1m11 := R1n11.kept gr11 hne12
  refine (addMul_any _ V21 x2 y0 (by have := HX.out; omega) (by have := HY.out; omega) (by rw [← HV22.out]; have := BV22.out; omega)).mono ?_
  rintro e w12 ⟨rfl, hb12⟩
  rw [← HV22.out]
  have bb12 : Below w.heap.size w w12 := bs11.trans (hb12.mono bs11.size)
  have R0n12 := R0m11.below hb12
  have R1n12 := R1m11.below hb12
  have R2c2 := R2s1.below hb12
  go_wp2_with (first | (refine wpList_storeU rfl (.tmp 18) (.tmp 119) rfl w10.heap.size V22 V21 rfl rfl R2c2 ?_; intro ws12 R2s2 gr12) | (refine wpList_loadU rfl (.tmp 18) rfl w10.heap.size V22 rfl R2s2 ?_))
  have bs12 : Below w.heap.size w ws12 := below_kept bb12 gr12 hgw2 bb12.size
  have R0m12 := R0n12.kept gr12 hne02
  have R1m12 := R1n12.kept gr12 hne12
  refine (addMul19_any _ V22 x3 y4 (by have := HX.out; omega) (by have := HY.out; omega) (by rw [← HV23.out]; have := BV23.out; omega)).mono ?_
  rintro e w13 ⟨rfl, hb13⟩
  rw [← HV23.out]
  have bb13 : Below w.heap.size w w13 := bs12.trans (hb13.mono bs12.size)
  have R0n13 := R0m12.below hb13
  have R1n13 := R1m12.below hb13
  have R2c3 := R2s2.below hb13
  go_wp2_with (first | (refine wpList_storeU rfl (.tmp 18) (.tmp 123) rfl w10.heap.size V23 V22 rfl rfl R2c3 ?_; intro ws13 R2s3 gr13) | (refine wpList_loadU rfl (.tmp 18) rfl w10.heap.size V23 rfl R2s3 ?_))
  have bs13 : Below w.heap.size w ws13 := below_kept bb13 gr13 hgw2 bb13.size
  have R0m13 := R0n13.kept gr13 hne02
  have R1m13 := R1n13.kept gr13 hne12
  refine (addMul19_any _ V23 x4 y3 (by have := HX.out; omega) (by have := HY.out; omega) (by rw [← HV24.out]; have := BV24.out; omega)).mono ?_
  rintro e w14 ⟨rfl, hb14⟩
  rw [← HV24.out]
  have bb14 : Below w.heap.size w w14 := bs13.trans (hb14.mono bs13.size)
  have R0n14 := R0m13.below hb14
  have R1n14 := R1m13.below hb14
  have R2c4 := R2s3.below hb14
  go_wp2_with (first | (refine wpList_storeU rfl (.tmp 18) (.tmp 127) rfl w10.heap.size V24 V23 rfl rfl R2c4 ?_; intro ws14 R2s4 gr14))
  have bs14 : Below w.heap.size w ws14 := below_kept bb14 gr14 hgw2 bb14.size
  have R0m14 := R0n14.kept gr14 hne02
  have R1m14 := R1n14.kept gr14 hne12
  refine (mul_any _ x0 y3 (by have := HX.out; omega) (by have := HY.out; omega)).mono ?_
  rintro e w15 ⟨rfl, hb15⟩
  rw [← HV30.out]
  have bb15 : Below w.heap.size w w15 := bs14.trans (hb15.mono bs14.size)
  have R0n15 := R0m14.below hb15
  have R1n15 := R1m14.below hb15
  have R2n15 := R2s4.below hb15
  have rn3 : RegAt (w15.alloc (.cells #[.int .u64 0, .int .u64 0] 141)) w15.heap.size 0 := reg_new w15
  have hgw3 : w.heap.size ≤ w15.heap.size := bb15.size
  have hne03 : w0.heap.size ≠ w15.heap.size := by have := R0n15.lt; omega
  have hne13 : w5.heap.size ≠ w15.heap.size := by have := R1n15.lt; omega
  have hne23 : w10.heap.size ≠ w15.heap.size := by have := R2n15.lt; omega
  go_wp2_with (first | (refine wpList_storeU rfl (.tmp 19) (.tmp 130) rfl w15.heap.size V30 0 rfl rfl rn3 ?_; intro ws15 R3s0 gr15) | (refine wpList_loadU rfl (.tmp 19) rfl w15.heap.size V30 rfl R3s0 ?_))
  have bs15 : Below w.heap.size w ws15 := below_kept (bb15.alloc bb15.size _) gr15 hgw3 (by have := bb15.size; simp; omega)
  have R0m15 := (R0n15.below (Below.alloc (Below.refl _ _) (Nat.le_refl _) (.cells #[.int .u64 0, .int .u64 0] 141))).kept gr15 hne03
  have R1m15 := (R1n15.below (Below.alloc (Below.refl _ _) (Nat.le_refl _) (.cells #[.int .u64 0, .int .u64 0] 141))).kept gr15 hne13
  have R2m15 := (R2n15.below (Below.alloc (Below.refl _ _) (Nat.le_refl _) (.cells #[.int .u64 0, .int .u64 0] 141))).kept gr15 hne23
  refine (addMul_any _ V30 x1 y2 (by have := HX.out; omega) (by have := HY.out; omega) (by rw [← HV31.out]; have := BV31.out; omega)).mono ?_
  rintro e w16 ⟨rfl, hb16⟩
  rw [← HV31.out]
  have bb16 : Below w.heap.size w w16 := bs15.trans (hb16.mono bs15.size)
  have R0n16 := R0m15.below hb16
  have R1n16 := R1m15.below hb16
  have R2n16 := R2m15.below hb16
  have R3c1 := R3s0.below hb16
  go_wp2_with (first | (refine wpList_storeU rfl (.tmp 19) (.tmp 134) rfl w15.heap.size V31 V30 rfl rfl R3c1 ?_; intro ws16 R3s1 gr16) | (refine wpList_loadU rfl (.tmp 19) rfl w15.heap.size V31 rfl R3s1 ?_))
  have bs16 : Below w.heap.size w ws16 := below_kept bb16 gr16 hgw3 bb16.size
  have R0m16 := R0n16.kept gr16 hne03
  have R1m16 := R1n16.kept gr16 hne13
  have R2m16 := R2n16.kept gr16 hne23
  refine (addMul_any _ V31 x2 y1 (by have := HX.out; omega) (by have := HY.out; omega) (by rw [← HV32.out]; have := BV32.out; omega)).mono ?_
  rintro e w17 ⟨rfl, hb17⟩
  rw [← HV32.out]
  have bb17 : Below w.heap.size w w17 := bs16.trans (hb17.mono bs16.size)
  have R0n17 := R0m16.below hb17
  have R1n17 := R1m16.below hb17
  have R2n17 := R2m16.below hb17
  have R3c2 := R3s1.below hb17
  go_wp2_with (first | (refine wpList_storeU rfl (.tmp 19) (.tmp 138) rfl w15.heap.size V32 V31 rfl rfl R3c2 ?_; intro ws17 R3s2 gr17) | (refine wpList_loadU rfl (.tmp 19) rfl w15.heap.size V32 rfl R3s2 ?_))
  have bs17 : Below w.heap.size w ws17 := below_kept bb17 gr17 hgw3 bb17.size
  have R0m17 := R0n17.kept gr17 hne03
  have R1m17 := R1n17.kept gr17 hne13
  have R2m17 := R2n17.kept gr17 hne23
  refine (addMul_any _ V32 x3 y0 (by have := HX.out; omega) (by have := HY.out; omega) (by rw [← HV33.out]; have := BV33.out; omega)).mono ?_
  rintro e w18 ⟨rfl, hb18⟩
  rw [← HV33.out]
  have bb18 : Below w.heap.size w w18 := bs17.trans (hb18.mono bs17.size)
  have R0n18 := R0m17.below hb18
  have R1n18 := R1m17.below hb18
  have R2n18 := R2m17.below hb18
  have R3c3 := R3s2.below hb18
  go_wp2_with (first | (refine wpList_storeU rfl (.tmp 19) (.tmp 142) rfl w15.heap.size V33 V32 rfl rfl R3c3 ?_; intro ws18 R3s3 gr18) | (refine wpList_loadU rfl (.tmp 19) rfl w15.heap.size V33 rfl R3s3 ?_))
  have bs18 : Below w.heap.size w ws18 := below_kept bb18 gr18 hgw3 bb18.size
  have R0m18 := R0n18.kept gr18 hne03
  have R1m18 := R1n18.kept gr18 hne13
  have R2m18 := R2n18.kept gr18 hne23
  refine (addMul19_any _ V33 x4 y4 (by have := HX.out; omega) (by have := HY.out; omega) (by rw [← HV34.out]; have := BV34.out; omega)).mono ?_
  rintro e w19 ⟨rfl, hb19⟩
  rw [← HV34.out]
  have bb19 : Below w.heap.size w w19 := bs18.trans (hb19.mono bs18.size)
  have R0n19 := R0m18.below hb19
  have R1n19 := R1m18.below hb19
  have R2n19 := R2m18.below hb19
  have R3c4 := R3s3.below hb19
  go_wp2_with (first | (refine wpList_storeU rfl (.tmp 19) (.tmp 146) rfl w15.heap.size V34 V33 rfl rfl R3c4 ?_; intro ws19 R3s4 gr19))
  have bs19 : Below w.heap.size w ws19 := below_kept bb19 gr19 hgw3 bb19.size
  have R0m19 := R0n19.kept gr19 hne03
  have R1m19 := R1n19.kept gr19 hne13
  have R2m19 := R2n19.kept gr19 hne23
  refine (mul_any _ x0 y4 (by have := HX.out; omega) (by have := HY.out; omega)).mono ?_
  rintro e w20 ⟨rfl, hb20⟩
  rw [← HV40.out]
  have bb20 : Below w.heap.size w w20 := bs19.trans (hb20.mono bs19.size)
  have R0n20 := R0m19.below hb20
  have R1n20 := R1m19.below hb20
  have R2n20 := R2m19.below hb20
  have R3n20 := R3s4.below hb20
  have rn4 : RegAt (w20.alloc (.cells #[.int .u64 0, .int .u64 0] 141)) w20.heap.size 0 := reg_new w20
  have hgw4 : w.heap.size ≤ w20.heap.size := bb20.size
  have hne04 : w0.heap.size ≠ w20.heap.size := by have := R0n20.lt; omega
  have hne14 : w5.heap.size ≠ w20.heap.size := by have := R1n20.lt; omega
  have hne24 : w10.heap.size ≠ w20.heap.size := by have := R2n20.lt; omega
  have hne34 : w15.heap.size ≠ w20.heap.size := by have := R3n20.lt; omega
  go_wp2_with (first | (refine wpList_storeU rfl (.tmp 20) (.tmp 149) rfl w20.heap.size V40 0 rfl rfl rn4 ?_; intro ws20 R4s0 gr20) | (refine wpList_loadU rfl (.tmp 20) rfl w20.heap.size V40 rfl R4s0 ?_))
  have bs20 : Below w.heap.size w ws20 := below_kept (bb20.alloc bb20.size _) gr20 hgw4 (by have := bb20.size; simp; omega)
  have R0m20 := (R0n20.below (Below.alloc (Below.refl _ _) (Nat.le_refl _) (.cells #[.int .u64 0, .int .u64 0] 141))).kept gr20 hne04
  have R1m20 := (R1n20.below (Below.alloc (Below.refl _ _) (Nat.le_refl _) (.cells #[.int .u64 0, .int .u64 0] 141))).kept gr20 hne14
  have R2m20 := (R2n20.below (Below.alloc (Below.refl _ _) (Nat.le_refl _) (.cells #[.int .u64 0, .int .u64 0] 141))).kept gr20 hne24
  have R3m20 := (R3n20.below (Below.alloc (Below.refl _ _) (Nat.le_refl _) (.cells #[.int .u64 0, .int .u64 0] 141))).kept gr20 hne34
  refine (addMul_any _ V40 x1 y3 (by have := HX.out; omega) (by have := HY.out; omega) (by rw [← HV41.out]; have := BV41.out; omega)).mono ?_
  rintro e w21 ⟨rfl, hb21⟩
  rw [← HV41.out]
  have bb21 : Below w.heap.size w w21 := bs20.trans (hb21.mono bs20.size)
  have R0n21 := R0m20.below hb21
  have R1n21 := R1m20.below hb21
  have R2n21 := R2m20.below hb21
  have R3n21 := R3m20.below hb21
  have R4c1 := R4s0.below hb21
  go_wp2_with (first | (refine wpList_storeU rfl (.tmp 20) (.tmp 153) rfl w20.heap.size V41 V40 rfl rfl R4c1 ?_; intro ws21 R4s1 gr21) | (refine wpList_loadU rfl (.tmp 20) rfl w20.heap.size V41 rfl R4s1 ?_))
  have bs21 : Below w.heap.size w ws21 := below_kept bb21 gr21 hgw4 bb21.size
  have R0m21 := R0n21.kept gr21 hne04
  have R1m21 := R1n21.kept gr21 hne14
  have R2m21 := R2n21.kept gr21 hne24
  have R3m21 := R3n21.kept gr21 hne34
  refine (addMul_any _ V41 x2 y2 (by have := HX.out; omega) (by have := HY.out; omega) (by rw [← HV42.out]; have := BV42.out; omega)).mono ?_
  rintro e w22 ⟨rfl, hb22⟩
  rw [← HV42.out]
  have bb22 : Below w.heap.size w w22 := bs21.trans (hb22.mono bs21.size)
  have R0n22 := R0m21.below hb22
  have R1n22 := R1m21.below hb22
  have R2n22 := R2m21.below hb22
  have R3n22 := R3m21.below hb22
  have R4c2 := R4s1.below hb22
  go_wp2_with (first | (refine wpList_storeU rfl (.tmp 20) (.tmp 157) rfl w20.heap.size V42 V41 rfl rfl R4c2 ?_; intro ws22 R4s2 gr22) | (refine wpList_loadU rfl (.tmp 20) rfl w20.heap.size V42 rfl R4s2 ?_))
  have bs22 : Below w.heap.size w ws22 := below_kept bb22 gr22 hgw4 bb22.size
  have R0m22 := R0n22.kept gr22 hne04
  have R1m22 := R1n22.kept gr22 hne14
  have R2m22 := R2n22.kept gr22 hne24
  have R3m22 := R3n22.kept gr22 hne34
  refine (addMul_any _ V42 x3 y1 (by have := HX.out; omega) (by have := HY.out; omega) (by rw [← HV43.out]; have := BV43.out; omega)).mono ?_
  rintro e w23 ⟨rfl, hb23⟩
  rw [← HV43.out]
  have bb23 : Below w.heap.size w w23 := bs22.trans (hb23.mono bs22.size)
  have R0n23 := R0m22.below hb23
  have R1n23 := R1m22.below hb23
  have R2n23 := R2m22.below hb23
  have R3n23 := R3m22.below hb23
  have R4c3 := R4s2.below hb23
  go_wp2_with (first | (refine wpList_storeU rfl (.tmp 20) (.tmp 161) rfl w20.heap.size V43 V42 rfl rfl R4c3 ?_; intro ws23 R4s3 gr23) | (refine wpList_loadU rfl (.tmp 20) rfl w20.heap.size V43 rfl R4s3 ?_))
  have bs23 : Below w.heap.size w ws23 := below_kept bb23 gr23 hgw4 bb23.size
  have R0m23 := R0n23.kept gr23 hne04
  have R1m23 := R1n23.kept gr23 hne14
  have R2m23 := R2n23.kept gr23 hne24
  have R3m23 := R3n23.kept gr23 hne34
  refine (addMul_any _ V43 x4 y0 (by have := HX.out; omega) (by have := HY.out; omega) (by rw [← HV44.out]; have := BV44.out; omega)).mono ?_
  rintro e w24 ⟨rfl, hb24⟩
  rw [← HV44.out]
  have bb24 : Below w.heap.size w w24 := bs23.trans (hb24.mono bs23.size)
  have R0n24 := R0m23.below hb24
  have R1n24 := R1m23.below hb24
  have R2n24 := R2m23.below hb24
  have R3n24 := R3m23.below hb24
  have R4c4 := R4s3.below hb24
  go_wp2_with (first | (refine wpList_storeU rfl (.tmp 20) (.tmp 165) rfl w20.heap.size V44 V43 rfl rfl R4c4 ?_; intro ws24 R4s4 gr24) | (refine wpList_loadU rfl (.tmp 16) rfl w0.heap.size V04 rfl (R0n24.kept gr24 hne04) ?_))
  have bs24 : Below w.heap.size w ws24 := below_kept bb24 gr24 hgw4 bb24.size
  have R0m24 := R0n24.kept gr24 hne04
  have R1m24 := R1n24.kept gr24 hne14
  have R2m24 := R2n24.kept gr24 hne24
  have R3m24 := R3n24.kept gr24 hne34
  refine (shr51_any _ V04 (by have := BV04.out; omega)).mono ?_
  rintro e w25 ⟨rfl, hb25⟩
  obtain ⟨C0, hC0⟩ : ∃ C, C = V04 / 2251799813685248 := ⟨_, rfl⟩
  rw [← hC0]
  have HC0 := Lib.hid hC0; clear hC0
  have R0n25 := (R0m24).below hb25
  have R1n25 := (R1m24).below hb25
  have R2n25 := (R2m24).below hb25
  have R3n25 := (R3m24).below hb25
  have R4n25 := (R4s4).below hb25
  have bs25 : Below w.heap.size w w25 := bs24.trans (hb25.mono bs24.size)
  go_wp2_with (first | (refine wpList_loadU rfl (.tmp 17) rfl w5.heap.size V14 rfl (R1n25) ?_))
  refine (shr51_any _ V14 (by have := BV14.out; omega)).mono ?_
  rintro e w26 ⟨rfl, hb26⟩
  obtain ⟨C1, hC1⟩ : ∃ C, C = V14 / 2251799813685248 := ⟨_, rfl⟩
  rw [← hC1]
  have HC1 := Lib.hid hC1; clear hC1
  have R0n26 := (R0n25).below hb26
  have R1n26 := (R1n25).below hb26
  have R2n26 := (R2n25).below hb26
  have R3n26 := (R3n25).below hb26
  have R4n26 := (R4n25).below hb26
  have bs26 : Below w.heap.size w w26 := bs25.trans (hb26.mono bs25.size)
  go_wp2_with (first | (refine wpList_loadU rfl (.tmp 18) rfl w10.heap.size V24 rfl (R2n26) ?_))
  refine (shr51_any _ V24 (by have := BV24.out; omega)).mono ?_
  rintro e w27 ⟨rfl, hb27⟩
  obtain ⟨C2, hC2⟩ : ∃ C, C = V24 / 2251799813685248 := ⟨_, rfl⟩
  rw [← hC2]
  have HC2 := Lib.hid hC2; clear hC2
  have R0n27 := (R0n26).below hb27
  have R1n27 := (R1n26).below hb27
  have R2n27 := (R2n26).below hb27
  have R3n27 := (R3n26).below hb27
  have R4n27 := (R4n26).below hb27
  have bs27 : Below w.heap.size w w27 := bs26.trans (hb27.mono bs26.size)
  go_wp2_with (first | (refine wpList_loadU rfl (.tmp 19) rfl w15.heap.size V34 rfl (R3n27) ?_))
  refine (shr51_any _ V34 (by have := BV34.out; omega)).mono ?_
  rintro e w28 ⟨rfl, hb28⟩
  obtain ⟨C3, hC3⟩ : ∃ C, C = V34 / 2251799813685248 := ⟨_, rfl⟩
  rw [← hC3]
  have HC3 := Lib.hid hC3; clear hC3
  have R0n28 := (R0n27).below hb28
  have R1n28 := (R1n27).below hb28
  have R2n28 := (R2n27).below hb28
  have R3n28 := (R3n27).below hb28
  have R4n28 := (R4n27).below hb28
  have bs28 : Below w.heap.size w w28 := bs27.trans (hb28.mono bs27.size)
  go_wp2_with (first | (refine wpList_loadU rfl (.tmp 20) rfl w20.heap.size V44 rfl (R4n28) ?_))
  refine (shr51_any _ V44 (by have := BV44.out; omega)).mono ?_
  rintro e w29 ⟨rfl, hb29⟩
  obtain ⟨C4, hC4⟩ : ∃ C, C = V44 / 2251799813685248 := ⟨_, rfl⟩
  rw [← hC4]
  have HC4 := Lib.hid hC4; clear hC4
  have R0n29 := (R0n28).below hb29
  have R1n29 := (R1n28).below hb29
  have R2n29 := (R2n28).below hb29
  have R3n29 := (R3n28).below hb29
  have R4n29 := (R4n28).below hb29
  have bs29 : Below w.heap.size w w29 := bs28.trans (hb29.mono bs28.size)
  obtain ⟨L0, hL0⟩ : ∃ L, L = V04 % 2251799813685248 := ⟨_, rfl⟩
  have cl0 : w29.cell? ⟨w0.heap.size, 0, none⟩ = some (.int .u64 ((V04 % 18446744073709551616 : Nat) : Int)) := by have h := R0n29; unfold RegAt at h; simp [World.cell?, h, ucells]
  obtain ⟨U0, hU0⟩ : ∃ U, U = V04 % 18446744073709551616 := ⟨_, rfl⟩
  rw [← hU0] at cl0
  have ea0 : bits BinOp.and IntKind.u64 (U0 : Int) 2251799813685247 = (L0 : Int) := by
    rw [show (2251799813685247 : Int) = ((2251799813685247 : Nat) : Int) from rfl, u64_and_nat _ _ (by omega) (by omega), Nat.and_two_pow_sub_one_eq_mod _ 51, hL0, hU0]; congr 1; omega
  have bL0 : L0 < 2251799813685248 := by omega
  have bC0 : C0 < 693554342615056384 := by have := HC0.out; have := BV04.out; omega
  have HL0 := Lib.hid hL0; clear hL0 hU0
  obtain ⟨L1, hL1⟩ : ∃ L, L = V14 % 2251799813685248 := ⟨_, rfl⟩
  have cl1 : w29.cell? ⟨w5.heap.size, 0, none⟩ = some (.int .u64 ((V14 % 18446744073709551616 : Nat) : Int)) := by have h := R1n29; unfold RegAt at h; simp [World.cell?, h, ucells]
  obtain ⟨U1, hU1⟩ : ∃ U, U = V14 % 18446744073709551616 := ⟨_, rfl⟩
  rw [← hU1] at cl1
  have ea1 : bits BinOp.and IntKind.u64 (U1 : Int) 2251799813685247 = (L1 : Int) := by
    rw [show (2251799813685247 : Int) = ((2251799813685247 : Nat) : Int) from rfl, u64_and_nat _ _ (by omega) (by omega), Nat.and_two_pow_sub_one_eq_mod _ 51, hL1, hU1]; congr 1; omega
  have bL1 : L1 < 2251799813685248 := by omega
  have bC1 : C1 < 531424756029718528 := by have := HC1.out; have := BV14.out; omega
  have HL1 := Lib.hid hL1; clear hL1 hU1
  obtain ⟨L2, hL2⟩ : ∃ L, L = V24 % 2251799813685248 := ⟨_, rfl⟩
  have cl2 : w29.cell? ⟨w10.heap.size, 0, none⟩ = some (.int .u64 ((V24 % 18446744073709551616 : Nat) : Int)) := by have h := R2n29; unfold RegAt at h; simp [World.cell?, h, ucells]
  obtain ⟨U2, hU2⟩ : ∃ U, U = V24 % 18446744073709551616 := ⟨_, rfl⟩
  rw [← hU2] at cl2
  have ea2 : bits BinOp.and IntKind.u64 (U2 : Int) 2251799813685247 = (L2 : Int) := by
    rw [show (2251799813685247 : Int) = ((2251799813685247 : Nat) : Int) from rfl, u64_and_nat _ _ (by omega) (by omega), Nat.and_two_pow_sub_one_eq_mod _ 51, hL2, hU2]; congr 1; omega
  have bL2 : L2 < 2251799813685248 := by omega
  have bC2 : C2 < 369295169444380672 := by have := HC2.out; have := BV24.out; omega
  have HL2 := Lib.hid hL2; clear hL2 hU2
  obtain ⟨L3, hL3⟩ : ∃ L, L = V34 % 2251799813685248 := ⟨_, rfl⟩
  have cl3 : w29.cell? ⟨w15.heap.size, 0, none⟩ = some (.int .u64 ((V34 % 18446744073709551616 : Nat) : Int)) := by have h := R3n29; unfold RegAt at h; simp [World.cell?, h, ucells]
  obtain ⟨U3, hU3⟩ : ∃ U, U = V34 % 18446744073709551616 := ⟨_, rfl⟩
  rw [← hU3] at cl3
  have ea3 : bits BinOp.and IntKind.u64 (U3 : Int) 2251799813685247 = (L3 : Int) := by
    rw [show (2251799813685247 : Int) = ((2251799813685247 : Nat) : Int) from rfl, u64_and_nat _ _ (by omega) (by omega), Nat.and_two_pow_sub_one_eq_mod _ 51, hL3, hU3]; congr 1; omega
  have bL3 : L3 < 2251799813685248 := by omega
  have bC3 : C3 < 207165582859042816 := by have := HC3.out; have := BV34.out; omega
  have HL3 := Lib.hid hL3; clear hL3 hU3
  obtain ⟨L4, hL4⟩ : ∃ L, L = V44 % 2251799813685248 := ⟨_, rfl⟩
  have cl4 : w29.cell? ⟨w20.heap.size, 0, none⟩ = some (.int .u64 ((V44 % 18446744073709551616 : Nat) : Int)) := by have h := R4n29; unfold RegAt at h; simp [World.cell?, h, ucells]
  obtain ⟨U4, hU4⟩ : ∃ U, U = V44 % 18446744073709551616 := ⟨_, rfl⟩
  rw [← hU4] at cl4
  have ea4 : bits BinOp.and IntKind.u64 (U4 : Int) 2251799813685247 = (L4 : Int) := by
    rw [show (2251799813685247 : Int) = ((2251799813685247 : Nat) : Int) from rfl, u64_and_nat _ _ (by omega) (by omega), Nat.and_two_pow_sub_one_eq_mod _ 51, hL4, hU4]; congr 1; omega
  have bL4 : L4 < 2251799813685248 := by omega
  have bC4 : C4 < 45035996273704960 := by have := HC4.out; have := BV44.out; omega
  have HL4 := Lib.hid hL4; clear hL4 hU4
  obtain ⟨P0, hP0⟩ : ∃ P, P = (L0 + 19 * C4) % 2251799813685248 := ⟨_, rfl⟩
  obtain ⟨Q0, hQ0⟩ : ∃ Q, Q = (L0 + 19 * C4) / 2251799813685248 := ⟨_, rfl⟩
  have eb0 : bits BinOp.and IntKind.u64 ((L0 : Int) + 19 * (C4 : Int)) 2251799813685247 = (P0 : Int) := by
    rw [show (L0 : Int) + 19 * (C4 : Int) = ((L0 + 19 * C4 : Nat) : Int) from by omega, show (2251799813685247 : Int) = ((2251799813685247 : Nat) : Int) from rfl, u64_and_nat _ _ (by omega) (by omega), Nat.and_two_pow_sub_one_eq_mod _ 51, hP0]
  have ed0 : ((L0 : Int) + 19 * (C4 : Int)) / 2251799813685248 = (Q0 : Int) := by omega
  have bP0 : P0 < 2251799813685248 := by omega
  have bQ0 : Q0 < 1024 := by omega
  have HP0 := Lib.hid hP0; clear hP0
  have HQ0 := Lib.hid hQ0; clear hQ0
  obtain ⟨P1, hP1⟩ : ∃ P, P = (L1 + C0) % 2251799813685248 := ⟨_, rfl⟩
  obtain ⟨Q1, hQ1⟩ : ∃ Q, Q = (L1 + C0) / 2251799813685248 := ⟨_, rfl⟩
  have eb1 : bits BinOp.and IntKind.u64 ((L1 : Int) + (C0 : Int)) 2251799813685247 = (P1 : Int) := by
    rw [show (L1 : Int) + (C0 : Int) = ((L1 + C0 : Nat) : Int) from by omega, show (2251799813685247 : Int) = ((2251799813685247 : Nat) : Int) from rfl, u64_and_nat _ _ (by omega) (by omega), Nat.and_two_pow_sub_one_eq_mod _ 51, hP1]
  have ed1 : ((L1 : Int) + (C0 : Int)) / 2251799813685248 = (Q1 : Int) := by omega
  have bP1 : P1 < 2251799813685248 := by omega
  have bQ1 : Q1 < 1024 := by omega
  have HP1 := Lib.hid hP1; clear hP1
  have HQ1 := Lib.hid hQ1; clear hQ1
  obtain ⟨P2, hP2⟩ : ∃ P, P = (L2 + C1) % 2251799813685248 := ⟨_, rfl⟩
  obtain ⟨Q2, hQ2⟩ : ∃ Q, Q = (L2 + C1) / 2251799813685248 := ⟨_, rfl⟩
  have eb2 : bits BinOp.and IntKind.u64 ((L2 : Int) + (C1 : Int)) 2251799813685247 = (P2 : Int) := by
    rw [show (L2 : Int) + (C1 : Int) = ((L2 + C1 : Nat) : Int) from by omega, show (2251799813685247 : Int) = ((2251799813685247 : Nat) : Int) from rfl, u64_and_nat _ _ (by omega) (by omega), Nat.and_two_pow_sub_one_eq_mod _ 51, hP2]
  have ed2 : ((L2 : Int) + (C1 : Int)) / 2251799813685248 = (Q2 : Int) := by omega
  have bP2 : P2 < 2251799813685248 := by omega
  have bQ2 : Q2 < 1024 := by omega
  have HP2 := Lib.hid hP2; clear hP2
  have HQ2 := Lib.hid hQ2; clear hQ2
  obtain ⟨P3, hP3⟩ : ∃ P, P = (L3 + C2) % 2251799813685248 := ⟨_, rfl⟩
  obtain ⟨Q3, hQ3⟩ : ∃ Q, Q = (L3 + C2) / 2251799813685248 := ⟨_, rfl⟩
  have eb3 : bits BinOp.and IntKind.u64 ((L3 : Int) + (C2 : Int)) 2251799813685247 = (P3 : Int) := by
    rw [show (L3 : Int) + (C2 : Int) = ((L3 + C2 : Nat) : Int) from by omega, show (2251799813685247 : Int) = ((2251799813685247 : Nat) : Int) from rfl, u64_and_nat _ _ (by omega) (by omega), Nat.and_two_pow_sub_one_eq_mod _ 51, hP3]
  have ed3 : ((L3 : Int) + (C2 : Int)) / 2251799813685248 = (Q3 : Int) := by omega
  have bP3 : P3 < 2251799813685248 := by omega
  have bQ3 : Q3 < 1024 := by omega
  have HP3 := Lib.hid hP3; clear hP3
  have HQ3 := Lib.hid hQ3; clear hQ3
  obtain ⟨P4, hP4⟩ : ∃ P, P = (L4 + C3) % 2251799813685248 := ⟨_, rfl⟩
  obtain ⟨Q4, hQ4⟩ : ∃ Q, Q = (L4 + C3) / 2251799813685248 := ⟨_, rfl⟩
  have eb4 : bits BinOp.and IntKind.u64 ((L4 : Int) + (C3 : Int)) 2251799813685247 = (P4 : Int) := by
    rw [show (L4 : Int) + (C3 : Int) = ((L4 + C3 : Nat) : Int) from by omega, show (2251799813685247 : Int) = ((2251799813685247 : Nat) : Int) from rfl, u64_and_nat _ _ (by omega) (by omega), Nat.and_two_pow_sub_one_eq_mod _ 51, hP4]
  have ed4 : ((L4 : Int) + (C3 : Int)) / 2251799813685248 = (Q4 : Int) := by omega
  have bP4 : P4 < 2251799813685248 := by omega
  have bQ4 : Q4 < 1024 := by omega
  have HP4 := Lib.hid hP4; clear hP4
  have HQ4 := Lib.hid hQ4; clear hQ4
  have hw40 : IntKind.u64.wrap ((L0 : Int) + 19 * (C4 : Int)) = (L0 : Int) + 19 * (C4 : Int) := IntWalk.u64_in _ (by omega)
  have hvN : FeAt w29 v z := (bs29.block v hv0).trans hv
  have f0 := hvN.fr 0
  have f1 := hvN.fr 1
  have f2 := hvN.fr 2
  have f3 := hvN.fr 3
  have f4 := hvN.fr 4
  have cv0 : w29.cell? ⟨v, 0, none⟩ = some (.int .u64 (z.l0 : Int)) := hvN.c0
  have cv1 : w29.cell? ⟨v, 1, none⟩ = some (.int .u64 (z.l1 : Int)) := hvN.c1
  have cv2 : w29.cell? ⟨v, 2, none⟩ = some (.int .u64 (z.l2 : Int)) := hvN.c2
  have cv3 : w29.cell? ⟨v, 3, none⟩ = some (.int .u64 (z.l3 : Int)) := hvN.c3
  have cv4 : w29.cell? ⟨v, 4, none⟩ = some (.int .u64 (z.l4 : Int)) := hvN.c4
  have bbv : w.heap.size ≤ w29.heap.size := bs29.size
  have gN : w.grownBy w29 (some v) := ⟨bs29.os, bs29.tape, bs29.output, bs29.size, fun k hk _ => bs29.block k hk⟩
  go_wp2_with fail
  go_quiet (first | (go_at_call 92; refine Calls.quiet_of_same (mul19_any _ C4 (by omega))))
  go_wp2_with (go_at_call 92; refine (mul19_any _ Q4 (by omega)).mono ?_; rintro e wq ⟨rfl, hwq⟩; rw [hwq])
  have hfin : wideL (colsMul ⟨x0, x1, x2, x3, x4⟩ ⟨y0, y1, y2, y3, y4⟩) = ⟨P0 + 19 * Q4, P1 + Q0, P2 + Q1, P3 + Q2, P4 + Q3⟩ := by
    simp only [wideL, carryL, colsMul, HP0.out, HQ0.out, HL0.out, HC0.out, HP1.out, HQ1.out, HL1.out, HC1.out, HP2.out, HQ2.out, HL2.out, HC2.out, HP3.out, HQ3.out, HL3.out, HC3.out, HP4.out, HQ4.out, HL4.out, HC4.out, HV04.out, HV03.out, HV02.out, HV01.out, HV00.out, HV14.out, HV13.out, HV12.out, HV11.out, HV10.out, HV24.out, HV23.out, HV22.out, HV21.out, HV20.out, HV34.out, HV33.out, HV32.out, HV31.out, HV30.out, HV44.out, HV43.out, HV42.out, HV41.out, HV40.out]
  rw [hfin]
  go_end0
  refine ⟨rfl, ?_, ?_⟩
  · exact (((((show FeAt (w29.drewN nq) v z from hvN).s0 (P0 + 19 * Q4)).s1 (P1 + Q0)).s2 (P2 + Q1)).s3 (P3 + Q2)).s4 (P4 + Q3)
  · exact grown_set (grown_set (grown_set (grown_set (grown_set (show w.grownBy (w29.drewN nq) (some v) from ⟨gN.os, gN.tape, gN.output, gN.size, gN.block⟩) 0 _) 1 _) 2 _) 3 _) 4 _
end Go.Proofs.YthjminkkmljjhaaGreatDoor

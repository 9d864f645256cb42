/- The field's operations as what they do to numbers modulo the prime. Conditions: the blocks hold elements as the operations leave them. -/
import Derived.Test.YthjminkkmljjhaaGreatDoorFval
import Derived.Handy
namespace Go.Proofs.YthjminkkmljjhaaGreatDoor
open Go.RowKit

theorem FeAt.lim {x : L5} (h : Ok x) : x.l0 < 4611686018427387904 ∧ x.l1 < 4611686018427387904 ∧ x.l2 < 4611686018427387904 ∧ x.l3 < 4611686018427387904 ∧ x.l4 < 4611686018427387904 := by obtain ⟨_, _, _, _, _⟩ := h; omega
theorem FeAt.lim2 {x : L5} (h : Ok x) : x.l0 < 4503599627370458 ∧ x.l1 < 4503599627370458 ∧ x.l2 < 4503599627370458 ∧ x.l3 < 4503599627370458 ∧ x.l4 < 4503599627370458 := by obtain ⟨_, _, _, _, _⟩ := h; omega
theorem grown_refl (w : World) (r : Option Nat) : w.grownBy w r := World.grownBy.refl _ _

set_option maxRecDepth 100000 in
set_option maxHeartbeats 1000000 in
theorem add_M (w : World) (v a b m n : Nat) (hv : FeB w v) (ha : FeM w a m) (hb : FeM w b n) :
    Calls Tryz.prog 75 #[.pointer (some ⟨v, 0, none⟩), .pointer (some ⟨a, 0, none⟩), .pointer (some ⟨b, 0, none⟩)] w fun e w' => e = .returned (.pointer (some ⟨v, 0, none⟩)) ∧ FeM w' v (addm m n) ∧ w.grownBy w' (some v) := by
  obtain ⟨z, hz⟩ := hv
  obtain ⟨x, hx, ox, rfl⟩ := ha
  obtain ⟨y, hy, oy, rfl⟩ := hb
  refine (add_any w v a b z x y hz hx hy (FeAt.lim ox) (FeAt.lim oy)).mono ?_
  rintro e w' ⟨rfl, h, hg⟩
  exact ⟨rfl, ⟨_, h, ok_add ox oy, val_add x y⟩, hg⟩

set_option maxRecDepth 100000 in
set_option maxHeartbeats 1000000 in
theorem sub_M (w : World) (v a b m n : Nat) (hv : FeB w v) (ha : FeM w a m) (hb : FeM w b n) :
    Calls Tryz.prog 74 #[.pointer (some ⟨v, 0, none⟩), .pointer (some ⟨a, 0, none⟩), .pointer (some ⟨b, 0, none⟩)] w fun e w' => e = .returned (.pointer (some ⟨v, 0, none⟩)) ∧ FeM w' v (subm m n) ∧ w.grownBy w' (some v) := by
  obtain ⟨z, hz⟩ := hv
  obtain ⟨x, hx, ox, rfl⟩ := ha
  obtain ⟨y, hy, oy, rfl⟩ := hb
  refine (sub_any w v a b z x y hz hx hy (FeAt.lim ox) (FeAt.lim2 oy)).mono ?_
  rintro e w' ⟨rfl, h, hg⟩
  exact ⟨rfl, ⟨_, h, ok_sub ox oy, val_sub oy⟩, hg⟩

set_option maxRecDepth 100000 in
set_option maxHeartbeats 1000000 in
theorem feMulW_any (w : World) (v a b m n : Nat) (hv : FeB w v) (ha : FeM w a m) (hb : FeM w b n) :
    Calls Tryz.prog 87 #[.pointer (some ⟨v, 0, none⟩), .pointer (some ⟨a, 0, none⟩), .pointer (some ⟨b, 0, none⟩)] w fun e w' => e = .returned (.tuple #[]) ∧ FeM w' v (mulm m n) ∧ w.grownBy w' (some v) := by
  obtain ⟨z, hz⟩ := hv
  obtain ⟨x, hx, ox, rfl⟩ := ha
  obtain ⟨y, hy, oy, rfl⟩ := hb
  go_enter Tryz.func87, Tryz.ntmps87
  go_wp2_with fail
  refine (feMul_any w v a b z x y hz hx hy ox.lim oy.lim).mono ?_
  rintro e w' ⟨rfl, h, hg⟩
  go_wp2_with fail
  go_end0
  exact ⟨rfl, ⟨_, h, ok_mul ox oy, val_mul x y⟩, hg⟩

set_option maxRecDepth 100000 in
set_option maxHeartbeats 1000000 in
theorem mul_M (w : World) (v a b m n : Nat) (hv : FeB w v) (ha : FeM w a m) (hb : FeM w b n) :
    Calls Tryz.prog 76 #[.pointer (some ⟨v, 0, none⟩), .pointer (some ⟨a, 0, none⟩), .pointer (some ⟨b, 0, none⟩)] w fun e w' => e = .returned (.pointer (some ⟨v, 0, none⟩)) ∧ FeM w' v (mulm m n) ∧ w.grownBy w' (some v) := by
  go_enter Tryz.func76, Tryz.ntmps76
  go_wp2_with fail
  refine (feMulW_any w v a b m n hv ha hb).mono ?_
  rintro e w' ⟨rfl, h, hg⟩
  go_wp2_with fail
  go_ret
  exact ⟨rfl, h, hg⟩

set_option maxRecDepth 100000 in
set_option maxHeartbeats 1000000 in
theorem sq_M (w : World) (v a m : Nat) (hv : FeB w v) (ha : FeM w a m) :
    Calls Tryz.prog 77 #[.pointer (some ⟨v, 0, none⟩), .pointer (some ⟨a, 0, none⟩)] w fun e w' => e = .returned (.pointer (some ⟨v, 0, none⟩)) ∧ FeM w' v (mulm m m) ∧ w.grownBy w' (some v) := by
  obtain ⟨z, hz⟩ := hv
  obtain ⟨x, hx, ox, rfl⟩ := ha
  go_enter Tryz.func77, Tryz.ntmps77
  go_wp2_with fail
  refine (feSquare_any w v a z x hz hx ox.lim).mono ?_
  rintro e w' ⟨rfl, h, hg⟩
  go_wp2_with fail
  go_ret
  exact ⟨rfl, ⟨_, h, by rw [cols_sq]; exact ok_mul ox ox, by rw [cols_sq]; exact val_mul x x⟩, hg⟩

theorem sqL_ok {x : L5} (h : Ok x) : ∀ n, Ok (sqL n x) ∧ val (sqL n x) % pp = sqm n (val x % pp)
  | 0 => ⟨h, rfl⟩
  | n + 1 => by
    obtain ⟨h1, h2⟩ := sqL_ok h n
    constructor
    · rw [sqL, cols_sq]; exact ok_mul h1 h1
    · rw [sqL, cols_sq, val_mul, h2]; rfl

set_option maxRecDepth 100000 in
set_option maxHeartbeats 1000000 in
theorem sqn_M (w : World) (v a m n : Nat) (hn : n < 9223372036854775807) (hv : FeB w v) (ha : FeM w a m) :
    Calls Tryz.prog 90 #[.pointer (some ⟨v, 0, none⟩), .pointer (some ⟨a, 0, none⟩), .int .i64 (n : Int)] w fun e w' => e = .returned (.pointer (some ⟨v, 0, none⟩)) ∧ FeM w' v (sqm n m) ∧ w.grownBy w' (some v) := by
  obtain ⟨z, hz⟩ := hv
  obtain ⟨x, hx, ox, rfl⟩ := ha
  go_enter Tryz.func90, Tryz.ntmps90
  go_wp2_with fail
  refine (feSquareN_any w v a n z x hn hz hx ox.lim).mono ?_
  rintro e w' ⟨rfl, h, hg⟩
  go_wp2_with fail
  go_ret
  exact ⟨rfl, ⟨_, h, (sqL_ok ox n).1, (sqL_ok ox n).2⟩, hg⟩

theorem el_und : ∃ fs, Tryz.prog.underlying 109 = some (.struct fs) := by
  have h : (match Tryz.prog.underlying 109 with | some (.struct _) => true | _ => false) = true := by kernel_rfl
  split at h
  · rename_i fs hfs; exact ⟨fs, hfs⟩
  · cases h
theorem el_size : (Tryz.prog.info? 109).map (·.size) = some 5 := by kernel_rfl
def elv (x : L5) : Value := .agg x.cells
section
variable {ops : Array Oper} {rest : List Oper} {o : Oper} {a : Act} {w : World} {Q : Exit → Act → World → Prop}
theorem wpList_loadE (hgd : o.guard = none) (x : Operand) (ho : o.op = .load 109 x) (g : Nat) (l : L5) (hx : a.eval x = .pointer (some ⟨g, 0, none⟩)) (hR : FeAt w g l)
    (h : wpList Tryz.prog ops Q rest (a.put o.dst (elv l)) w) : wpList Tryz.prog ops Q (o :: rest) a w := by
  obtain ⟨fs, hfs⟩ := el_und
  exact wpList_load_row hgd _ x ho g hx _ l.cells (0, 0) (.struct fs) hR hfs rfl el_size h
theorem wpList_loadEr (hgd : o.guard = none) (x : Operand) (ho : o.op = .load 109 x) (b p : Nat) (l : L5) (hx : a.eval x = .pointer (some ⟨b, p, none⟩)) (hR : w.rangeAt b p l.cells.toList)
    (h : wpList Tryz.prog ops Q rest (a.put o.dst (elv l)) w) : wpList Tryz.prog ops Q (o :: rest) a w := by
  obtain ⟨fs, hfs⟩ := el_und
  exact wpList_load_mid hgd _ x ho b p hx l.cells.toList (.struct fs) hR hfs rfl el_size h
theorem wpList_storeE (hgd : o.guard = none) (x y : Operand) (ho : o.op = .store 109 x y) (g : Nat) (l old : L5) (hx : a.eval x = .pointer (some ⟨g, 0, none⟩)) (hy : a.eval y = elv l) (hR : FeAt w g old)
    (h : ∀ w', FeAt w' g l → w.grownBy w' (some g) → wpList Tryz.prog ops Q rest (a.put o.dst undef) w') : wpList Tryz.prog ops Q (o :: rest) a w :=
  wpList_store_row hgd _ x y ho g l.cells hx hy _ old.cells hR el_size rfl (by simp [L5.cells, Value.oneCell'])
    (h _ (setRow_heap w g _ _ _ (0, 0) hR) ⟨rfl, rfl, rfl, by simp [World.setRow], fun k _ hk => setRow_other w g k _ (fun e => hk (by rw [e]))⟩)
end

set_option maxRecDepth 100000 in
set_option maxHeartbeats 1000000 in
theorem set_M (w : World) (v a m : Nat) (hv : FeB w v) (ha : FeM w a m) :
    Calls Tryz.prog 72 #[.pointer (some ⟨v, 0, none⟩), .pointer (some ⟨a, 0, none⟩)] w fun e w' => e = .returned (.pointer (some ⟨v, 0, none⟩)) ∧ FeM w' v m ∧ w.grownBy w' (some v) := by
  obtain ⟨z, hz⟩ := hv
  obtain ⟨x, hx, ox, rfl⟩ := ha
  go_enter Tryz.func72, Tryz.ntmps72
  go_wp2_with (first | (refine wpList_loadE rfl (.tmp 7) rfl a x rfl hx ?_) | (refine wpList_storeE rfl (.tmp 9) (.tmp 8) rfl v x z rfl rfl hz ?_; intro w' h hg))
  go_ret
  exact ⟨rfl, ⟨_, h, ox, rfl⟩, hg⟩

/-- The variable feOne points at the element one. -/
def FeOne (w : World) : Prop := ∃ b p, w.cell? ⟨5, 0, none⟩ = some (.pointer (some ⟨b, p, none⟩)) ∧ w.rangeAt b p (L5.cells ⟨1, 0, 0, 0, 0⟩).toList
theorem FeOne.below {w w' : World} (h : FeOne w) (hb : Below w.heap.size w w') : FeOne w' := by
  obtain ⟨b, p, h1, h2⟩ := h
  have h3 := World.block_lt_of_cell? w _ h1
  exact ⟨b, p, (hb.cell (p := ⟨_, 0, none⟩) h3).trans h1, range_below h2 hb⟩
theorem FeOne.drew {w : World} (h : FeOne w) : FeOne w.drew := h

set_option maxRecDepth 100000 in
set_option maxHeartbeats 1000000 in
theorem one_M (w : World) (v : Nat) (hv : FeB w v) (h1 : FeOne w) :
    Calls Tryz.prog 71 #[.pointer (some ⟨v, 0, none⟩)] w fun e w' => e = .returned (.pointer (some ⟨v, 0, none⟩)) ∧ FeM w' v 1 ∧ w.grownBy w' (some v) := by
  obtain ⟨z, hz⟩ := hv
  obtain ⟨b, p, hc, hr⟩ := h1
  have HR := Lib.hid hr; clear hr
  go_enter Tryz.func71, Tryz.ntmps71
  go_wp2_with (first | (refine wpList_loadEr rfl (.tmp 5) rfl b p ⟨1, 0, 0, 0, 0⟩ rfl HR.out ?_) | (refine wpList_storeE rfl (.tmp 7) (.tmp 6) rfl v ⟨1, 0, 0, 0, 0⟩ z rfl rfl hz ?_; intro w' h hg))
  go_ret
  exact ⟨rfl, ⟨_, h, ⟨by decide, by decide, by decide, by decide, by decide⟩, by decide⟩, hg⟩

set_option maxRecDepth 100000 in
set_option maxHeartbeats 1000000 in
theorem mul51_any (w : World) (a b : Nat) (ha : a < 18446744073709551616) (hb : b < 4294967296) :
    Calls Tryz.prog 89 #[.int .u64 (a : Int), .int .u32 (b : Int)] w fun e w' => e = .returned (.tuple #[.int .u64 ((a * b % 2251799813685248 : Nat) : Int), .int .u64 ((a * b / 2251799813685248 : Nat) : Int)]) ∧ w' = w := by
  have hV : a * b < 18446744073709551616 * 4294967296 := Nat.mul_lt_mul'' ha hb
  obtain ⟨ml, hml⟩ : ∃ ml, ml = a * b % 18446744073709551616 := ⟨_, rfl⟩
  obtain ⟨mh, hmh⟩ : ∃ mh, mh = a * b / 18446744073709551616 := ⟨_, rfl⟩
  have e1 : bits BinOp.or IntKind.u64 ((mh : Int) * 8192) ((ml : Int) / 2251799813685248) = ((a * b / 2251799813685248 : Nat) : Int) := by
    rw [show (mh : Int) * 8192 = ((mh * 8192 : Nat) : Int) from by omega, show (ml : Int) / 2251799813685248 = ((ml / 2251799813685248 : Nat) : Int) from by omega, u64_or_nat _ _ (by omega) (by omega), nat_join 13 _ _ (by omega) (by omega)]
    omega
  have e2 : bits BinOp.and IntKind.u64 (ml : Int) 2251799813685247 = ((a * b % 2251799813685248 : Nat) : Int) := by
    rw [show (2251799813685247 : Int) = ((2251799813685247 : Nat) : Int) from rfl, u64_and_nat _ _ (by omega) (by omega), Nat.and_two_pow_sub_one_eq_mod _ 51]; congr 1; omega
  have hb2 : mh < 2251799813685248 := by omega
  obtain ⟨r, hr⟩ : ∃ r, r = a * b / 2251799813685248 := ⟨_, rfl⟩
  obtain ⟨q, hq⟩ : ∃ q, q = a * b % 2251799813685248 := ⟨_, rfl⟩
  rw [← hr] at e1 ⊢
  rw [← hq] at e2 ⊢
  have hb3 : (b : Int) < 18446744073709551616 := by omega
  have HL := Lib.hid hml; clear hml
  have HH := Lib.hid hmh; clear hmh hr hq hV
  go_enter Tryz.func89, Tryz.ntmps89
  go_wp2_with (go_at_call 99; refine (Tryz.bits_Mul64 a b ha (by omega) _).mono ?_; rintro e w ⟨rfl, rfl⟩; rw [← HL.out, ← HH.out])
  go_returns
  exact ⟨rfl, rfl⟩

set_option maxRecDepth 100000 in
set_option maxHeartbeats 1000000 in
theorem mult32_M (w : World) (v a m : Nat) (hv : FeB w v) (ha : FeM w a m) :
    Calls Tryz.prog 78 #[.pointer (some ⟨v, 0, none⟩), .pointer (some ⟨a, 0, none⟩), .int .u32 121666] w fun e w' => e = .returned (.pointer (some ⟨v, 0, none⟩)) ∧ FeM w' v (mulm 121666 m) ∧ w.grownBy w' (some v) := by
  obtain ⟨z, hz⟩ := hv
  obtain ⟨x, hx, ox, rfl⟩ := ha
  suffices hs : Calls Tryz.prog 78 #[.pointer (some ⟨v, 0, none⟩), .pointer (some ⟨a, 0, none⟩), .int .u32 121666] w fun e w' => e = .returned (.pointer (some ⟨v, 0, none⟩)) ∧ FeAt w' v (scaleL x 121666) ∧ w.grownBy w' (some v) by
    refine hs.mono ?_
    rintro e w' ⟨rfl, h, hg⟩
    exact ⟨rfl, ⟨_, h, ok_scale ox, val_scale x⟩, hg⟩
  obtain ⟨x0, x1, x2, x3, x4⟩ := x
  obtain ⟨hx0, hx1, hx2, hx3, hx4⟩ := ox
  simp only at hx0 hx1 hx2 hx3 hx4
  have c0 : w.cell? ⟨a, 0, none⟩ = some (.int .u64 (x0 : Int)) := hx.c0
  have c1 : w.cell? ⟨a, 1, none⟩ = some (.int .u64 (x1 : Int)) := hx.c1
  have c2 : w.cell? ⟨a, 2, none⟩ = some (.int .u64 (x2 : Int)) := hx.c2
  have c3 : w.cell? ⟨a, 3, none⟩ = some (.int .u64 (x3 : Int)) := hx.c3
  have c4 : w.cell? ⟨a, 4, none⟩ = some (.int .u64 (x4 : Int)) := hx.c4
  have f0 := hz.fr 0
  have cz0 : w.cell? ⟨v, 0, none⟩ = some (.int .u64 (z.l0 : Int)) := hz.c0
  have f1 := hz.fr 1
  have cz1 : w.cell? ⟨v, 1, none⟩ = some (.int .u64 (z.l1 : Int)) := hz.c1
  have f2 := hz.fr 2
  have cz2 : w.cell? ⟨v, 2, none⟩ = some (.int .u64 (z.l2 : Int)) := hz.c2
  have f3 := hz.fr 3
  have cz3 : w.cell? ⟨v, 3, none⟩ = some (.int .u64 (z.l3 : Int)) := hz.c3
  have f4 := hz.fr 4
  have cz4 : w.cell? ⟨v, 4, none⟩ = some (.int .u64 (z.l4 : Int)) := hz.c4
  have HX : Hid (x0 < 2251799880794112 ∧ x1 < 2251799880794112 ∧ x2 < 2251799880794112 ∧ x3 < 2251799880794112 ∧ x4 < 2251799880794112) := ⟨hx0, hx1, hx2, hx3, hx4⟩
  obtain ⟨r0, hr0⟩ : ∃ r, r = x0 * 121666 % 2251799813685248 := ⟨_, rfl⟩
  obtain ⟨q0, hq0⟩ : ∃ q, q = x0 * 121666 / 2251799813685248 := ⟨_, rfl⟩
  have br0 : r0 < 2251799813685248 := by omega
  have bq0 : q0 < 243332 := by omega
  have HR0 := Lib.hid hr0; clear hr0
  have HQ0 := Lib.hid hq0; clear hq0
  obtain ⟨r1, hr1⟩ : ∃ r, r = x1 * 121666 % 2251799813685248 := ⟨_, rfl⟩
  obtain ⟨q1, hq1⟩ : ∃ q, q = x1 * 121666 / 2251799813685248 := ⟨_, rfl⟩
  have br1 : r1 < 2251799813685248 := by omega
  have bq1 : q1 < 243332 := by omega
  have HR1 := Lib.hid hr1; clear hr1
  have HQ1 := Lib.hid hq1; clear hq1
  obtain ⟨r2, hr2⟩ : ∃ r, r = x2 * 121666 % 2251799813685248 := ⟨_, rfl⟩
  obtain ⟨q2, hq2⟩ : ∃ q, q = x2 * 121666 / 2251799813685248 := ⟨_, rfl⟩
  have br2 : r2 < 2251799813685248 := by omega
  have bq2 : q2 < 243332 := by omega
  have HR2 := Lib.hid hr2; clear hr2
  have HQ2 := Lib.hid hq2; clear hq2
  obtain ⟨r3, hr3⟩ : ∃ r, r = x3 * 121666 % 2251799813685248 := ⟨_, rfl⟩
  obtain ⟨q3, hq3⟩ : ∃ q, q = x3 * 121666 / 2251799813685248 := ⟨_, rfl⟩
  have br3 : r3 < 2251799813685248 := by omega
  have bq3 : q3 < 243332 := by omega
  have HR3 := Lib.hid hr3; clear hr3
  have HQ3 := Lib.hid hq3; clear hq3
  obtain ⟨r4, hr4⟩ : ∃ r, r = x4 * 121666 % 2251799813685248 := ⟨_, rfl⟩
  obtain ⟨q4, hq4⟩ : ∃ q, q = x4 * 121666 / 2251799813685248 := ⟨_, rfl⟩
  have br4 : r4 < 2251799813685248 := by omega
  have bq4 : q4 < 243332 := by omega
  have HR4 := Lib.hid hr4; clear hr4
  have HQ4 := Lib.hid hq4; clear hq4
  have hfin : scaleL ⟨x0, x1, x2, x3, x4⟩ 121666 = ⟨r0 + 19 * q4, r1 + q0, r2 + q1, r3 + q2, r4 + q3⟩ := by
    simp only [scaleL, HR0.out, HQ0.out, HR1.out, HQ1.out, HR2.out, HQ2.out, HR3.out, HQ3.out, HR4.out, HQ4.out]
  rw [hfin]
  clear hfin
  have e19 : IntKind.u64.wrap (19 * (q4 : Int)) = 19 * (q4 : Int) := IntWalk.u64_in _ (by omega)
  go_enter Tryz.func78, Tryz.ntmps78
  go_wp2_with fail
  refine (mul51_any _ x0 121666 (by have := HX.out; omega) (by decide)).mono ?_
  rintro e w0 ⟨rfl, hw0⟩
  subst hw0
  rw [← HR0.out, ← HQ0.out]
  go_wp2_with fail
  refine (mul51_any _ x1 121666 (by have := HX.out; omega) (by decide)).mono ?_
  rintro e w1 ⟨rfl, hw1⟩
  subst hw1
  rw [← HR1.out, ← HQ1.out]
  go_wp2_with fail
  refine (mul51_any _ x2 121666 (by have := HX.out; omega) (by decide)).mono ?_
  rintro e w2 ⟨rfl, hw2⟩
  subst hw2
  rw [← HR2.out, ← HQ2.out]
  go_wp2_with fail
  refine (mul51_any _ x3 121666 (by have := HX.out; omega) (by decide)).mono ?_
  rintro e w3 ⟨rfl, hw3⟩
  subst hw3
  rw [← HR3.out, ← HQ3.out]
  go_wp2_with fail
  refine (mul51_any _ x4 121666 (by have := HX.out; omega) (by decide)).mono ?_
  rintro e w4 ⟨rfl, hw4⟩
  subst hw4
  rw [← HR4.out, ← HQ4.out]
  go_wp2_with fail
  go_ret
  refine ⟨rfl, ?_, ?_⟩
  · exact ((((hz.s0 (r0 + 19 * q4)).s1 (r1 + q0)).s2 (r2 + q1)).s3 (r3 + q2)).s4 (r4 + q3)
  · exact grown_set (grown_set (grown_set (grown_set (grown_set (grown_refl _ _) 0 _) 1 _) 2 _) 3 _) 4 _
end Go.Proofs.YthjminkkmljjhaaGreatDoor

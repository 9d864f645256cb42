/- Elements of the field in their blocks: carryPropagate, Add, Subtract. Conditions: limbs as small as each states. -/
import Derived.Test.YthjminkkmljjhaaGreatDoorFm
import Derived.BigRegion
import Derived.Deep.RegionWith
import Derived.Deep.DeepCutAuto
namespace Go.Proofs.YthjminkkmljjhaaGreatDoor
open Go.RowKit

/-- Five limbs. -/
structure L5 where
  l0 : Nat
  l1 : Nat
  l2 : Nat
  l3 : Nat
  l4 : Nat

def L5.cells (x : L5) : Array Value := #[.int .u64 (x.l0 : Int), .int .u64 (x.l1 : Int), .int .u64 (x.l2 : Int), .int .u64 (x.l3 : Int), .int .u64 (x.l4 : Int)]
def FeAt (w : World) (g : Nat) (x : L5) : Prop := w.heap[g]? = some (.cells x.cells 109 (0, 0))
theorem FeAt.lt {w : World} {g : Nat} {x : L5} (h : FeAt w g x) : g < w.heap.size := (Array.getElem?_eq_some_iff.1 h).1
theorem FeAt.c0 {w : World} {g : Nat} {x : L5} (h : FeAt w g x) : w.cell? ⟨g, 0, none⟩ = some (.int .u64 (x.l0 : Int)) := by unfold FeAt at h; simp [World.cell?, h, L5.cells]
theorem FeAt.c1 {w : World} {g : Nat} {x : L5} (h : FeAt w g x) : w.cell? ⟨g, 1, none⟩ = some (.int .u64 (x.l1 : Int)) := by unfold FeAt at h; simp [World.cell?, h, L5.cells]
theorem FeAt.c2 {w : World} {g : Nat} {x : L5} (h : FeAt w g x) : w.cell? ⟨g, 2, none⟩ = some (.int .u64 (x.l2 : Int)) := by unfold FeAt at h; simp [World.cell?, h, L5.cells]
theorem FeAt.c3 {w : World} {g : Nat} {x : L5} (h : FeAt w g x) : w.cell? ⟨g, 3, none⟩ = some (.int .u64 (x.l3 : Int)) := by unfold FeAt at h; simp [World.cell?, h, L5.cells]
theorem FeAt.c4 {w : World} {g : Nat} {x : L5} (h : FeAt w g x) : w.cell? ⟨g, 4, none⟩ = some (.int .u64 (x.l4 : Int)) := by unfold FeAt at h; simp [World.cell?, h, L5.cells]
theorem FeAt.fr {w : World} {g : Nat} {x : L5} (h : FeAt w g x) (i : Nat) : w.frozen? ⟨g, i, none⟩ = false := by unfold FeAt at h; simp [World.frozen?, h]

theorem FeAt.s0 {w : World} {g : Nat} {x : L5} (h : FeAt w g x) (n : Nat) : FeAt (w.setCell ⟨g, 0, none⟩ (.int .u64 (n : Int))) g { x with l0 := n } := by
  unfold FeAt at h ⊢
  simp [World.setCell, Array.getElem?_modify, h, L5.cells]
theorem FeAt.s1 {w : World} {g : Nat} {x : L5} (h : FeAt w g x) (n : Nat) : FeAt (w.setCell ⟨g, 1, none⟩ (.int .u64 (n : Int))) g { x with l1 := n } := by
  unfold FeAt at h ⊢
  simp [World.setCell, Array.getElem?_modify, h, L5.cells]
theorem FeAt.s2 {w : World} {g : Nat} {x : L5} (h : FeAt w g x) (n : Nat) : FeAt (w.setCell ⟨g, 2, none⟩ (.int .u64 (n : Int))) g { x with l2 := n } := by
  unfold FeAt at h ⊢
  simp [World.setCell, Array.getElem?_modify, h, L5.cells]
theorem FeAt.s3 {w : World} {g : Nat} {x : L5} (h : FeAt w g x) (n : Nat) : FeAt (w.setCell ⟨g, 3, none⟩ (.int .u64 (n : Int))) g { x with l3 := n } := by
  unfold FeAt at h ⊢
  simp [World.setCell, Array.getElem?_modify, h, L5.cells]
theorem FeAt.s4 {w : World} {g : Nat} {x : L5} (h : FeAt w g x) (n : Nat) : FeAt (w.setCell ⟨g, 4, none⟩ (.int .u64 (n : Int))) g { x with l4 := n } := by
  unfold FeAt at h ⊢
  simp [World.setCell, Array.getElem?_modify, h, L5.cells]
theorem FeAt.drew {w : World} {g : Nat} {x : L5} (h : FeAt w g x) : FeAt w.drew g x := h
theorem grown_set {w w' : World} {g : Nat} (h : w.grownBy w' (some g)) (i : Nat) (u : Value) : w.grownBy (w'.setCell ⟨g, i, none⟩ u) (some g) :=
  ⟨h.os, h.tape, h.output, by have := h.size; simpa [World.setCell] using this, fun k hk hne => by
    rw [Below.heap_setCell _ _ _ _ (fun e => hne (by rw [e]))]; exact h.block k hk hne⟩
theorem grown_drew {w w' : World} {r : Option Nat} (h : w.grownBy w' r) : w.grownBy w'.drew r := ⟨h.os, h.tape, h.output, h.size, h.block⟩

/-- What carryPropagate makes of the limbs. -/
def carryL (x : L5) : L5 := ⟨x.l0 % 2251799813685248 + 19 * (x.l4 / 2251799813685248), x.l1 % 2251799813685248 + x.l0 / 2251799813685248, x.l2 % 2251799813685248 + x.l1 / 2251799813685248, x.l3 % 2251799813685248 + x.l2 / 2251799813685248, x.l4 % 2251799813685248 + x.l3 / 2251799813685248⟩

set_option maxRecDepth 100000 in
set_option maxHeartbeats 4000000 in
theorem carry_any (w : World) (v : Nat) (x : L5) (hv : FeAt w v x) (h0 : x.l0 < 18446744073709551616) (h1 : x.l1 < 18446744073709551616) (h2 : x.l2 < 18446744073709551616) (h3 : x.l3 < 18446744073709551616) (h4 : x.l4 < 18446744073709551616) :
    Calls Tryz.prog 86 #[.pointer (some ⟨v, 0, none⟩)] w fun e w' => e = .returned (.pointer (some ⟨v, 0, none⟩)) ∧ FeAt w' v (carryL x) ∧ w.grownBy w' (some v) := by
  obtain ⟨l0, l1, l2, l3, l4⟩ := x
  simp only at h0 h1 h2 h3 h4
  obtain ⟨r0, hr0⟩ : ∃ r, r = l0 % 2251799813685248 := ⟨_, rfl⟩
  obtain ⟨q0, hq0⟩ : ∃ q, q = l0 / 2251799813685248 := ⟨_, rfl⟩
  have e0 : bits BinOp.and IntKind.u64 (l0 : Int) 2251799813685247 = (r0 : Int) := by
    rw [show (2251799813685247 : Int) = ((2251799813685247 : Nat) : Int) from rfl, u64_and_nat _ _ h0 (by omega), Nat.and_two_pow_sub_one_eq_mod _ 51, hr0]
  have d0 : (l0 : Int) / 2251799813685248 = (q0 : Int) := by omega
  have b0 : r0 < 2251799813685248 := by omega
  have g0 : q0 < 8192 := by omega
  obtain ⟨r1, hr1⟩ : ∃ r, r = l1 % 2251799813685248 := ⟨_, rfl⟩
  obtain ⟨q1, hq1⟩ : ∃ q, q = l1 / 2251799813685248 := ⟨_, rfl⟩
  have e1 : bits BinOp.and IntKind.u64 (l1 : Int) 2251799813685247 = (r1 : Int) := by
    rw [show (2251799813685247 : Int) = ((2251799813685247 : Nat) : Int) from rfl, u64_and_nat _ _ h1 (by omega), Nat.and_two_pow_sub_one_eq_mod _ 51, hr1]
  have d1 : (l1 : Int) / 2251799813685248 = (q1 : Int) := by omega
  have b1 : r1 < 2251799813685248 := by omega
  have g1 : q1 < 8192 := by omega
  obtain ⟨r2, hr2⟩ : ∃ r, r = l2 % 2251799813685248 := ⟨_, rfl⟩
  obtain ⟨q2, hq2⟩ : ∃ q, q = l2 / 2251799813685248 := ⟨_, rfl⟩
  have e2 : bits BinOp.and IntKind.u64 (l2 : Int) 2251799813685247 = (r2 : Int) := by
    rw [show (2251799813685247 : Int) = ((2251799813685247 : Nat) : Int) from rfl, u64_and_nat _ _ h2 (by omega), Nat.and_two_pow_sub_one_eq_mod _ 51, hr2]
  have d2 : (l2 : Int) / 2251799813685248 = (q2 : Int) := by omega
  have b2 : r2 < 2251799813685248 := by omega
  have g2 : q2 < 8192 := by omega
  obtain ⟨r3, hr3⟩ : ∃ r, r = l3 % 2251799813685248 := ⟨_, rfl⟩
  obtain ⟨q3, hq3⟩ : ∃ q, q = l3 / 2251799813685248 := ⟨_, rfl⟩
  have e3 : bits BinOp.and IntKind.u64 (l3 : Int) 2251799813685247 = (r3 : Int) := by
    rw [show (2251799813685247 : Int) = ((2251799813685247 : Nat) : Int) from rfl, u64_and_nat _ _ h3 (by omega), Nat.and_two_pow_sub_one_eq_mod _ 51, hr3]
  have d3 : (l3 : Int) / 2251799813685248 = (q3 : Int) := by omega
  have b3 : r3 < 2251799813685248 := by omega
  have g3 : q3 < 8192 := by omega
  obtain ⟨r4, hr4⟩ : ∃ r, r = l4 % 2251799813685248 := ⟨_, rfl⟩
  obtain ⟨q4, hq4⟩ : ∃ q, q = l4 / 2251799813685248 := ⟨_, rfl⟩
  have e4 : bits BinOp.and IntKind.u64 (l4 : Int) 2251799813685247 = (r4 : Int) := by
    rw [show (2251799813685247 : Int) = ((2251799813685247 : Nat) : Int) from rfl, u64_and_nat _ _ h4 (by omega), Nat.and_two_pow_sub_one_eq_mod _ 51, hr4]
  have d4 : (l4 : Int) / 2251799813685248 = (q4 : Int) := by omega
  have b4 : r4 < 2251799813685248 := by omega
  have g4 : q4 < 8192 := by omega
  have hC : carryL ⟨l0, l1, l2, l3, l4⟩ = ⟨r0 + 19 * q4, r1 + q0, r2 + q1, r3 + q2, r4 + q3⟩ := by
    simp only [carryL, hr0, hr1, hr2, hr3, hr4, hq0, hq1, hq2, hq3, hq4]
  rw [hC]
  clear hC hr0 hr1 hr2 hr3 hr4 hq0 hq1 hq2 hq3 hq4
  have w0 : IntKind.u64.wrap ((r0 : Int) + 19 * (q4 : Int)) = (r0 : Int) + 19 * (q4 : Int) := IntWalk.u64_in _ (by omega)
  have w1 : IntKind.u64.wrap ((r1 : Int) + (q0 : Int)) = (r1 : Int) + (q0 : Int) := IntWalk.u64_in _ (by omega)
  have w2 : IntKind.u64.wrap ((r2 : Int) + (q1 : Int)) = (r2 : Int) + (q1 : Int) := IntWalk.u64_in _ (by omega)
  have w3 : IntKind.u64.wrap ((r3 : Int) + (q2 : Int)) = (r3 : Int) + (q2 : Int) := IntWalk.u64_in _ (by omega)
  have w4 : IntKind.u64.wrap ((r4 : Int) + (q3 : Int)) = (r4 : Int) + (q3 : Int) := IntWalk.u64_in _ (by omega)
  have c0 : w.cell? ⟨v, 0, none⟩ = some (.int .u64 ((l0 : Nat) : Int)) := hv.c0
  have c1 : w.cell? ⟨v, 1, none⟩ = some (.int .u64 ((l1 : Nat) : Int)) := hv.c1
  have c2 : w.cell? ⟨v, 2, none⟩ = some (.int .u64 ((l2 : Nat) : Int)) := hv.c2
  have c3 : w.cell? ⟨v, 3, none⟩ = some (.int .u64 ((l3 : Nat) : Int)) := hv.c3
  have c4 : w.cell? ⟨v, 4, none⟩ = some (.int .u64 ((l4 : Nat) : Int)) := hv.c4
  go_enter Tryz.func86, Tryz.ntmps86
  go_upto_region 2 with fail
  go_cut [] (fun wx => FeAt wx v ⟨r0 + 19 * q4, l1, l2, l3, l4⟩ ∧ w.grownBy wx (some v))
  case first =>
    have f0 := hv.fr 0
    go_region_with (go_at_call 92; refine (mul19_any _ q4 (by omega)).mono ?_; rintro e w' ⟨rfl, rfl⟩)
    all_goals (go_wp2_with fail; go_meet)
    all_goals exact ⟨(hv.s0 (r0 + 19 * q4)).drew, grown_drew (grown_set (World.grownBy.refl _ _) 0 _)⟩
  case rest =>
    obtain ⟨k0, gg0⟩ := hcut
    clear c0 c1 c2 c3 c4
    have c0 : wc.cell? ⟨v, 0, none⟩ = some (.int .u64 ((r0 + 19 * q4 : Nat) : Int)) := k0.c0
    have c1 : wc.cell? ⟨v, 1, none⟩ = some (.int .u64 ((l1 : Nat) : Int)) := k0.c1
    have c2 : wc.cell? ⟨v, 2, none⟩ = some (.int .u64 ((l2 : Nat) : Int)) := k0.c2
    have c3 : wc.cell? ⟨v, 3, none⟩ = some (.int .u64 ((l3 : Nat) : Int)) := k0.c3
    have c4 : wc.cell? ⟨v, 4, none⟩ = some (.int .u64 ((l4 : Nat) : Int)) := k0.c4
    go_upto_region 3 with fail
    go_cut [] (fun wx => FeAt wx v ⟨r0 + 19 * q4, l1, l2, l3, r4 + q3⟩ ∧ w.grownBy wx (some v))
    case first =>
      have f0 := k0.fr 4
      go_region
      all_goals (go_wp2_with fail; go_meet)
      all_goals exact ⟨(k0.s4 (r4 + q3)).drew, grown_drew (grown_set gg0 4 _)⟩
    case rest =>
      obtain ⟨k1, gg1⟩ := hcut
      clear c0 c1 c2 c3 c4
      have c0 : wc.cell? ⟨v, 0, none⟩ = some (.int .u64 ((r0 + 19 * q4 : Nat) : Int)) := k1.c0
      have c1 : wc.cell? ⟨v, 1, none⟩ = some (.int .u64 ((l1 : Nat) : Int)) := k1.c1
      have c2 : wc.cell? ⟨v, 2, none⟩ = some (.int .u64 ((l2 : Nat) : Int)) := k1.c2
      have c3 : wc.cell? ⟨v, 3, none⟩ = some (.int .u64 ((l3 : Nat) : Int)) := k1.c3
      have c4 : wc.cell? ⟨v, 4, none⟩ = some (.int .u64 ((r4 + q3 : Nat) : Int)) := k1.c4
      go_upto_region 4 with fail
      go_cut [] (fun wx => FeAt wx v ⟨r0 + 19 * q4, l1, l2, r3 + q2, r4 + q3⟩ ∧ w.grownBy wx (some v))
      case first =>
        have f0 := k1.fr 3
        go_region
        all_goals (go_wp2_with fail; go_meet)
        all_goals exact ⟨(k1.s3 (r3 + q2)).drew, grown_drew (grown_set gg1 3 _)⟩
      case rest =>
        obtain ⟨k2, gg2⟩ := hcut
        clear c0 c1 c2 c3 c4
        have c0 : wc.cell? ⟨v, 0, none⟩ = some (.int .u64 ((r0 + 19 * q4 : Nat) : Int)) := k2.c0
        have c1 : wc.cell? ⟨v, 1, none⟩ = some (.int .u64 ((l1 : Nat) : Int)) := k2.c1
        have c2 : wc.cell? ⟨v, 2, none⟩ = some (.int .u64 ((l2 : Nat) : Int)) := k2.c2
        have c3 : wc.cell? ⟨v, 3, none⟩ = some (.int .u64 ((r3 + q2 : Nat) : Int)) := k2.c3
        have c4 : wc.cell? ⟨v, 4, none⟩ = some (.int .u64 ((r4 + q3 : Nat) : Int)) := k2.c4
        go_upto_region 5 with fail
        go_cut [] (fun wx => FeAt wx v ⟨r0 + 19 * q4, l1, r2 + q1, r3 + q2, r4 + q3⟩ ∧ w.grownBy wx (some v))
        case first =>
          have f0 := k2.fr 2
          go_region
          all_goals (go_wp2_with fail; go_meet)
          all_goals exact ⟨(k2.s2 (r2 + q1)).drew, grown_drew (grown_set gg2 2 _)⟩
        case rest =>
          obtain ⟨k3, gg3⟩ := hcut
          clear c0 c1 c2 c3 c4
          have c0 : wc.cell? ⟨v, 0, none⟩ = some (.int .u64 ((r0 + 19 * q4 : Nat) : Int)) := k3.c0
          have c1 : wc.cell? ⟨v, 1, none⟩ = some (.int .u64 ((l1 : Nat) : Int)) := k3.c1
          have c2 : wc.cell? ⟨v, 2, none⟩ = some (.int .u64 ((r2 + q1 : Nat) : Int)) := k3.c2
          have c3 : wc.cell? ⟨v, 3, none⟩ = some (.int .u64 ((r3 + q2 : Nat) : Int)) := k3.c3
          have c4 : wc.cell? ⟨v, 4, none⟩ = some (.int .u64 ((r4 + q3 : Nat) : Int)) := k3.c4
          have f0 := k3.fr 1
          go_wp2
          go_ret
          exact ⟨rfl, k3.s1 (r1 + q0), grown_set gg3 1 _⟩
end Go.Proofs.YthjminkkmljjhaaGreatDoor

/- Element.Add and Element.Subtract. Conditions: limbs as small as each states. (Printed by wip/genfe.py.) -/
import Derived.Test.YthjminkkmljjhaaGreatDoorFe
import Derived.Laws.Tables
import Derived.Laws.Rows
namespace Go.Proofs.YthjminkkmljjhaaGreatDoor
open Go.RowKit

theorem cell_other {w : World} {v g i j : Nat} {u : Value} (h : i ≠ j) : (w.setCell ⟨v, i, none⟩ u).drew.cell? ⟨g, j, none⟩ = w.cell? ⟨g, j, none⟩ :=
  World.cell?_setCell_other _ _ _ _ (by intro e; injection e with _ e2 _; exact h e2)
theorem grown_trans {w w1 w2 : World} {r : Option Nat} (h : w.grownBy w1 r) (k : w1.grownBy w2 r) : w.grownBy w2 r :=
  ⟨k.os.trans h.os, k.tape.trans h.tape, k.output.trans h.output, Nat.le_trans h.size k.size, fun i hi hne => (k.block i (Nat.lt_of_lt_of_le hi h.size) hne).trans (h.block i hi hne)⟩

set_option maxRecDepth 100000 in
set_option maxHeartbeats 4000000 in
theorem add_any (w : World) (v a b : Nat) (z x y : L5) (hv : FeAt w v z) (ha : FeAt w a x) (hb : FeAt w b y) (hx : x.l0 < 4611686018427387904 ∧ x.l1 < 4611686018427387904 ∧ x.l2 < 4611686018427387904 ∧ x.l3 < 4611686018427387904 ∧ x.l4 < 4611686018427387904) (hy : y.l0 < 4611686018427387904 ∧ y.l1 < 4611686018427387904 ∧ y.l2 < 4611686018427387904 ∧ y.l3 < 4611686018427387904 ∧ y.l4 < 4611686018427387904) :
    Calls Tryz.prog 75 #[.pointer (some ⟨v, 0, none⟩), .pointer (some ⟨a, 0, none⟩), .pointer (some ⟨b, 0, none⟩)] w fun e w' => e = .returned (.pointer (some ⟨v, 0, none⟩)) ∧ FeAt w' v (carryL ⟨x.l0 + y.l0, x.l1 + y.l1, x.l2 + y.l2, x.l3 + y.l3, x.l4 + y.l4⟩) ∧ w.grownBy w' (some v) := by
  obtain ⟨z0, z1, z2, z3, z4⟩ := z
  obtain ⟨x0, x1, x2, x3, x4⟩ := x
  obtain ⟨y0, y1, y2, y3, y4⟩ := y
  simp only at hx hy
  show Calls _ _ _ _ fun e w' => e = .returned (.pointer (some ⟨v, 0, none⟩)) ∧ FeAt w' v (carryL ⟨x0 + y0, x1 + y1, x2 + y2, x3 + y3, x4 + y4⟩) ∧ w.grownBy w' (some v)
  obtain ⟨s0, hs0⟩ : ∃ s, s = x0 + y0 := ⟨_, rfl⟩
  have hl0 : s0 < 18446744073709551616 := by omega
  have w01 : IntKind.u64.wrap ((x0 : Int) + (y0 : Int)) = (s0 : Int) := by rw [hs0]; exact (IntWalk.u64_in _ (by omega)).trans (by omega)
  obtain ⟨s1, hs1⟩ : ∃ s, s = x1 + y1 := ⟨_, rfl⟩
  have hl1 : s1 < 18446744073709551616 := by omega
  have w11 : IntKind.u64.wrap ((x1 : Int) + (y1 : Int)) = (s1 : Int) := by rw [hs1]; exact (IntWalk.u64_in _ (by omega)).trans (by omega)
  obtain ⟨s2, hs2⟩ : ∃ s, s = x2 + y2 := ⟨_, rfl⟩
  have hl2 : s2 < 18446744073709551616 := by omega
  have w21 : IntKind.u64.wrap ((x2 : Int) + (y2 : Int)) = (s2 : Int) := by rw [hs2]; exact (IntWalk.u64_in _ (by omega)).trans (by omega)
  obtain ⟨s3, hs3⟩ : ∃ s, s = x3 + y3 := ⟨_, rfl⟩
  have hl3 : s3 < 18446744073709551616 := by omega
  have w31 : IntKind.u64.wrap ((x3 : Int) + (y3 : Int)) = (s3 : Int) := by rw [hs3]; exact (IntWalk.u64_in _ (by omega)).trans (by omega)
  obtain ⟨s4, hs4⟩ : ∃ s, s = x4 + y4 := ⟨_, rfl⟩
  have hl4 : s4 < 18446744073709551616 := by omega
  have w41 : IntKind.u64.wrap ((x4 : Int) + (y4 : Int)) = (s4 : Int) := by rw [hs4]; exact (IntWalk.u64_in _ (by omega)).trans (by omega)
  rw [← hs0, ← hs1, ← hs2, ← hs3, ← hs4]
  clear hs0 hs1 hs2 hs3 hs4 hx hy
  have ca0 : w.cell? ⟨a, 0, none⟩ = some (.int .u64 (x0 : Int)) := ha.c0
  have cb0 : w.cell? ⟨b, 0, none⟩ = some (.int .u64 (y0 : Int)) := hb.c0
  have ca1 : w.cell? ⟨a, 1, none⟩ = some (.int .u64 (x1 : Int)) := ha.c1
  have cb1 : w.cell? ⟨b, 1, none⟩ = some (.int .u64 (y1 : Int)) := hb.c1
  have ca2 : w.cell? ⟨a, 2, none⟩ = some (.int .u64 (x2 : Int)) := ha.c2
  have cb2 : w.cell? ⟨b, 2, none⟩ = some (.int .u64 (y2 : Int)) := hb.c2
  have ca3 : w.cell? ⟨a, 3, none⟩ = some (.int .u64 (x3 : Int)) := ha.c3
  have cb3 : w.cell? ⟨b, 3, none⟩ = some (.int .u64 (y3 : Int)) := hb.c3
  have ca4 : w.cell? ⟨a, 4, none⟩ = some (.int .u64 (x4 : Int)) := ha.c4
  have cb4 : w.cell? ⟨b, 4, none⟩ = some (.int .u64 (y4 : Int)) := hb.c4
  go_enter Tryz.func75, Tryz.ntmps75
  go_upto_region 1 with fail
  go_cut [] (fun wx => FeAt wx v ⟨s0, z1, z2, z3, z4⟩ ∧ w.grownBy wx (some v) ∧ wx.cell? ⟨a, 1, none⟩ = some (.int .u64 (x1 : Int)) ∧ wx.cell? ⟨b, 1, none⟩ = some (.int .u64 (y1 : Int)) ∧ wx.cell? ⟨a, 2, none⟩ = some (.int .u64 (x2 : Int)) ∧ wx.cell? ⟨b, 2, none⟩ = some (.int .u64 (y2 : Int)) ∧ wx.cell? ⟨a, 3, none⟩ = some (.int .u64 (x3 : Int)) ∧ wx.cell? ⟨b, 3, none⟩ = some (.int .u64 (y3 : Int)) ∧ wx.cell? ⟨a, 4, none⟩ = some (.int .u64 (x4 : Int)) ∧ wx.cell? ⟨b, 4, none⟩ = some (.int .u64 (y4 : Int)))
  case first =>
    have f0 := hv.fr 0
    have cv : w.cell? ⟨v, 0, none⟩ = some (.int .u64 (z0 : Int)) := hv.c0
    go_region
    all_goals (go_wp2_with fail; go_meet)
    all_goals refine ⟨(hv.s0 s0).drew, grown_drew (grown_set (World.grownBy.refl _ _) 0 _), ?_, ?_, ?_, ?_, ?_, ?_, ?_, ?_⟩
    all_goals first
      | exact (cell_other (by decide)).trans ca1
      | exact (cell_other (by decide)).trans cb1
      | exact (cell_other (by decide)).trans ca2
      | exact (cell_other (by decide)).trans cb2
      | exact (cell_other (by decide)).trans ca3
      | exact (cell_other (by decide)).trans cb3
      | exact (cell_other (by decide)).trans ca4
      | exact (cell_other (by decide)).trans cb4
  case rest =>
    obtain ⟨k0, g0, na1, nb1, na2, nb2, na3, nb3, na4, nb4⟩ := hcut
    clear ca0 cb0 ca1 cb1 ca2 cb2 ca3 cb3 ca4 cb4
    have ca1 := na1
    have cb1 := nb1
    have ca2 := na2
    have cb2 := nb2
    have ca3 := na3
    have cb3 := nb3
    have ca4 := na4
    have cb4 := nb4
    clear na1 nb1 na2 nb2 na3 nb3 na4 nb4
    go_upto_region 2 with fail
    go_cut [] (fun wx => FeAt wx v ⟨s0, s1, z2, z3, z4⟩ ∧ w.grownBy wx (some v) ∧ wx.cell? ⟨a, 2, none⟩ = some (.int .u64 (x2 : Int)) ∧ wx.cell? ⟨b, 2, none⟩ = some (.int .u64 (y2 : Int)) ∧ wx.cell? ⟨a, 3, none⟩ = some (.int .u64 (x3 : Int)) ∧ wx.cell? ⟨b, 3, none⟩ = some (.int .u64 (y3 : Int)) ∧ wx.cell? ⟨a, 4, none⟩ = some (.int .u64 (x4 : Int)) ∧ wx.cell? ⟨b, 4, none⟩ = some (.int .u64 (y4 : Int)))
    case first =>
      have f0 := k0.fr 1
      have cv : wc.cell? ⟨v, 1, none⟩ = some (.int .u64 (z1 : Int)) := k0.c1
      go_region
      all_goals (go_wp2_with fail; go_meet)
      all_goals refine ⟨(k0.s1 s1).drew, grown_drew (grown_set g0 1 _), ?_, ?_, ?_, ?_, ?_, ?_⟩
      all_goals first
        | exact (cell_other (by decide)).trans ca2
        | exact (cell_other (by decide)).trans cb2
        | exact (cell_other (by decide)).trans ca3
        | exact (cell_other (by decide)).trans cb3
        | exact (cell_other (by decide)).trans ca4
        | exact (cell_other (by decide)).trans cb4
    case rest =>
      obtain ⟨k1, g1, na2, nb2, na3, nb3, na4, nb4⟩ := hcut
      clear ca1 cb1 ca2 cb2 ca3 cb3 ca4 cb4
      have ca2 := na2
      have cb2 := nb2
      have ca3 := na3
      have cb3 := nb3
      have ca4 := na4
      have cb4 := nb4
      clear na2 nb2 na3 nb3 na4 nb4
      go_upto_region 3 with fail
      go_cut [] (fun wx => FeAt wx v ⟨s0, s1, s2, z3, z4⟩ ∧ w.grownBy wx (some v) ∧ wx.cell? ⟨a, 3, none⟩ = some (.int .u64 (x3 : Int)) ∧ wx.cell? ⟨b, 3, none⟩ = some (.int .u64 (y3 : Int)) ∧ wx.cell? ⟨a, 4, none⟩ = some (.int .u64 (x4 : Int)) ∧ wx.cell? ⟨b, 4, none⟩ = some (.int .u64 (y4 : Int)))
      case first =>
        have f0 := k1.fr 2
        have cv : wc.cell? ⟨v, 2, none⟩ = some (.int .u64 (z2 : Int)) := k1.c2
        go_region
        all_goals (go_wp2_with fail; go_meet)
        all_goals refine ⟨(k1.s2 s2).drew, grown_drew (grown_set g1 2 _), ?_, ?_, ?_, ?_⟩
        all_goals first
          | exact (cell_other (by decide)).trans ca3
          | exact (cell_other (by decide)).trans cb3
          | exact (cell_other (by decide)).trans ca4
          | exact (cell_other (by decide)).trans cb4
      case rest =>
        obtain ⟨k2, g2, na3, nb3, na4, nb4⟩ := hcut
        clear ca2 cb2 ca3 cb3 ca4 cb4
        have ca3 := na3
        have cb3 := nb3
        have ca4 := na4
        have cb4 := nb4
        clear na3 nb3 na4 nb4
        go_upto_region 4 with fail
        go_cut [] (fun wx => FeAt wx v ⟨s0, s1, s2, s3, z4⟩ ∧ w.grownBy wx (some v) ∧ wx.cell? ⟨a, 4, none⟩ = some (.int .u64 (x4 : Int)) ∧ wx.cell? ⟨b, 4, none⟩ = some (.int .u64 (y4 : Int)))
        case first =>
          have f0 := k2.fr 3
          have cv : wc.cell? ⟨v, 3, none⟩ = some (.int .u64 (z3 : Int)) := k2.c3
          go_region
          all_goals (go_wp2_with fail; go_meet)
          all_goals refine ⟨(k2.s3 s3).drew, grown_drew (grown_set g2 3 _), ?_, ?_⟩
          all_goals first
            | exact (cell_other (by decide)).trans ca4
            | exact (cell_other (by decide)).trans cb4
        case rest =>
          obtain ⟨k3, g3, na4, nb4⟩ := hcut
          clear ca3 cb3 ca4 cb4
          have ca4 := na4
          have cb4 := nb4
          clear na4 nb4
          go_upto_region 5 with fail
          go_cut [] (fun wx => FeAt wx v ⟨s0, s1, s2, s3, s4⟩ ∧ w.grownBy wx (some v))
          case first =>
            have f0 := k3.fr 4
            have cv : wc.cell? ⟨v, 4, none⟩ = some (.int .u64 (z4 : Int)) := k3.c4
            go_region
            all_goals (go_wp2_with fail; go_meet)
            all_goals refine ⟨(k3.s4 s4).drew, grown_drew (grown_set g3 4 _)⟩
          case rest =>
            obtain ⟨k4, g4⟩ := hcut
            clear ca4 cb4
            go_wp2_with (go_at_call 86; refine (carry_any _ v ⟨s0, s1, s2, s3, s4⟩ k4 hl0 hl1 hl2 hl3 hl4).mono ?_; rintro e w9 ⟨rfl, k9, g9⟩)
            go_ret
            exact ⟨rfl, k9, grown_trans g4 g9⟩

set_option maxRecDepth 100000 in
set_option maxHeartbeats 4000000 in
theorem sub_any (w : World) (v a b : Nat) (z x y : L5) (hv : FeAt w v z) (ha : FeAt w a x) (hb : FeAt w b y) (hx : x.l0 < 4611686018427387904 ∧ x.l1 < 4611686018427387904 ∧ x.l2 < 4611686018427387904 ∧ x.l3 < 4611686018427387904 ∧ x.l4 < 4611686018427387904) (hy : y.l0 < 4503599627370458 ∧ y.l1 < 4503599627370458 ∧ y.l2 < 4503599627370458 ∧ y.l3 < 4503599627370458 ∧ y.l4 < 4503599627370458) :
    Calls Tryz.prog 74 #[.pointer (some ⟨v, 0, none⟩), .pointer (some ⟨a, 0, none⟩), .pointer (some ⟨b, 0, none⟩)] w fun e w' => e = .returned (.pointer (some ⟨v, 0, none⟩)) ∧ FeAt w' v (carryL ⟨x.l0 + 4503599627370458 - y.l0, x.l1 + 4503599627370494 - y.l1, x.l2 + 4503599627370494 - y.l2, x.l3 + 4503599627370494 - y.l3, x.l4 + 4503599627370494 - y.l4⟩) ∧ w.grownBy w' (some v) := by
  obtain ⟨z0, z1, z2, z3, z4⟩ := z
  obtain ⟨x0, x1, x2, x3, x4⟩ := x
  obtain ⟨y0, y1, y2, y3, y4⟩ := y
  simp only at hx hy
  show Calls _ _ _ _ fun e w' => e = .returned (.pointer (some ⟨v, 0, none⟩)) ∧ FeAt w' v (carryL ⟨x0 + 4503599627370458 - y0, x1 + 4503599627370494 - y1, x2 + 4503599627370494 - y2, x3 + 4503599627370494 - y3, x4 + 4503599627370494 - y4⟩) ∧ w.grownBy w' (some v)
  obtain ⟨s0, hs0⟩ : ∃ s, s = x0 + 4503599627370458 - y0 := ⟨_, rfl⟩
  have hl0 : s0 < 18446744073709551616 := by omega
  have w00 : IntKind.u64.wrap ((x0 : Int) + 4503599627370458) = (x0 : Int) + 4503599627370458 := IntWalk.u64_in _ (by omega)
  have w01 : IntKind.u64.wrap ((x0 : Int) + 4503599627370458 - (y0 : Int)) = (s0 : Int) := by rw [hs0]; exact (IntWalk.u64_in _ (by omega)).trans (by omega)
  obtain ⟨s1, hs1⟩ : ∃ s, s = x1 + 4503599627370494 - y1 := ⟨_, rfl⟩
  have hl1 : s1 < 18446744073709551616 := by omega
  have w10 : IntKind.u64.wrap ((x1 : Int) + 4503599627370494) = (x1 : Int) + 4503599627370494 := IntWalk.u64_in _ (by omega)
  have w11 : IntKind.u64.wrap ((x1 : Int) + 4503599627370494 - (y1 : Int)) = (s1 : Int) := by rw [hs1]; exact (IntWalk.u64_in _ (by omega)).trans (by omega)
  obtain ⟨s2, hs2⟩ : ∃ s, s = x2 + 4503599627370494 - y2 := ⟨_, rfl⟩
  have hl2 : s2 < 18446744073709551616 := by omega
  have w20 : IntKind.u64.wrap ((x2 : Int) + 4503599627370494) = (x2 : Int) + 4503599627370494 := IntWalk.u64_in _ (by omega)
  have w21 : IntKind.u64.wrap ((x2 : Int) + 4503599627370494 - (y2 : Int)) = (s2 : Int) := by rw [hs2]; exact (IntWalk.u64_in _ (by omega)).trans (by omega)
  obtain ⟨s3, hs3⟩ : ∃ s, s = x3 + 4503599627370494 - y3 := ⟨_, rfl⟩
  have hl3 : s3 < 18446744073709551616 := by omega
  have w30 : IntKind.u64.wrap ((x3 : Int) + 4503599627370494) = (x3 : Int) + 4503599627370494 := IntWalk.u64_in _ (by omega)
  have w31 : IntKind.u64.wrap ((x3 : Int) + 4503599627370494 - (y3 : Int)) = (s3 : Int) := by rw [hs3]; exact (IntWalk.u64_in _ (by omega)).trans (by omega)
  obtain ⟨s4, hs4⟩ : ∃ s, s = x4 + 4503599627370494 - y4 := ⟨_, rfl⟩
  have hl4 : s4 < 18446744073709551616 := by omega
  have w40 : IntKind.u64.wrap ((x4 : Int) + 4503599627370494) = (x4 : Int) + 4503599627370494 := IntWalk.u64_in _ (by omega)
  have w41 : IntKind.u64.wrap ((x4 : Int) + 4503599627370494 - (y4 : Int)) = (s4 : Int) := by rw [hs4]; exact (IntWalk.u64_in _ (by omega)).trans (by omega)
  rw [← hs0, ← hs1, ← hs2, ← hs3, ← hs4]
  clear hs0 hs1 hs2 hs3 hs4 hx hy
  have ca0 : w.cell? ⟨a, 0, none⟩ = some (.int .u64 (x0 : Int)) := ha.c0
  have cb0 : w.cell? ⟨b, 0, none⟩ = some (.int .u64 (y0 : Int)) := hb.c0
  have ca1 : w.cell? ⟨a, 1, none⟩ = some (.int .u64 (x1 : Int)) := ha.c1
  have cb1 : w.cell? ⟨b, 1, none⟩ = some (.int .u64 (y1 : Int)) := hb.c1
  have ca2 : w.cell? ⟨a, 2, none⟩ = some (.int .u64 (x2 : Int)) := ha.c2
  have cb2 : w.cell? ⟨b, 2, none⟩ = some (.int .u64 (y2 : Int)) := hb.c2
  have ca3 : w.cell? ⟨a, 3, none⟩ = some (.int .u64 (x3 : Int)) := ha.c3
  have cb3 : w.cell? ⟨b, 3, none⟩ = some (.int .u64 (y3 : Int)) := hb.c3
  have ca4 : w.cell? ⟨a, 4, none⟩ = some (.int .u64 (x4 : Int)) := ha.c4
  have cb4 : w.cell? ⟨b, 4, none⟩ = some (.int .u64 (y4 : Int)) := hb.c4
  go_enter Tryz.func74, Tryz.ntmps74
  go_upto_region 1 with fail
  go_cut [] (fun wx => FeAt wx v ⟨s0, z1, z2, z3, z4⟩ ∧ w.grownBy wx (some v) ∧ wx.cell? ⟨a, 1, none⟩ = some (.int .u64 (x1 : Int)) ∧ wx.cell? ⟨b, 1, none⟩ = some (.int .u64 (y1 : Int)) ∧ wx.cell? ⟨a, 2, none⟩ = some (.int .u64 (x2 : Int)) ∧ wx.cell? ⟨b, 2, none⟩ = some (.int .u64 (y2 : Int)) ∧ wx.cell? ⟨a, 3, none⟩ = some (.int .u64 (x3 : Int)) ∧ wx.cell? ⟨b, 3, none⟩ = some (.int .u64 (y3 : Int)) ∧ wx.cell? ⟨a, 4, none⟩ = some (.int .u64 (x4 : Int)) ∧ wx.cell? ⟨b, 4, none⟩ = some (.int .u64 (y4 : Int)))
  case first =>
    have f0 := hv.fr 0
    have cv : w.cell? ⟨v, 0, none⟩ = some (.int .u64 (z0 : Int)) := hv.c0
    go_region
    all_goals (go_wp2_with fail; go_meet)
    all_goals refine ⟨(hv.s0 s0).drew, grown_drew (grown_set (World.grownBy.refl _ _) 0 _), ?_, ?_, ?_, ?_, ?_, ?_, ?_, ?_⟩
    all_goals first
      | exact (cell_other (by decide)).trans ca1
      | exact (cell_other (by decide)).trans cb1
      | exact (cell_other (by decide)).trans ca2
      | exact (cell_other (by decide)).trans cb2
      | exact (cell_other (by decide)).trans ca3
      | exact (cell_other (by decide)).trans cb3
      | exact (cell_other (by decide)).trans ca4
      | exact (cell_other (by decide)).trans cb4
  case rest =>
    obtain ⟨k0, g0, na1, nb1, na2, nb2, na3, nb3, na4, nb4⟩ := hcut
    clear ca0 cb0 ca1 cb1 ca2 cb2 ca3 cb3 ca4 cb4
    have ca1 := na1
    have cb1 := nb1
    have ca2 := na2
    have cb2 := nb2
    have ca3 := na3
    have cb3 := nb3
    have ca4 := na4
    have cb4 := nb4
    clear na1 nb1 na2 nb2 na3 nb3 na4 nb4
    go_upto_region 2 with fail
    go_cut [] (fun wx => FeAt wx v ⟨s0, s1, z2, z3, z4⟩ ∧ w.grownBy wx (some v) ∧ wx.cell? ⟨a, 2, none⟩ = some (.int .u64 (x2 : Int)) ∧ wx.cell? ⟨b, 2, none⟩ = some (.int .u64 (y2 : Int)) ∧ wx.cell? ⟨a, 3, none⟩ = some (.int .u64 (x3 : Int)) ∧ wx.cell? ⟨b, 3, none⟩ = some (.int .u64 (y3 : Int)) ∧ wx.cell? ⟨a, 4, none⟩ = some (.int .u64 (x4 : Int)) ∧ wx.cell? ⟨b, 4, none⟩ = some (.int .u64 (y4 : Int)))
    case first =>
      have f0 := k0.fr 1
      have cv : wc.cell? ⟨v, 1, none⟩ = some (.int .u64 (z1 : Int)) := k0.c1
      go_region
      all_goals (go_wp2_with fail; go_meet)
      all_goals refine ⟨(k0.s1 s1).drew, grown_drew (grown_set g0 1 _), ?_, ?_, ?_, ?_, ?_, ?_⟩
      all_goals first
        | exact (cell_other (by decide)).trans ca2
        | exact (cell_other (by decide)).trans cb2
        | exact (cell_other (by decide)).trans ca3
        | exact (cell_other (by decide)).trans cb3
        | exact (cell_other (by decide)).trans ca4
        | exact (cell_other (by decide)).trans cb4
    case rest =>
      obtain ⟨k1, g1, na2, nb2, na3, nb3, na4, nb4⟩ := hcut
      clear ca1 cb1 ca2 cb2 ca3 cb3 ca4 cb4
      have ca2 := na2
      have cb2 := nb2
      have ca3 := na3
      have cb3 := nb3
      have ca4 := na4
      have cb4 := nb4
      clear na2 nb2 na3 nb3 na4 nb4
      go_upto_region 3 with fail
      go_cut [] (fun wx => FeAt wx v ⟨s0, s1, s2, z3, z4⟩ ∧ w.grownBy wx (some v) ∧ wx.cell? ⟨a, 3, none⟩ = some (.int .u64 (x3 : Int)) ∧ wx.cell? ⟨b, 3, none⟩ = some (.int .u64 (y3 : Int)) ∧ wx.cell? ⟨a, 4, none⟩ = some (.int .u64 (x4 : Int)) ∧ wx.cell? ⟨b, 4, none⟩ = some (.int .u64 (y4 : Int)))
      case first =>
        have f0 := k1.fr 2
        have cv : wc.cell? ⟨v, 2, none⟩ = some (.int .u64 (z2 : Int)) := k1.c2
        go_region
        all_goals (go_wp2_with fail; go_meet)
        all_goals refine ⟨(k1.s2 s2).drew, grown_drew (grown_set g1 2 _), ?_, ?_, ?_, ?_⟩
        all_goals first
          | exact (cell_other (by decide)).trans ca3
          | exact (cell_other (by decide)).trans cb3
          | exact (cell_other (by decide)).trans ca4
          | exact (cell_other (by decide)).trans cb4
      case rest =>
        obtain ⟨k2, g2, na3, nb3, na4, nb4⟩ := hcut
        clear ca2 cb2 ca3 cb3 ca4 cb4
        have ca3 := na3
        have cb3 := nb3
        have ca4 := na4
        have cb4 := nb4
        clear na3 nb3 na4 nb4
        go_upto_region 4 with fail
        go_cut [] (fun wx => FeAt wx v ⟨s0, s1, s2, s3, z4⟩ ∧ w.grownBy wx (some v) ∧ wx.cell? ⟨a, 4, none⟩ = some (.int .u64 (x4 : Int)) ∧ wx.cell? ⟨b, 4, none⟩ = some (.int .u64 (y4 : Int)))
        case first =>
          have f0 := k2.fr 3
          have cv : wc.cell? ⟨v, 3, none⟩ = some (.int .u64 (z3 : Int)) := k2.c3
          go_region
          all_goals (go_wp2_with fail; go_meet)
          all_goals refine ⟨(k2.s3 s3).drew, grown_drew (grown_set g2 3 _), ?_, ?_⟩
          all_goals first
            | exact (cell_other (by decide)).trans ca4
            | exact (cell_other (by decide)).trans cb4
        case rest =>
          obtain ⟨k3, g3, na4, nb4⟩ := hcut
          clear ca3 cb3 ca4 cb4
          have ca4 := na4
          have cb4 := nb4
          clear na4 nb4
          go_upto_region 5 with fail
          go_cut [] (fun wx => FeAt wx v ⟨s0, s1, s2, s3, s4⟩ ∧ w.grownBy wx (some v))
          case first =>
            have f0 := k3.fr 4
            have cv : wc.cell? ⟨v, 4, none⟩ = some (.int .u64 (z4 : Int)) := k3.c4
            go_region
            all_goals (go_wp2_with fail; go_meet)
            all_goals refine ⟨(k3.s4 s4).drew, grown_drew (grown_set g3 4 _)⟩
          case rest =>
            obtain ⟨k4, g4⟩ := hcut
            clear ca4 cb4
            go_wp2_with (go_at_call 86; refine (carry_any _ v ⟨s0, s1, s2, s3, s4⟩ k4 hl0 hl1 hl2 hl3 hl4).mono ?_; rintro e w9 ⟨rfl, k9, g9⟩)
            go_ret
            exact ⟨rfl, k9, grown_trans g4 g9⟩

end Go.Proofs.YthjminkkmljjhaaGreatDoor

/- Variables of 128 bits in blocks of their own: load and store as laws for the walk. -/

namespace Go.Proofs.YthjminkkmljjhaaGreatDoor
open Go.RowKit

def ucells (V : Nat) : Array Value := #[.int .u64 ((V % 18446744073709551616 : Nat) : Int), .int .u64 ((V / 18446744073709551616 : Nat) : Int)]
theorem u128_eq (V : Nat) : u128 V = .agg (ucells V) := rfl
def RegAt (w : World) (g V : Nat) : Prop := w.heap[g]? = some (.cells (ucells V) 141 (0, 0))
theorem RegAt.lt {w : World} {g V : Nat} (h : RegAt w g V) : g < w.heap.size := (Array.getElem?_eq_some_iff.1 h).1
theorem RegAt.below {w w' : World} {g V : Nat} (h : RegAt w g V) (hb : Below w.heap.size w w') : RegAt w' g V := (hb.block g h.lt).trans h
theorem RegAt.kept {w w' : World} {g k V : Nat} (h : RegAt w g V) (hb : w.grownBy w' (some k)) (hne : g ≠ k) : RegAt w' g V := (hb.block g h.lt (fun e => hne (Option.some.inj e))).trans h
theorem reg_new (w : World) : RegAt (w.alloc (.cells #[.int .u64 0, .int .u64 0] 141)) w.heap.size 0 := heap_alloc_new w _
theorem below_kept {B k : Nat} {w0 w w' : World} (hb : Below B w0 w) (hg : w.grownBy w' (some k)) (hk : B ≤ k) (hs : B ≤ w.heap.size) : Below B w0 w' := hb.grown hg hs (fun j hj => by cases hj; exact hk)

theorem u128_info : (Tryz.prog.info? 141).map (·.size) = some 2 := by kernel_rfl
theorem u128_und : ∃ fs, Tryz.prog.underlying 141 = some (.struct fs) := by
  have h : (match Tryz.prog.underlying 141 with | some (.struct _) => true | _ => false) = true := by kernel_rfl
  split at h
  · rename_i fs hfs; exact ⟨fs, hfs⟩
  · cases h

section
variable {ops : Array Oper} {rest : List Oper} {o : Oper} {a : Act} {w : World} {Q : Exit → Act → World → Prop}
theorem wpList_loadU (hgd : o.guard = none) (x : Operand) (ho : o.op = .load 141 x) (g V : Nat) (hx : a.eval x = .pointer (some ⟨g, 0, none⟩)) (hR : RegAt w g V)
    (h : wpList Tryz.prog ops Q rest (a.put o.dst (u128 V)) w) : wpList Tryz.prog ops Q (o :: rest) a w := by
  obtain ⟨fs, hfs⟩ := u128_und
  exact wpList_load_row hgd _ x ho g hx _ (ucells V) (0, 0) (.struct fs) hR hfs rfl u128_info h

theorem wpList_storeU (hgd : o.guard = none) (x y : Operand) (ho : o.op = .store 141 x y) (g V old : Nat) (hx : a.eval x = .pointer (some ⟨g, 0, none⟩)) (hy : a.eval y = u128 V) (hR : RegAt w g old)
    (h : ∀ w', RegAt w' g V → w.grownBy w' (some g) → wpList Tryz.prog ops Q rest (a.put o.dst undef) w') : wpList Tryz.prog ops Q (o :: rest) a w :=
  wpList_store_row hgd _ x y ho g (ucells V) hx hy _ (ucells old) hR u128_info rfl (by simp [ucells, Value.oneCell'])
    (h _ (setRow_heap w g (ucells old) _ _ (0, 0) hR) ⟨rfl, rfl, rfl, by simp [World.setRow], fun k _ hk => setRow_other w g k _ (fun e => hk (by rw [e]))⟩)
end
end Go.Proofs.YthjminkkmljjhaaGreatDoor

/- xorKeyStreamBlocksGeneric: the first rounds. Conditions: as each states. (Printed by wip/gencd.py.) -/
import Derived.Test.YtkocgogpbammaaaDoorCd0
import Derived.Deep.DeepCutAuto
set_option linter.unusedVariables false
set_option linter.unusedSimpArgs false
namespace Go.Proofs.YtkocgogpbammaaaDoor
open Go.RowKit

set_option maxRecDepth 1000000 in
set_option maxHeartbeats 8000000 in
theorem r12_any (a : Act) (w : World) (K : Act → World → Prop) (Q : Exit → Act → World → Prop) (u3 u4 u5 u18 u22 u23 u24 u25 u26 u27 u28 u29 u30 u31 u32 u33 u34 u35 u36 u37 u38 u39 u40 u41 u42 : Value) (gc g od nr c1 c2 cn : Nat) (k0 k1 k2 k3 k4 k5 k6 k7 n0 n1 n2 : Nat)
    (hF : Fr a [(.pointer (some ⟨gc, 0, none⟩)), (.slice (some ⟨g, od, none⟩) nr c1), (.slice (some ⟨g, od, none⟩) nr c2), u3, u4, u5, (.int .u32 1634760805), (.int .u32 857760878), (.int .u32 2036477234), (.int .u32 1797285236), (.int .u32 (k0 : Int)), (.int .u32 (k1 : Int)), (.int .u32 (k2 : Int)), (.int .u32 (k3 : Int)), (.int .u32 (k4 : Int)), (.int .u32 (k5 : Int)), (.int .u32 (k6 : Int)), (.int .u32 (k7 : Int)), u18, (.int .u32 (n0 : Int)), (.int .u32 (n1 : Int)), (.int .u32 (n2 : Int)), u22, u23, u24, u25, u26, u27, u28, u29, u30, u31, u32, u33, u34, u35, u36, u37, u38, u39, u40, u41, u42]) (lk0 : k0 < 4294967296) (lk4 : k4 < 4294967296) (lcn : cn < 4294967296) (c8 : w.cell? ⟨gc, 8, none⟩ = some (.int .u32 (cn : Int)))
    (hK : ∀ (a' : Act) (f0 f4 f8 f12 : Nat), Fr a' [(.pointer (some ⟨gc, 0, none⟩)), (.slice (some ⟨g, od, none⟩) nr c1), (.slice (some ⟨g, od, none⟩) nr c2), u3, u4, u5, (.int .u32 1634760805), (.int .u32 857760878), (.int .u32 2036477234), (.int .u32 1797285236), (.int .u32 (k0 : Int)), (.int .u32 (k1 : Int)), (.int .u32 (k2 : Int)), (.int .u32 (k3 : Int)), (.int .u32 (k4 : Int)), (.int .u32 (k5 : Int)), (.int .u32 (k6 : Int)), (.int .u32 (k7 : Int)), u18, (.int .u32 (n0 : Int)), (.int .u32 (n1 : Int)), (.int .u32 (n2 : Int)), (.int .u32 (f0 : Int)), (.int .u32 (f4 : Int)), (.int .u32 (f8 : Int)), (.int .u32 (f12 : Int)), u26, u27, u28, u29, u30, u31, u32, u33, u34, u35, u36, u37, u38, u39, u40, u41, u42] → Hid ((f0, f4, f8, f12) = qr 1634760805 k0 k4 cn) → f0 < 4294967296 → f4 < 4294967296 → f8 < 4294967296 → f12 < 4294967296 → K a' w) : (lft (rgtN 0 B70)).wp Tryd.prog (Exit.then K Q) a w := by
  have HK := Lib.hid hK
  clear hK
  rw [frLit a (.pointer (some ⟨gc, 0, none⟩)) (.slice (some ⟨g, od, none⟩) nr c1) (.slice (some ⟨g, od, none⟩) nr c2) u3 u4 u5 (.int .u32 1634760805) (.int .u32 857760878) (.int .u32 2036477234) (.int .u32 1797285236) (.int .u32 (k0 : Int)) (.int .u32 (k1 : Int)) (.int .u32 (k2 : Int)) (.int .u32 (k3 : Int)) (.int .u32 (k4 : Int)) (.int .u32 (k5 : Int)) (.int .u32 (k6 : Int)) (.int .u32 (k7 : Int)) u18 (.int .u32 (n0 : Int)) (.int .u32 (n1 : Int)) (.int .u32 (n2 : Int)) u22 u23 u24 u25 u26 u27 u28 u29 u30 u31 u32 u33 u34 u35 u36 u37 u38 u39 u40 u41 u42 hF]
  clear hF
  conv => arg 2; whnf
  go_wp2_with fail
  refine (quarterX _ 1634760805 k0 k4 cn (by decide) lk0 lk4 lcn).mono ?_
  rintro e w ⟨f0, f4, f8, f12, HF, lf0, lf4, lf8, lf12, rfl, rfl⟩
  go_wp2_with fail
  exact HK.out _ f0 f4 f8 f12 ⟨by kernel_rfl, rfl, by kernel_rfl⟩ HF lf0 lf4 lf8 lf12

set_option maxRecDepth 1000000 in
set_option maxHeartbeats 8000000 in
theorem dg_0 (a : Act) (w : World) (K : Act → World → Prop) (Q : Exit → Act → World → Prop) (u3 u4 u5 u18 u26 u27 u28 u29 u30 u31 u32 u33 u34 u35 u36 u37 u38 u39 u40 u41 u42 : Value) (gc g od nr c1 c2 f0 f4 f8 f12 a2 b3 e4 : Nat) (k0 k1 k2 k3 k4 k5 k6 k7 n0 n1 n2 : Nat)
    (hF : Fr a [(.pointer (some ⟨gc, 0, none⟩)), (.slice (some ⟨g, od, none⟩) nr c1), (.slice (some ⟨g, od, none⟩) nr c2), u3, u4, u5, (.int .u32 1634760805), (.int .u32 857760878), (.int .u32 2036477234), (.int .u32 1797285236), (.int .u32 (k0 : Int)), (.int .u32 (k1 : Int)), (.int .u32 (k2 : Int)), (.int .u32 (k3 : Int)), (.int .u32 (k4 : Int)), (.int .u32 (k5 : Int)), (.int .u32 (k6 : Int)), (.int .u32 (k7 : Int)), u18, (.int .u32 (n0 : Int)), (.int .u32 (n1 : Int)), (.int .u32 (n2 : Int)), (.int .u32 (f0 : Int)), (.int .u32 (f4 : Int)), (.int .u32 (f8 : Int)), (.int .u32 (f12 : Int)), u26, u27, u28, u29, u30, u31, u32, u33, u34, u35, u36, u37, u38, u39, u40, u41, u42]) (l1 : f0 < 4294967296) (l2 : a2 < 4294967296) (l3 : b3 < 4294967296) (l4 : e4 < 4294967296) (c80 : w.cell? ⟨gc, 80, none⟩ = some (.int .u32 (a2 : Int))) (c85 : w.cell? ⟨gc, 85, none⟩ = some (.int .u32 (b3 : Int))) (c90 : w.cell? ⟨gc, 90, none⟩ = some (.int .u32 (e4 : Int)))
    (hK : ∀ (a' : Act) (nq za zb zc zd : Nat), Fr a' [(.pointer (some ⟨gc, 0, none⟩)), (.slice (some ⟨g, od, none⟩) nr c1), (.slice (some ⟨g, od, none⟩) nr c2), u3, u4, u5, (.int .u32 1634760805), (.int .u32 857760878), (.int .u32 2036477234), (.int .u32 1797285236), (.int .u32 (k0 : Int)), (.int .u32 (k1 : Int)), (.int .u32 (k2 : Int)), (.int .u32 (k3 : Int)), (.int .u32 (k4 : Int)), (.int .u32 (k5 : Int)), (.int .u32 (k6 : Int)), (.int .u32 (k7 : Int)), u18, (.int .u32 (n0 : Int)), (.int .u32 (n1 : Int)), (.int .u32 (n2 : Int)), (.int .u32 (f0 : Int)), (.int .u32 (f4 : Int)), (.int .u32 (f8 : Int)), (.int .u32 (f12 : Int)), (.int .u32 (za : Int)), (.int .u32 (zb : Int)), (.int .u32 (zc : Int)), (.int .u32 (zd : Int)), u30, u31, u32, u33, u34, u35, u36, u37, u38, u39, u40, u41, u42] → Hid ((za, zb, zc, zd) = qr f0 a2 b3 e4) → za < 4294967296 → zb < 4294967296 → zc < 4294967296 → zd < 4294967296 → K a' (w.drewN nq)) : (lft (rgtN 1 B70)).wp Tryd.prog (Exit.then K Q) a w := by
  have HK := Lib.hid hK
  clear hK
  obtain ⟨⟨za, zb, zc, zd⟩, hz⟩ : ∃ z, z = qr f0 a2 b3 e4 := ⟨_, rfl⟩
  have hq := fun W => quarterRound_any W f0 a2 b3 e4 l1 l2 l3 l4
  have hl := qr_lt f0 a2 b3 e4 l2 l4
  rw [← hz] at hl
  simp only [← hz] at hq
  obtain ⟨lza, lzb, lzc, lzd⟩ := hl
  simp only at lza lzb lzc lzd
  have HQ := Lib.hid hq
  have HZ := Lib.hid hz
  clear hz hq
  rw [frLit a (.pointer (some ⟨gc, 0, none⟩)) (.slice (some ⟨g, od, none⟩) nr c1) (.slice (some ⟨g, od, none⟩) nr c2) u3 u4 u5 (.int .u32 1634760805) (.int .u32 857760878) (.int .u32 2036477234) (.int .u32 1797285236) (.int .u32 (k0 : Int)) (.int .u32 (k1 : Int)) (.int .u32 (k2 : Int)) (.int .u32 (k3 : Int)) (.int .u32 (k4 : Int)) (.int .u32 (k5 : Int)) (.int .u32 (k6 : Int)) (.int .u32 (k7 : Int)) u18 (.int .u32 (n0 : Int)) (.int .u32 (n1 : Int)) (.int .u32 (n2 : Int)) (.int .u32 (f0 : Int)) (.int .u32 (f4 : Int)) (.int .u32 (f8 : Int)) (.int .u32 (f12 : Int)) u26 u27 u28 u29 u30 u31 u32 u33 u34 u35 u36 u37 u38 u39 u40 u41 u42 hF]
  clear hF
  conv => arg 2; whnf
  go_wp2_with fail
  go_quiet ((go_at_call 76; exact Calls.quiet_of_same (HQ.out _)))
  go_wp2_with fail
  exact HK.out _ nq za zb zc zd ⟨by kernel_rfl, rfl, by kernel_rfl⟩ HZ lza lzb lzc lzd

set_option maxRecDepth 1000000 in
set_option maxHeartbeats 8000000 in
theorem dg_1 (a : Act) (w : World) (K : Act → World → Prop) (Q : Exit → Act → World → Prop) (u3 u4 u5 u18 u26 u27 u28 u29 u30 u31 u32 u33 u34 u35 u36 u37 u38 u39 u40 u41 u42 : Value) (gc g od nr c1 c2 f0 f4 f8 f12 a1 b2 e3 : Nat) (k0 k1 k2 k3 k4 k5 k6 k7 n0 n1 n2 : Nat)
    (hF : Fr a [(.pointer (some ⟨gc, 0, none⟩)), (.slice (some ⟨g, od, none⟩) nr c1), (.slice (some ⟨g, od, none⟩) nr c2), u3, u4, u5, (.int .u32 1634760805), (.int .u32 857760878), (.int .u32 2036477234), (.int .u32 1797285236), (.int .u32 (k0 : Int)), (.int .u32 (k1 : Int)), (.int .u32 (k2 : Int)), (.int .u32 (k3 : Int)), (.int .u32 (k4 : Int)), (.int .u32 (k5 : Int)), (.int .u32 (k6 : Int)), (.int .u32 (k7 : Int)), u18, (.int .u32 (n0 : Int)), (.int .u32 (n1 : Int)), (.int .u32 (n2 : Int)), (.int .u32 (f0 : Int)), (.int .u32 (f4 : Int)), (.int .u32 (f8 : Int)), (.int .u32 (f12 : Int)), u26, u27, u28, u29, u30, u31, u32, u33, u34, u35, u36, u37, u38, u39, u40, u41, u42]) (l1 : a1 < 4294967296) (l2 : b2 < 4294967296) (l3 : e3 < 4294967296) (l4 : f12 < 4294967296) (c79 : w.cell? ⟨gc, 79, none⟩ = some (.int .u32 (a1 : Int))) (c84 : w.cell? ⟨gc, 84, none⟩ = some (.int .u32 (b2 : Int))) (c89 : w.cell? ⟨gc, 89, none⟩ = some (.int .u32 (e3 : Int)))
    (hK : ∀ (a' : Act) (nq za zb zc zd : Nat), Fr a' [(.pointer (some ⟨gc, 0, none⟩)), (.slice (some ⟨g, od, none⟩) nr c1), (.slice (some ⟨g, od, none⟩) nr c2), u3, u4, u5, (.int .u32 1634760805), (.int .u32 857760878), (.int .u32 2036477234), (.int .u32 1797285236), (.int .u32 (k0 : Int)), (.int .u32 (k1 : Int)), (.int .u32 (k2 : Int)), (.int .u32 (k3 : Int)), (.int .u32 (k4 : Int)), (.int .u32 (k5 : Int)), (.int .u32 (k6 : Int)), (.int .u32 (k7 : Int)), u18, (.int .u32 (n0 : Int)), (.int .u32 (n1 : Int)), (.int .u32 (n2 : Int)), (.int .u32 (f0 : Int)), (.int .u32 (f4 : Int)), (.int .u32 (f8 : Int)), (.int .u32 (f12 : Int)), u26, u27, u28, u29, (.int .u32 (za : Int)), (.int .u32 (zb : Int)), (.int .u32 (zc : Int)), (.int .u32 (zd : Int)), u34, u35, u36, u37, u38, u39, u40, u41, u42] → Hid ((za, zb, zc, zd) = qr a1 b2 e3 f12) → za < 4294967296 → zb < 4294967296 → zc < 4294967296 → zd < 4294967296 → K a' (w.drewN nq)) : (lft (rgtN 2 B70)).wp Tryd.prog (Exit.then K Q) a w := by
  have HK := Lib.hid hK
  clear hK
  obtain ⟨⟨za, zb, zc, zd⟩, hz⟩ : ∃ z, z = qr a1 b2 e3 f12 := ⟨_, rfl⟩
  have hq := fun W => quarterRound_any W a1 b2 e3 f12 l1 l2 l3 l4
  have hl := qr_lt a1 b2 e3 f12 l2 l4
  rw [← hz] at hl
  simp only [← hz] at hq
  obtain ⟨lza, lzb, lzc, lzd⟩ := hl
  simp only at lza lzb lzc lzd
  have HQ := Lib.hid hq
  have HZ := Lib.hid hz
  clear hz hq
  rw [frLit a (.pointer (some ⟨gc, 0, none⟩)) (.slice (some ⟨g, od, none⟩) nr c1) (.slice (some ⟨g, od, none⟩) nr c2) u3 u4 u5 (.int .u32 1634760805) (.int .u32 857760878) (.int .u32 2036477234) (.int .u32 1797285236) (.int .u32 (k0 : Int)) (.int .u32 (k1 : Int)) (.int .u32 (k2 : Int)) (.int .u32 (k3 : Int)) (.int .u32 (k4 : Int)) (.int .u32 (k5 : Int)) (.int .u32 (k6 : Int)) (.int .u32 (k7 : Int)) u18 (.int .u32 (n0 : Int)) (.int .u32 (n1 : Int)) (.int .u32 (n2 : Int)) (.int .u32 (f0 : Int)) (.int .u32 (f4 : Int)) (.int .u32 (f8 : Int)) (.int .u32 (f12 : Int)) u26 u27 u28 u29 u30 u31 u32 u33 u34 u35 u36 u37 u38 u39 u40 u41 u42 hF]
  clear hF
  conv => arg 2; whnf
  go_wp2_with fail
  go_quiet ((go_at_call 76; exact Calls.quiet_of_same (HQ.out _)))
  go_wp2_with fail
  exact HK.out _ nq za zb zc zd ⟨by kernel_rfl, rfl, by kernel_rfl⟩ HZ lza lzb lzc lzd

set_option maxRecDepth 1000000 in
set_option maxHeartbeats 8000000 in
theorem dg_2 (a : Act) (w : World) (K : Act → World → Prop) (Q : Exit → Act → World → Prop) (u3 u4 u5 u18 u26 u27 u28 u29 u30 u31 u32 u33 u34 u35 u36 u37 u38 u39 u40 u41 u42 : Value) (gc g od nr c1 c2 f0 f4 f8 f12 b1 e2 a4 : Nat) (k0 k1 k2 k3 k4 k5 k6 k7 n0 n1 n2 : Nat)
    (hF : Fr a [(.pointer (some ⟨gc, 0, none⟩)), (.slice (some ⟨g, od, none⟩) nr c1), (.slice (some ⟨g, od, none⟩) nr c2), u3, u4, u5, (.int .u32 1634760805), (.int .u32 857760878), (.int .u32 2036477234), (.int .u32 1797285236), (.int .u32 (k0 : Int)), (.int .u32 (k1 : Int)), (.int .u32 (k2 : Int)), (.int .u32 (k3 : Int)), (.int .u32 (k4 : Int)), (.int .u32 (k5 : Int)), (.int .u32 (k6 : Int)), (.int .u32 (k7 : Int)), u18, (.int .u32 (n0 : Int)), (.int .u32 (n1 : Int)), (.int .u32 (n2 : Int)), (.int .u32 (f0 : Int)), (.int .u32 (f4 : Int)), (.int .u32 (f8 : Int)), (.int .u32 (f12 : Int)), u26, u27, u28, u29, u30, u31, u32, u33, u34, u35, u36, u37, u38, u39, u40, u41, u42]) (l1 : b1 < 4294967296) (l2 : e2 < 4294967296) (l3 : f8 < 4294967296) (l4 : a4 < 4294967296) (c83 : w.cell? ⟨gc, 83, none⟩ = some (.int .u32 (b1 : Int))) (c88 : w.cell? ⟨gc, 88, none⟩ = some (.int .u32 (e2 : Int))) (c82 : w.cell? ⟨gc, 82, none⟩ = some (.int .u32 (a4 : Int)))
    (hK : ∀ (a' : Act) (nq za zb zc zd : Nat), Fr a' [(.pointer (some ⟨gc, 0, none⟩)), (.slice (some ⟨g, od, none⟩) nr c1), (.slice (some ⟨g, od, none⟩) nr c2), u3, u4, u5, (.int .u32 1634760805), (.int .u32 857760878), (.int .u32 2036477234), (.int .u32 1797285236), (.int .u32 (k0 : Int)), (.int .u32 (k1 : Int)), (.int .u32 (k2 : Int)), (.int .u32 (k3 : Int)), (.int .u32 (k4 : Int)), (.int .u32 (k5 : Int)), (.int .u32 (k6 : Int)), (.int .u32 (k7 : Int)), u18, (.int .u32 (n0 : Int)), (.int .u32 (n1 : Int)), (.int .u32 (n2 : Int)), (.int .u32 (f0 : Int)), (.int .u32 (f4 : Int)), (.int .u32 (f8 : Int)), (.int .u32 (f12 : Int)), u26, u27, u28, u29, u30, u31, u32, u33, (.int .u32 (za : Int)), (.int .u32 (zb : Int)), (.int .u32 (zc : Int)), (.int .u32 (zd : Int)), u38, u39, u40, u41, u42] → Hid ((za, zb, zc, zd) = qr b1 e2 f8 a4) → za < 4294967296 → zb < 4294967296 → zc < 4294967296 → zd < 4294967296 → K a' (w.drewN nq)) : (lft (rgtN 3 B70)).wp Tryd.prog (Exit.then K Q) a w := by
  have HK := Lib.hid hK
  clear hK
  obtain ⟨⟨za, zb, zc, zd⟩, hz⟩ : ∃ z, z = qr b1 e2 f8 a4 := ⟨_, rfl⟩
  have hq := fun W => quarterRound_any W b1 e2 f8 a4 l1 l2 l3 l4
  have hl := qr_lt b1 e2 f8 a4 l2 l4
  rw [← hz] at hl
  simp only [← hz] at hq
  obtain ⟨lza, lzb, lzc, lzd⟩ := hl
  simp only at lza lzb lzc lzd
  have HQ := Lib.hid hq
  have HZ := Lib.hid hz
  clear hz hq
  rw [frLit a (.pointer (some ⟨gc, 0, none⟩)) (.slice (some ⟨g, od, none⟩) nr c1) (.slice (some ⟨g, od, none⟩) nr c2) u3 u4 u5 (.int .u32 1634760805) (.int .u32 857760878) (.int .u32 2036477234) (.int .u32 1797285236) (.int .u32 (k0 : Int)) (.int .u32 (k1 : Int)) (.int .u32 (k2 : Int)) (.int .u32 (k3 : Int)) (.int .u32 (k4 : Int)) (.int .u32 (k5 : Int)) (.int .u32 (k6 : Int)) (.int .u32 (k7 : Int)) u18 (.int .u32 (n0 : Int)) (.int .u32 (n1 : Int)) (.int .u32 (n2 : Int)) (.int .u32 (f0 : Int)) (.int .u32 (f4 : Int)) (.int .u32 (f8 : Int)) (.int .u32 (f12 : Int)) u26 u27 u28 u29 u30 u31 u32 u33 u34 u35 u36 u37 u38 u39 u40 u41 u42 hF]
  clear hF
  conv => arg 2; whnf
  go_wp2_with fail
  go_quiet ((go_at_call 76; exact Calls.quiet_of_same (HQ.out _)))
  go_wp2_with fail
  exact HK.out _ nq za zb zc zd ⟨by kernel_rfl, rfl, by kernel_rfl⟩ HZ lza lzb lzc lzd

set_option maxRecDepth 1000000 in
set_option maxHeartbeats 8000000 in
theorem dg_3 (a : Act) (w : World) (K : Act → World → Prop) (Q : Exit → Act → World → Prop) (u3 u4 u5 u18 u26 u27 u28 u29 u30 u31 u32 u33 u34 u35 u36 u37 u38 u39 u40 u41 u42 : Value) (gc g od nr c1 c2 f0 f4 f8 f12 e1 a3 b4 : Nat) (k0 k1 k2 k3 k4 k5 k6 k7 n0 n1 n2 : Nat)
    (hF : Fr a [(.pointer (some ⟨gc, 0, none⟩)), (.slice (some ⟨g, od, none⟩) nr c1), (.slice (some ⟨g, od, none⟩) nr c2), u3, u4, u5, (.int .u32 1634760805), (.int .u32 857760878), (.int .u32 2036477234), (.int .u32 1797285236), (.int .u32 (k0 : Int)), (.int .u32 (k1 : Int)), (.int .u32 (k2 : Int)), (.int .u32 (k3 : Int)), (.int .u32 (k4 : Int)), (.int .u32 (k5 : Int)), (.int .u32 (k6 : Int)), (.int .u32 (k7 : Int)), u18, (.int .u32 (n0 : Int)), (.int .u32 (n1 : Int)), (.int .u32 (n2 : Int)), (.int .u32 (f0 : Int)), (.int .u32 (f4 : Int)), (.int .u32 (f8 : Int)), (.int .u32 (f12 : Int)), u26, u27, u28, u29, u30, u31, u32, u33, u34, u35, u36, u37, u38, u39, u40, u41, u42]) (l1 : e1 < 4294967296) (l2 : f4 < 4294967296) (l3 : a3 < 4294967296) (l4 : b4 < 4294967296) (c87 : w.cell? ⟨gc, 87, none⟩ = some (.int .u32 (e1 : Int))) (c81 : w.cell? ⟨gc, 81, none⟩ = some (.int .u32 (a3 : Int))) (c86 : w.cell? ⟨gc, 86, none⟩ = some (.int .u32 (b4 : Int)))
    (hK : ∀ (a' : Act) (nq za zb zc zd : Nat), Fr a' [(.pointer (some ⟨gc, 0, none⟩)), (.slice (some ⟨g, od, none⟩) nr c1), (.slice (some ⟨g, od, none⟩) nr c2), u3, u4, u5, (.int .u32 1634760805), (.int .u32 857760878), (.int .u32 2036477234), (.int .u32 1797285236), (.int .u32 (k0 : Int)), (.int .u32 (k1 : Int)), (.int .u32 (k2 : Int)), (.int .u32 (k3 : Int)), (.int .u32 (k4 : Int)), (.int .u32 (k5 : Int)), (.int .u32 (k6 : Int)), (.int .u32 (k7 : Int)), u18, (.int .u32 (n0 : Int)), (.int .u32 (n1 : Int)), (.int .u32 (n2 : Int)), (.int .u32 (f0 : Int)), (.int .u32 (f4 : Int)), (.int .u32 (f8 : Int)), (.int .u32 (f12 : Int)), u26, u27, u28, u29, u30, u31, u32, u33, u34, u35, u36, u37, (.int .u32 (za : Int)), (.int .u32 (zb : Int)), (.int .u32 (zc : Int)), (.int .u32 (zd : Int)), u42] → Hid ((za, zb, zc, zd) = qr e1 f4 a3 b4) → za < 4294967296 → zb < 4294967296 → zc < 4294967296 → zd < 4294967296 → K a' (w.drewN nq)) : (lft (rgtN 4 B70)).wp Tryd.prog (Exit.then K Q) a w := by
  have HK := Lib.hid hK
  clear hK
  obtain ⟨⟨za, zb, zc, zd⟩, hz⟩ : ∃ z, z = qr e1 f4 a3 b4 := ⟨_, rfl⟩
  have hq := fun W => quarterRound_any W e1 f4 a3 b4 l1 l2 l3 l4
  have hl := qr_lt e1 f4 a3 b4 l2 l4
  rw [← hz] at hl
  simp only [← hz] at hq
  obtain ⟨lza, lzb, lzc, lzd⟩ := hl
  simp only at lza lzb lzc lzd
  have HQ := Lib.hid hq
  have HZ := Lib.hid hz
  clear hz hq
  rw [frLit a (.pointer (some ⟨gc, 0, none⟩)) (.slice (some ⟨g, od, none⟩) nr c1) (.slice (some ⟨g, od, none⟩) nr c2) u3 u4 u5 (.int .u32 1634760805) (.int .u32 857760878) (.int .u32 2036477234) (.int .u32 1797285236) (.int .u32 (k0 : Int)) (.int .u32 (k1 : Int)) (.int .u32 (k2 : Int)) (.int .u32 (k3 : Int)) (.int .u32 (k4 : Int)) (.int .u32 (k5 : Int)) (.int .u32 (k6 : Int)) (.int .u32 (k7 : Int)) u18 (.int .u32 (n0 : Int)) (.int .u32 (n1 : Int)) (.int .u32 (n2 : Int)) (.int .u32 (f0 : Int)) (.int .u32 (f4 : Int)) (.int .u32 (f8 : Int)) (.int .u32 (f12 : Int)) u26 u27 u28 u29 u30 u31 u32 u33 u34 u35 u36 u37 u38 u39 u40 u41 u42 hF]
  clear hF
  conv => arg 2; whnf
  go_wp2_with fail
  go_quiet ((go_at_call 76; exact Calls.quiet_of_same (HQ.out _)))
  go_wp2_with fail
  exact HK.out _ nq za zb zc zd ⟨by kernel_rfl, rfl, by kernel_rfl⟩ HZ lza lzb lzc lzd

end Go.Proofs.YtkocgogpbammaaaDoor

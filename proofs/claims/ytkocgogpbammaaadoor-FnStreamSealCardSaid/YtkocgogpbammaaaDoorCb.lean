/- xorKeyStreamBlocksGeneric: the ten rounds. Conditions: as each states. (Printed by wip/gencd.py.) -/
import Derived.Test.YtkocgogpbammaaaDoorCd3
import Derived.Test.YtkocgogpbammaaaDoorCd4
import Derived.Test.YtkocgogpbammaaaDoorCd5
import Derived.Deep.DeepCutAuto
import Derived.Test.YtkocgogpbammaaaDoorCd1
import Derived.Test.YtkocgogpbammaaaDoorCd2
import Derived.Deep.CutBlock
import Derived.Deep.QuietTactic
import Derived.BigQuiet
set_option linter.unusedVariables false
set_option linter.unusedSimpArgs false
namespace Go.Proofs.YtkocgogpbammaaaDoor
open Go.RowKit

theorem Fr.at {a : Act} {L : List Value} (h : Fr a L) (i : Nat) (hi : i < 43) (v : Value) (hv : L[i]? = some v) : sl a i = v := by
  rw [← h.vals, List.getElem?_map, List.getElem?_range hi] at hv
  exact Option.some.inj hv
theorem eT : T70 = .seq (lft T70) (rgt T70) := by kernel_rfl
theorem eT2 : rgt T70 = .block 2 (.loop U70) := by kernel_rfl
theorem eU : U70 = .seq (lft U70) (rgt U70) := by kernel_rfl
theorem eU2 : rgt U70 = .seq (.block 3 (rgtN 0 Q70)) (rgt (rgt U70)) := by kernel_rfl
theorem eQ0 : rgtN 0 Q70 = .seq (lft (rgtN 0 Q70)) (rgtN 1 Q70) := by kernel_rfl
theorem eQ1 : rgtN 1 Q70 = .seq (lft (rgtN 1 Q70)) (rgtN 2 Q70) := by kernel_rfl
theorem eQ2 : rgtN 2 Q70 = .seq (lft (rgtN 2 Q70)) (rgtN 3 Q70) := by kernel_rfl
theorem eQ3 : rgtN 3 Q70 = .seq (lft (rgtN 3 Q70)) (rgtN 4 Q70) := by kernel_rfl
theorem eQ4 : rgtN 4 Q70 = .seq (lft (rgtN 4 Q70)) (rgtN 5 Q70) := by kernel_rfl
theorem eQ5 : rgtN 5 Q70 = .seq (lft (rgtN 5 Q70)) (rgtN 6 Q70) := by kernel_rfl
theorem eQ6 : rgtN 6 Q70 = .seq (lft (rgtN 6 Q70)) (rgtN 7 Q70) := by kernel_rfl
set_option maxRecDepth 1000000 in
set_option maxHeartbeats 8000000 in
theorem rounds_any (a : Act) (w : World) (K : Act → World → Prop) (Q : Exit → Act → World → Prop) (u3 u4 u5 u18 u22 u23 u24 u25 u42 : Value) (gc g od nr c1 c2 : Nat) (k0 k1 k2 k3 k4 k5 k6 k7 n0 n1 n2 : Nat) (y0 y1 y2 y3 y4 y5 y6 y7 y8 y9 y10 y11 y12 y13 y14 y15 : Nat) (S : List Nat) (hF : Fr a [(.pointer (some ⟨gc, 0, none⟩)), (.slice (some ⟨g, od, none⟩) nr c1), (.slice (some ⟨g, od, none⟩) nr c2), u3, u4, u5, (.int .u32 1634760805), (.int .u32 857760878), (.int .u32 2036477234), (.int .u32 1797285236), (.int .u32 (k0 : Int)), (.int .u32 (k1 : Int)), (.int .u32 (k2 : Int)), (.int .u32 (k3 : Int)), (.int .u32 (k4 : Int)), (.int .u32 (k5 : Int)), (.int .u32 (k6 : Int)), (.int .u32 (k7 : Int)), u18, (.int .u32 (n0 : Int)), (.int .u32 (n1 : Int)), (.int .u32 (n2 : Int)), u22, u23, u24, u25, (.int .u32 (y0 : Int)), (.int .u32 (y5 : Int)), (.int .u32 (y10 : Int)), (.int .u32 (y15 : Int)), (.int .u32 (y1 : Int)), (.int .u32 (y6 : Int)), (.int .u32 (y11 : Int)), (.int .u32 (y12 : Int)), (.int .u32 (y2 : Int)), (.int .u32 (y7 : Int)), (.int .u32 (y8 : Int)), (.int .u32 (y13 : Int)), (.int .u32 (y3 : Int)), (.int .u32 (y4 : Int)), (.int .u32 (y9 : Int)), (.int .u32 (y14 : Int)), u42]) (HE : Hid ([y0, y1, y2, y3, y4, y5, y6, y7, y8, y9, y10, y11, y12, y13, y14, y15] = dblN 1 S)) (ly0 : y0 < 4294967296) (ly1 : y1 < 4294967296) (ly2 : y2 < 4294967296) (ly3 : y3 < 4294967296) (ly4 : y4 < 4294967296) (ly5 : y5 < 4294967296) (ly6 : y6 < 4294967296) (ly7 : y7 < 4294967296) (ly8 : y8 < 4294967296) (ly9 : y9 < 4294967296) (ly10 : y10 < 4294967296) (ly11 : y11 < 4294967296) (ly12 : y12 < 4294967296) (ly13 : y13 < 4294967296) (ly14 : y14 < 4294967296) (ly15 : y15 < 4294967296)
    (hK : ∀ (a' : Act) (v42 : Value) (y0 y1 y2 y3 y4 y5 y6 y7 y8 y9 y10 y11 y12 y13 y14 y15 : Nat), Fr a' [(.pointer (some ⟨gc, 0, none⟩)), (.slice (some ⟨g, od, none⟩) nr c1), (.slice (some ⟨g, od, none⟩) nr c2), u3, u4, u5, (.int .u32 1634760805), (.int .u32 857760878), (.int .u32 2036477234), (.int .u32 1797285236), (.int .u32 (k0 : Int)), (.int .u32 (k1 : Int)), (.int .u32 (k2 : Int)), (.int .u32 (k3 : Int)), (.int .u32 (k4 : Int)), (.int .u32 (k5 : Int)), (.int .u32 (k6 : Int)), (.int .u32 (k7 : Int)), u18, (.int .u32 (n0 : Int)), (.int .u32 (n1 : Int)), (.int .u32 (n2 : Int)), u22, u23, u24, u25, (.int .u32 (y0 : Int)), (.int .u32 (y5 : Int)), (.int .u32 (y10 : Int)), (.int .u32 (y15 : Int)), (.int .u32 (y1 : Int)), (.int .u32 (y6 : Int)), (.int .u32 (y11 : Int)), (.int .u32 (y12 : Int)), (.int .u32 (y2 : Int)), (.int .u32 (y7 : Int)), (.int .u32 (y8 : Int)), (.int .u32 (y13 : Int)), (.int .u32 (y3 : Int)), (.int .u32 (y4 : Int)), (.int .u32 (y9 : Int)), (.int .u32 (y14 : Int)), v42] → Hid ([y0, y1, y2, y3, y4, y5, y6, y7, y8, y9, y10, y11, y12, y13, y14, y15] = dblN 10 S) → y0 < 4294967296 → y1 < 4294967296 → y2 < 4294967296 → y3 < 4294967296 → y4 < 4294967296 → y5 < 4294967296 → y6 < 4294967296 → y7 < 4294967296 → y8 < 4294967296 → y9 < 4294967296 → y10 < 4294967296 → y11 < 4294967296 → y12 < 4294967296 → y13 < 4294967296 → y14 < 4294967296 → y15 < 4294967296 → K a' w) : (lft (rgtN 5 B70)).wp Tryd.prog (Exit.then K Q) a w := by
  have HK := Lib.hid hK
  clear hK
  show T70.wp Tryd.prog (Exit.then K Q) a w
  rw [eT]
  refine wp_seq ?_
  refine r17_any a w _ _ _ _ _ _ _ _ _ _ _ gc g od nr c1 c2 _ _ _ _ _ _ _ _ _ _ _ _ _ _ _ _ _ _ _ _ _ _ _ _ _ _ _ hF (fun a1 hF1 => ?_)
  show (rgt T70).wp Tryd.prog (Exit.then K Q) a1 w
  rw [eT2]
  refine wp_block ?_
  refine wp_loop (fun a' w' => w' = w ∧ ∃ (k y0 y1 y2 y3 y4 y5 y6 y7 y8 y9 y10 y11 y12 y13 y14 y15 : Nat), Fr a' [(.pointer (some ⟨gc, 0, none⟩)), (.slice (some ⟨g, od, none⟩) nr c1), (.slice (some ⟨g, od, none⟩) nr c2), u3, u4, u5, (.int .u32 1634760805), (.int .u32 857760878), (.int .u32 2036477234), (.int .u32 1797285236), (.int .u32 (k0 : Int)), (.int .u32 (k1 : Int)), (.int .u32 (k2 : Int)), (.int .u32 (k3 : Int)), (.int .u32 (k4 : Int)), (.int .u32 (k5 : Int)), (.int .u32 (k6 : Int)), (.int .u32 (k7 : Int)), u18, (.int .u32 (n0 : Int)), (.int .u32 (n1 : Int)), (.int .u32 (n2 : Int)), u22, u23, u24, u25, (.int .u32 (y0 : Int)), (.int .u32 (y5 : Int)), (.int .u32 (y10 : Int)), (.int .u32 (y15 : Int)), (.int .u32 (y1 : Int)), (.int .u32 (y6 : Int)), (.int .u32 (y11 : Int)), (.int .u32 (y12 : Int)), (.int .u32 (y2 : Int)), (.int .u32 (y7 : Int)), (.int .u32 (y8 : Int)), (.int .u32 (y13 : Int)), (.int .u32 (y3 : Int)), (.int .u32 (y4 : Int)), (.int .u32 (y9 : Int)), (.int .u32 (y14 : Int)), (.int .i64 (k : Int))] ∧ k ≤ 9 ∧ Hid ([y0, y1, y2, y3, y4, y5, y6, y7, y8, y9, y10, y11, y12, y13, y14, y15] = dblN (k + 1) S) ∧ y0 < 4294967296 ∧ y1 < 4294967296 ∧ y2 < 4294967296 ∧ y3 < 4294967296 ∧ y4 < 4294967296 ∧ y5 < 4294967296 ∧ y6 < 4294967296 ∧ y7 < 4294967296 ∧ y8 < 4294967296 ∧ y9 < 4294967296 ∧ y10 < 4294967296 ∧ y11 < 4294967296 ∧ y12 < 4294967296 ∧ y13 < 4294967296 ∧ y14 < 4294967296 ∧ y15 < 4294967296) (fun a' _ => 9 - (intOf (sl a' 42)).toNat) ⟨rfl, 0, y0, y1, y2, y3, y4, y5, y6, y7, y8, y9, y10, y11, y12, y13, y14, y15, hF1, Nat.zero_le _, HE, ly0, ly1, ly2, ly3, ly4, ly5, ly6, ly7, ly8, ly9, ly10, ly11, ly12, ly13, ly14, ly15⟩ ?_
  clear hF hF1 HE ly0 ly1 ly2 ly3 ly4 ly5 ly6 ly7 ly8 ly9 ly10 ly11 ly12 ly13 ly14 ly15
  rintro a2 w2 ⟨rfl, k, y0, y1, y2, y3, y4, y5, y6, y7, y8, y9, y10, y11, y12, y13, y14, y15, hF2, hk9, HE, ly0, ly1, ly2, ly3, ly4, ly5, ly6, ly7, ly8, ly9, ly10, ly11, ly12, ly13, ly14, ly15⟩
  have hmu := hF2.at 42 (by decide) _ rfl
  rw [eU]
  refine wp_seq ?_
  by_cases h9 : k < 9
  · refine r18_true a2 w2 _ _ _ _ _ _ _ _ _ _ gc g od nr c1 c2 k _ _ _ _ _ _ _ _ _ _ _ _ _ _ _ _ _ _ _ _ _ _ _ _ _ _ _ hF2 h9 (fun a3 hF3 => ?_)
    clear hF2
    show (rgt U70).wp Tryd.prog _ a3 w2
    rw [eU2]
    refine wp_seq ?_
    refine wp_block ?_
    rw [eQ0]
    refine wp_seq ?_
    refine qi_0 a3 w2 _ _ _ _ _ _ _ _ _ _ gc g od nr c1 c2 k _ _ _ _ _ _ _ _ _ _ _ _ _ _ _ _ _ _ _ _ _ _ _ _ _ _ _ hF3 ly0 ly4 ly8 ly12 (fun a4 z1a z1b z1c z1d hF4 HZ1 lz1a lz1b lz1c lz1d => ?_)
    clear hF3
    show (rgtN 1 Q70).wp Tryd.prog _ a4 w2
    rw [eQ1]
    refine wp_seq ?_
    refine qi_1 a4 w2 _ _ _ _ _ _ _ _ _ _ gc g od nr c1 c2 k _ _ _ _ _ _ _ _ _ _ _ _ _ _ _ _ _ _ _ _ _ _ _ _ _ _ _ hF4 ly1 ly5 ly9 ly13 (fun a5 z2a z2b z2c z2d hF5 HZ2 lz2a lz2b lz2c lz2d => ?_)
    clear hF4
    show (rgtN 2 Q70).wp Tryd.prog _ a5 w2
    rw [eQ2]
    refine wp_seq ?_
    refine qi_2 a5 w2 _ _ _ _ _ _ _ _ _ _ gc g od nr c1 c2 k _ _ _ _ _ _ _ _ _ _ _ _ _ _ _ _ _ _ _ _ _ _ _ _ _ _ _ hF5 ly2 ly6 ly10 ly14 (fun a6 z3a z3b z3c z3d hF6 HZ3 lz3a lz3b lz3c lz3d => ?_)
    clear hF5
    show (rgtN 3 Q70).wp Tryd.prog _ a6 w2
    rw [eQ3]
    refine wp_seq ?_
    refine qi_3 a6 w2 _ _ _ _ _ _ _ _ _ _ gc g od nr c1 c2 k _ _ _ _ _ _ _ _ _ _ _ _ _ _ _ _ _ _ _ _ _ _ _ _ _ _ _ hF6 ly3 ly7 ly11 ly15 (fun a7 z4a z4b z4c z4d hF7 HZ4 lz4a lz4b lz4c lz4d => ?_)
    clear hF6
    show (rgtN 4 Q70).wp Tryd.prog _ a7 w2
    rw [eQ4]
    refine wp_seq ?_
    refine qi_4 a7 w2 _ _ _ _ _ _ _ _ _ _ gc g od nr c1 c2 k _ _ _ _ _ _ _ _ _ _ _ _ _ _ _ _ _ _ _ _ _ _ _ _ _ _ _ hF7 lz1a lz2b lz3c lz4d (fun a8 z5a z5b z5c z5d hF8 HZ5 lz5a lz5b lz5c lz5d => ?_)
    clear hF7
    show (rgtN 5 Q70).wp Tryd.prog _ a8 w2
    rw [eQ5]
    refine wp_seq ?_
    refine qi_5 a8 w2 _ _ _ _ _ _ _ _ _ _ gc g od nr c1 c2 k _ _ _ _ _ _ _ _ _ _ _ _ _ _ _ _ _ _ _ _ _ _ _ _ _ _ _ hF8 lz2a lz3b lz4c lz1d (fun a9 z6a z6b z6c z6d hF9 HZ6 lz6a lz6b lz6c lz6d => ?_)
    clear hF8
    show (rgtN 6 Q70).wp Tryd.prog _ a9 w2
    rw [eQ6]
    refine wp_seq ?_
    refine qi_6 a9 w2 _ _ _ _ _ _ _ _ _ _ gc g od nr c1 c2 k _ _ _ _ _ _ _ _ _ _ _ _ _ _ _ _ _ _ _ _ _ _ _ _ _ _ _ hF9 lz3a lz4b lz1c lz2d (fun a10 z7a z7b z7c z7d hF10 HZ7 lz7a lz7b lz7c lz7d => ?_)
    clear hF9
    show (rgtN 7 Q70).wp Tryd.prog _ a10 w2
    refine qi_7 a10 w2 _ _ _ _ _ _ _ _ _ gc g od nr c1 c2 k _ _ _ _ _ _ _ _ _ _ _ _ _ _ _ _ _ _ _ _ _ _ _ _ _ _ _ hF10 lz4a lz1b lz2c lz3d (fun a11 z8a z8b z8c z8d hF11 HZ8 lz8a lz8b lz8c lz8d => ?_)
    clear hF10
    show (rgt (rgt U70)).wp Tryd.prog _ a11 w2
    refine r19_any a11 w2 _ _ _ _ _ _ _ _ _ gc g od nr c1 c2 k _ _ _ _ _ _ _ _ _ _ _ _ _ _ _ _ _ _ _ _ _ _ _ _ _ _ _ hF11 h9 (fun a12 hF12 => ?_)
    have hmu2 := hF12.at 42 (by decide) _ rfl
    refine ⟨⟨rfl, k + 1, z5a, z6a, z7a, z8a, z8b, z5b, z6b, z7b, z7c, z8c, z5c, z6c, z6d, z7d, z8d, z5d, hF12, by omega, ?_, lz5a, lz6a, lz7a, lz8a, lz8b, lz5b, lz6b, lz7b, lz7c, lz8c, lz5c, lz6c, lz6d, lz7d, lz8d, lz5d⟩, ?_⟩
    · unfold Hid
      show _ = dbl (dblN (k + 1) S)
      rw [← HE.out]
      exact (dbl16 y0 y1 y2 y3 y4 y5 y6 y7 y8 y9 y10 y11 y12 y13 y14 y15 z1a z1b z1c z1d z2a z2b z2c z2d z3a z3b z3c z3d z4a z4b z4c z4d z5a z5b z5c z5d z6a z6b z6c z6d z7a z7b z7c z7d z8a z8b z8c z8d HZ1.out HZ2.out HZ3.out HZ4.out HZ5.out HZ6.out HZ7.out HZ8.out).symm
    · show 9 - (intOf (sl a12 42)).toNat < 9 - (intOf (sl a2 42)).toNat
      rw [hmu, hmu2]
      simp only [intOf]
      omega
  · refine r18_false a2 w2 _ _ _ _ _ _ _ _ _ _ gc g od nr c1 c2 k _ _ _ _ _ _ _ _ _ _ _ _ _ _ _ _ _ _ _ _ _ _ _ _ _ _ _ hF2 h9 (fun a3 hF3 => ?_)
    have hk : k = 9 := by omega
    subst hk
    show (Exit.inBlock 2 (Exit.then K Q)) (.exit 2) a3 w2
    simp only [Exit.inBlock, if_true, Exit.then]
    exact HK.out a3 _ y0 y1 y2 y3 y4 y5 y6 y7 y8 y9 y10 y11 y12 y13 y14 y15 hF3 HE ly0 ly1 ly2 ly3 ly4 ly5 ly6 ly7 ly8 ly9 ly10 ly11 ly12 ly13 ly14 ly15
end Go.Proofs.YtkocgogpbammaaaDoor

/- xorKeyStreamBlocksGeneric: the loop. Conditions: as each states. (Printed by wip/gencd.py.) -/

namespace Go.Proofs.YtkocgogpbammaaaDoor
open Go.RowKit

theorem eC : rgtN 8 C70 = .block 0 (.loop L70) := by kernel_rfl
theorem eL : L70 = .seq (lft L70) (.block 1 (rgtN 0 B70)) := by kernel_rfl
theorem eB0 : rgtN 0 B70 = .seq (lft (rgtN 0 B70)) (rgtN 1 B70) := by kernel_rfl
theorem eB1 : rgtN 1 B70 = .seq (lft (rgtN 1 B70)) (rgtN 2 B70) := by kernel_rfl
theorem eB2 : rgtN 2 B70 = .seq (lft (rgtN 2 B70)) (rgtN 3 B70) := by kernel_rfl
theorem eB3 : rgtN 3 B70 = .seq (lft (rgtN 3 B70)) (rgtN 4 B70) := by kernel_rfl
theorem eB4 : rgtN 4 B70 = .seq (lft (rgtN 4 B70)) (rgtN 5 B70) := by kernel_rfl
theorem eB5 : rgtN 5 B70 = .seq (lft (rgtN 5 B70)) (rgtN 6 B70) := by kernel_rfl
theorem eB6 : rgtN 6 B70 = .seq (lft (rgtN 6 B70)) (rgtN 7 B70) := by kernel_rfl
theorem eB7 : rgtN 7 B70 = .seq (lft (rgtN 7 B70)) (rgtN 8 B70) := by kernel_rfl
theorem eB8 : rgtN 8 B70 = .seq (lft (rgtN 8 B70)) (rgtN 9 B70) := by kernel_rfl
theorem eB9 : rgtN 9 B70 = .seq (lft (rgtN 9 B70)) (rgtN 10 B70) := by kernel_rfl
theorem eB10 : rgtN 10 B70 = .seq (lft (rgtN 10 B70)) (rgtN 11 B70) := by kernel_rfl
theorem eB11 : rgtN 11 B70 = .seq (lft (rgtN 11 B70)) (rgtN 12 B70) := by kernel_rfl
theorem eB12 : rgtN 12 B70 = .seq (lft (rgtN 12 B70)) (rgtN 13 B70) := by kernel_rfl
theorem eB13 : rgtN 13 B70 = .seq (lft (rgtN 13 B70)) (rgtN 14 B70) := by kernel_rfl
theorem eB14 : rgtN 14 B70 = .seq (lft (rgtN 14 B70)) (rgtN 15 B70) := by kernel_rfl
theorem eB15 : rgtN 15 B70 = .seq (lft (rgtN 15 B70)) (rgtN 16 B70) := by kernel_rfl
theorem eB16 : rgtN 16 B70 = .seq (lft (rgtN 16 B70)) (rgtN 17 B70) := by kernel_rfl
theorem eB17 : rgtN 17 B70 = .seq (lft (rgtN 17 B70)) (rgtN 18 B70) := by kernel_rfl
theorem eB18 : rgtN 18 B70 = .seq (lft (rgtN 18 B70)) (rgtN 19 B70) := by kernel_rfl
theorem eB19 : rgtN 19 B70 = .seq (lft (rgtN 19 B70)) (rgtN 20 B70) := by kernel_rfl
theorem eB20 : rgtN 20 B70 = .seq (lft (rgtN 20 B70)) (rgtN 21 B70) := by kernel_rfl
theorem eB21 : rgtN 21 B70 = .seq (lft (rgtN 21 B70)) (rgtN 22 B70) := by kernel_rfl
theorem eB22 : rgtN 22 B70 = .seq (lft (rgtN 22 B70)) (rgtN 23 B70) := by kernel_rfl
set_option maxRecDepth 1000000 in
set_option maxHeartbeats 16000000 in
theorem loop_any (a : Act) (w : World) (Q : Exit → Act → World → Prop) (u3 u4 u5 u18 u22 u23 u24 u25 u26 u27 u28 u29 u30 u31 u32 u33 u34 u35 u36 u37 u38 u39 u40 u41 u42 : Value) (same : Bool) (gc g o : Nat) (t : TypeId) (A B : List Value) (k0 k1 k2 k3 k4 k5 k6 k7 n0 n1 n2 : Nat) (cnt : Nat) (buf l : List UInt8) (len : Nat) (a1 a2 a3 a4 b1 b2 b3 b4 e1 e2 e3 e4 : Nat) (nb n cd cs : Nat)
    (hF : Fr a [(.pointer (some ⟨gc, 0, none⟩)), (.slice (some ⟨g, o, none⟩) n cd), (.slice (some ⟨g, o, none⟩) n cs), u3, u4, u5, (.int .u32 1634760805), (.int .u32 857760878), (.int .u32 2036477234), (.int .u32 1797285236), (.int .u32 (k0 : Int)), (.int .u32 (k1 : Int)), (.int .u32 (k2 : Int)), (.int .u32 (k3 : Int)), (.int .u32 (k4 : Int)), (.int .u32 (k5 : Int)), (.int .u32 (k6 : Int)), (.int .u32 (k7 : Int)), u18, (.int .u32 (n0 : Int)), (.int .u32 (n1 : Int)), (.int .u32 (n2 : Int)), u22, u23, u24, u25, u26, u27, u28, u29, u30, u31, u32, u33, u34, u35, u36, u37, u38, u39, u40, u41, u42]) (lk0 : k0 < 4294967296) (lk1 : k1 < 4294967296) (lk2 : k2 < 4294967296) (lk3 : k3 < 4294967296) (lk4 : k4 < 4294967296) (lk5 : k5 < 4294967296) (lk6 : k6 < 4294967296) (lk7 : k7 < 4294967296) (ln0 : n0 < 4294967296) (ln1 : n1 < 4294967296) (ln2 : n2 < 4294967296) (la1 : a1 < 4294967296) (la2 : a2 < 4294967296) (la3 : a3 < 4294967296) (la4 : a4 < 4294967296) (lb1 : b1 < 4294967296) (lb2 : b2 < 4294967296) (lb3 : b3 < 4294967296) (lb4 : b4 < 4294967296) (le1 : e1 < 4294967296) (le2 : e2 < 4294967296) (le3 : e3 < 4294967296) (le4 : e4 < 4294967296) (HQ1 : Hid ((a1, a2, a3, a4) = qr 857760878 k1 k5 n0)) (HQ2 : Hid ((b1, b2, b3, b4) = qr 2036477234 k2 k6 n1)) (HQ3 : Hid ((e1, e2, e3, e4) = qr 1797285236 k3 k7 n2)) (hX : XI same w gc g o t A B [k0, k1, k2, k3, k4, k5, k6, k7] cnt [n0, n1, n2] buf l len true [a1, a2, a3, a4, b1, b2, b3, b4, e1, e2, e3, e4]) (hn : n = 64 * nb) (hl : n ≤ l.length) (hc : cnt + nb < 4294967296) (hcd : n ≤ cd) (hcs : n ≤ cs)
    (hQ : ∀ (a' : Act) (w' : World), a'.defers = [] → XI same w' gc g o t A B [k0, k1, k2, k3, k4, k5, k6, k7] (cnt + nb) [n0, n1, n2] buf (XM (ksf [k0, k1, k2, k3, k4, k5, k6, k7] cnt [n0, n1, n2]) n l) len true [a1, a2, a3, a4, b1, b2, b3, b4, e1, e2, e3, e4] → Keeps w w' (twoS gc g) → Q .normal a' w') : (rgtN 8 C70).wp Tryd.prog Q a w := by
  have HQ := Lib.hid hQ
  have HN := Lib.hid hn
  have HCN := Lib.hid hc
  clear hQ hc
  rw [eC]
  refine wp_block ?_
  refine wp_loop (fun a' w' => ∃ (i od os c1 c2 nr : Nat) (u22 u23 u24 u25 u26 u27 u28 u29 u30 u31 u32 u33 u34 u35 u36 u37 u38 u39 u40 u41 u42 : Value), Fr a' [(.pointer (some ⟨gc, 0, none⟩)), (.slice (some ⟨g, od, none⟩) nr c1), (.slice (some ⟨g, os, none⟩) nr c2), u3, u4, u5, (.int .u32 1634760805), (.int .u32 857760878), (.int .u32 2036477234), (.int .u32 1797285236), (.int .u32 (k0 : Int)), (.int .u32 (k1 : Int)), (.int .u32 (k2 : Int)), (.int .u32 (k3 : Int)), (.int .u32 (k4 : Int)), (.int .u32 (k5 : Int)), (.int .u32 (k6 : Int)), (.int .u32 (k7 : Int)), u18, (.int .u32 (n0 : Int)), (.int .u32 (n1 : Int)), (.int .u32 (n2 : Int)), u22, u23, u24, u25, u26, u27, u28, u29, u30, u31, u32, u33, u34, u35, u36, u37, u38, u39, u40, u41, u42] ∧ nr + 64 * i = n ∧ (0 < nr → od = o + 64 * i ∧ os = o + 64 * i) ∧ nr ≤ c1 ∧ nr ≤ c2 ∧ i ≤ nb ∧
    XI same w' gc g o t A B [k0, k1, k2, k3, k4, k5, k6, k7] (cnt + i) [n0, n1, n2] buf (XM (ksf [k0, k1, k2, k3, k4, k5, k6, k7] cnt [n0, n1, n2]) (64 * i) l) len true [a1, a2, a3, a4, b1, b2, b3, b4, e1, e2, e3, e4] ∧ Keeps w w' (twoS gc g)) (fun a' _ => lenOf (sl a' 1)) ⟨0, o, o, cd, cs, n, u22, u23, u24, u25, u26, u27, u28, u29, u30, u31, u32, u33, u34, u35, u36, u37, u38, u39, u40, u41, u42, hF, by omega, (fun _ => ⟨rfl, rfl⟩), hcd, hcs, Nat.zero_le _, by rw [Nat.mul_zero, XM_zero]; exact hX, Keeps.refl _ _⟩ ?_
  clear hF hX hcd hcs
  rintro d2 w2 ⟨i, od, os, c1, c2, nr, u22, u23, u24, u25, u26, u27, u28, u29, u30, u31, u32, u33, u34, u35, u36, u37, u38, u39, u40, u41, u42, hF2, hnr, hO, hr1, hr2, hib, hX, hK⟩
  have hmu := hF2.at 1 (by decide) _ rfl
  rw [eL]
  refine wp_seq ?_
  by_cases h64 : 64 ≤ nr
  · refine r11_true d2 w2 _ _ _ _ _ _ _ _ _ _ _ _ _ _ _ _ _ _ _ _ _ _ _ _ _ _ _ gc g od os nr c1 c2 _ _ _ _ _ _ _ _ _ _ _ hF2 h64 (fun d3 hF3 => ?_)
    clear hF2
    show (Code.block 1 (rgtN 0 B70)).wp Tryd.prog _ d3 w2
    refine wp_block ?_
    have hib2 : i < nb := by have h := HN.out; omega
    have hci : cnt + i + 1 < 4294967296 := by have h := HCN.out; omega
    have hml : 64 * i + 64 ≤ l.length := by omega
    obtain ⟨rfl, ho2⟩ : od = os ∧ os = o + 64 * i := by have := hO (by omega); omega
    obtain ⟨cn, hcn⟩ : ∃ x, x = cnt + i := ⟨_, rfl⟩
    rw [← hcn] at hX hci
    have lcn : cn < 4294967296 := by omega
    obtain ⟨bz, hbz, hG⟩ := hX.gcs
    have c8 := hG.cellE (cph_cnt [k0, k1, k2, k3, k4, k5, k6, k7] [n0, n1, n2] _ _ _ _ _ rfl)
    have c79 := hG.cellE (cph_ps [k0, k1, k2, k3, k4, k5, k6, k7] [n0, n1, n2] _ _ _ _ _ rfl rfl hbz 0 a1 rfl)
    have c80 := hG.cellE (cph_ps [k0, k1, k2, k3, k4, k5, k6, k7] [n0, n1, n2] _ _ _ _ _ rfl rfl hbz 1 a2 rfl)
    have c81 := hG.cellE (cph_ps [k0, k1, k2, k3, k4, k5, k6, k7] [n0, n1, n2] _ _ _ _ _ rfl rfl hbz 2 a3 rfl)
    have c82 := hG.cellE (cph_ps [k0, k1, k2, k3, k4, k5, k6, k7] [n0, n1, n2] _ _ _ _ _ rfl rfl hbz 3 a4 rfl)
    have c83 := hG.cellE (cph_ps [k0, k1, k2, k3, k4, k5, k6, k7] [n0, n1, n2] _ _ _ _ _ rfl rfl hbz 4 b1 rfl)
    have c84 := hG.cellE (cph_ps [k0, k1, k2, k3, k4, k5, k6, k7] [n0, n1, n2] _ _ _ _ _ rfl rfl hbz 5 b2 rfl)
    have c85 := hG.cellE (cph_ps [k0, k1, k2, k3, k4, k5, k6, k7] [n0, n1, n2] _ _ _ _ _ rfl rfl hbz 6 b3 rfl)
    have c86 := hG.cellE (cph_ps [k0, k1, k2, k3, k4, k5, k6, k7] [n0, n1, n2] _ _ _ _ _ rfl rfl hbz 7 b4 rfl)
    have c87 := hG.cellE (cph_ps [k0, k1, k2, k3, k4, k5, k6, k7] [n0, n1, n2] _ _ _ _ _ rfl rfl hbz 8 e1 rfl)
    have c88 := hG.cellE (cph_ps [k0, k1, k2, k3, k4, k5, k6, k7] [n0, n1, n2] _ _ _ _ _ rfl rfl hbz 9 e2 rfl)
    have c89 := hG.cellE (cph_ps [k0, k1, k2, k3, k4, k5, k6, k7] [n0, n1, n2] _ _ _ _ _ rfl rfl hbz 10 e3 rfl)
    have c90 := hG.cellE (cph_ps [k0, k1, k2, k3, k4, k5, k6, k7] [n0, n1, n2] _ _ _ _ _ rfl rfl hbz 11 e4 rfl)
    rw [eB0]
    refine wp_seq ?_
    refine r12_any d3 w2 _ _ _ _ _ _ _ _ _ _ _ _ _ _ _ _ _ _ _ _ _ _ _ _ _ _ _ gc g od nr c1 c2 cn _ _ _ _ _ _ _ _ _ _ _ hF3 lk0 lk4 lcn c8 (fun d4 f0 f4 f8 f12 hF4 HF lf0 lf4 lf8 lf12 => ?_)
    clear hF3
    show (rgtN 1 B70).wp Tryd.prog _ d4 w2
    rw [eB1]
    refine wp_seq ?_
    refine dg_0 d4 _ _ _ _ _ _ _ _ _ _ _ _ _ _ _ _ _ _ _ _ _ _ _ _ gc g od nr c1 c2 f0 f4 f8 f12 a2 b3 e4 _ _ _ _ _ _ _ _ _ _ _ hF4 lf0 la2 lb3 le4 c80 c85 c90 (fun d5 nq0 ua ub uc ud hF5 Hu lua lub luc lud => ?_)
    clear hF4
    show (rgtN 2 B70).wp Tryd.prog _ d5 _
    rw [eB2]
    refine wp_seq ?_
    refine dg_1 d5 _ _ _ _ _ _ _ _ _ _ _ _ _ _ _ _ _ _ _ _ _ _ _ _ gc g od nr c1 c2 f0 f4 f8 f12 a1 b2 e3 _ _ _ _ _ _ _ _ _ _ _ hF5 la1 lb2 le3 lf12 c79 c84 c89 (fun d6 nq1 va vb vc vd hF6 Hv lva lvb lvc lvd => ?_)
    clear hF5
    show (rgtN 3 B70).wp Tryd.prog _ d6 _
    rw [eB3]
    refine wp_seq ?_
    refine dg_2 d6 _ _ _ _ _ _ _ _ _ _ _ _ _ _ _ _ _ _ _ _ _ _ _ _ gc g od nr c1 c2 f0 f4 f8 f12 b1 e2 a4 _ _ _ _ _ _ _ _ _ _ _ hF6 lb1 le2 lf8 la4 c83 c88 c82 (fun d7 nq2 ma mb mc md hF7 Hm lma lmb lmc lmd => ?_)
    clear hF6
    show (rgtN 4 B70).wp Tryd.prog _ d7 _
    rw [eB4]
    refine wp_seq ?_
    refine dg_3 d7 _ _ _ _ _ _ _ _ _ _ _ _ _ _ _ _ _ _ _ _ _ _ _ _ gc g od nr c1 c2 f0 f4 f8 f12 e1 a3 b4 _ _ _ _ _ _ _ _ _ _ _ hF7 le1 lf4 la3 lb4 c87 c81 c86 (fun d8 nq3 qa qb qc qd hF8 Hq lqa lqb lqc lqd => ?_)
    clear hF7
    have hX := (((hX.drewN nq0).drewN nq1).drewN nq2).drewN nq3
    have hK := (((hK.drewN nq0).drewN nq1).drewN nq2).drewN nq3
    generalize (((w2.drewN nq0).drewN nq1).drewN nq2).drewN nq3 = w8 at hX hK ⊢
    clear hG c8 c79 c80 c81 c82 c83 c84 c85 c86 c87 c88 c89 c90
    have HE : Hid ([ua, va, ma, qa, qb, ub, vb, mb, mc, qc, uc, vc, vd, md, qd, ud] = dblN (0 + 1) (stW [k0, k1, k2, k3, k4, k5, k6, k7] cn [n0, n1, n2])) := Lib.hid (dbl16 1634760805 857760878 2036477234 1797285236 k0 k1 k2 k3 k4 k5 k6 k7 cn n0 n1 n2 f0 f4 f8 f12 a1 a2 a3 a4 b1 b2 b3 b4 e1 e2 e3 e4 ua ub uc ud va vb vc vd ma mb mc md qa qb qc qd HF.out HQ1.out HQ2.out HQ3.out Hu.out Hv.out Hm.out Hq.out).symm
    obtain ⟨S, hS⟩ : ∃ x, x = stW [k0, k1, k2, k3, k4, k5, k6, k7] cn [n0, n1, n2] := ⟨_, rfl⟩
    rw [← hS] at HE
    show (rgtN 5 B70).wp Tryd.prog _ d8 w8
    rw [eB5]
    refine wp_seq ?_
    refine rounds_any d8 w8 _ _ _ _ _ _ _ _ _ _ _ gc g od nr c1 c2 _ _ _ _ _ _ _ _ _ _ _ ua va ma qa qb ub vb mb mc qc uc vc vd md qd ud S hF8 HE lua lva lma lqa lqb lub lvb lmb lmc lqc luc lvc lvd lmd lqd lud (fun d9 v42 y0 y1 y2 y3 y4 y5 y6 y7 y8 y9 y10 y11 y12 y13 y14 y15 hF9 HD ly0 ly1 ly2 ly3 ly4 ly5 ly6 ly7 ly8 ly9 ly10 ly11 ly12 ly13 ly14 ly15 => ?_)
    clear hF8 HE lua lva lma lqa lqb lub lvb lmb lmc lqc luc lvc lvd lmd lqd lud
    obtain ⟨t', pre, post, hpre, hA, HBk⟩ := hX.seg rfl rfl
    have hgr := World.grownBy.refl w8 (some g)
    have hW : ∀ q, q < 16 → ∀ j, j < 4 → ksf [k0, k1, k2, k3, k4, k5, k6, k7] cnt [n0, n1, n2] (64 * i + 4 * q + j) = UInt8.ofNat ((([y0, y1, y2, y3, y4, y5, y6, y7, y8, y9, y10, y11, y12, y13, y14, y15] : List Nat).getD q 0 + S.getD q 0) % 4294967296 / 256 ^ j) := fun q hq j hj => by
      have h := ksf_word [k0, k1, k2, k3, k4, k5, k6, k7] [n0, n1, n2] cnt i q j hq hj
      rw [← hcn, ← hS, ← HD.out] at h
      exact h
    show (rgtN 6 B70).wp Tryd.prog _ d9 w8
    rw [eB6]
    refine wp_seq ?_
    refine ax_0 d9 w8 _ _ _ _ _ _ _ _ _ _ _ gc g od nr c1 c2 o (64 * i) cn _ _ _ _ _ _ _ _ _ _ _ _ _ _ _ _ _ _ _ _ _ _ _ _ _ _ _ t' pre post l (ksf [k0, k1, k2, k3, k4, k5, k6, k7] cnt [n0, n1, n2]) hF9 h64 hr1 hr2 ly0 (by decide) ho2 hpre hml (fun j hj => by
      have h := hW 0 (by decide) j hj
      rw [hS] at h
      exact h) hA (fun x0 W0 hG0 hA0 hg0 => ?_)
    have hA : Arr W0 g t' (pre ++ u8s (XM (ksf [k0, k1, k2, k3, k4, k5, k6, k7] cnt [n0, n1, n2]) (64 * i + 4) l) ++ post) := hA0
    have hgr := grown_trans' hgr hg0
    clear hF9 hA0 hg0
    show (rgtN 7 B70).wp Tryd.prog _ x0 W0
    rw [eB7]
    refine wp_seq ?_
    refine ax_1 x0 W0 _ _ _ _ _ _ _ _ _ _ _ gc g od nr c1 c2 o (64 * i) cn _ _ _ _ _ _ _ _ _ _ _ _ _ _ _ _ _ _ _ _ _ _ _ _ _ _ _ t' pre post l (ksf [k0, k1, k2, k3, k4, k5, k6, k7] cnt [n0, n1, n2]) hG0 h64 hr1 hr2 ly1 (by decide) ho2 hpre hml (fun j hj => by
      have h := hW 1 (by decide) j hj
      rw [hS] at h
      exact h) hA (fun x1 W1 hG1 hA1 hg1 => ?_)
    have hA : Arr W1 g t' (pre ++ u8s (XM (ksf [k0, k1, k2, k3, k4, k5, k6, k7] cnt [n0, n1, n2]) (64 * i + 8) l) ++ post) := hA1
    have hgr := grown_trans' hgr hg1
    clear hG0 hA1 hg1
    show (rgtN 8 B70).wp Tryd.prog _ x1 W1
    rw [eB8]
    refine wp_seq ?_
    refine ax_2 x1 W1 _ _ _ _ _ _ _ _ _ _ _ gc g od nr c1 c2 o (64 * i) cn _ _ _ _ _ _ _ _ _ _ _ _ _ _ _ _ _ _ _ _ _ _ _ _ _ _ _ t' pre post l (ksf [k0, k1, k2, k3, k4, k5, k6, k7] cnt [n0, n1, n2]) hG1 h64 hr1 hr2 ly2 (by decide) ho2 hpre hml (fun j hj => by
      have h := hW 2 (by decide) j hj
      rw [hS] at h
      exact h) hA (fun x2 W2 hG2 hA2 hg2 => ?_)
    have hA : Arr W2 g t' (pre ++ u8s (XM (ksf [k0, k1, k2, k3, k4, k5, k6, k7] cnt [n0, n1, n2]) (64 * i + 12) l) ++ post) := hA2
    have hgr := grown_trans' hgr hg2
    clear hG1 hA2 hg2
    show (rgtN 9 B70).wp Tryd.prog _ x2 W2
    rw [eB9]
    refine wp_seq ?_
    refine ax_3 x2 W2 _ _ _ _ _ _ _ _ _ _ _ gc g od nr c1 c2 o (64 * i) cn _ _ _ _ _ _ _ _ _ _ _ _ _ _ _ _ _ _ _ _ _ _ _ _ _ _ _ t' pre post l (ksf [k0, k1, k2, k3, k4, k5, k6, k7] cnt [n0, n1, n2]) hG2 h64 hr1 hr2 ly3 (by decide) ho2 hpre hml (fun j hj => by
      have h := hW 3 (by decide) j hj
      rw [hS] at h
      exact h) hA (fun x3 W3 hG3 hA3 hg3 => ?_)
    have hA : Arr W3 g t' (pre ++ u8s (XM (ksf [k0, k1, k2, k3, k4, k5, k6, k7] cnt [n0, n1, n2]) (64 * i + 16) l) ++ post) := hA3
    have hgr := grown_trans' hgr hg3
    clear hG2 hA3 hg3
    show (rgtN 10 B70).wp Tryd.prog _ x3 W3
    rw [eB10]
    refine wp_seq ?_
    refine ax_4 x3 W3 _ _ _ _ _ _ _ _ _ _ _ gc g od nr c1 c2 o (64 * i) cn _ _ _ _ _ _ _ _ _ _ _ _ _ _ _ _ _ _ _ _ _ _ _ _ _ _ _ t' pre post l (ksf [k0, k1, k2, k3, k4, k5, k6, k7] cnt [n0, n1, n2]) hG3 h64 hr1 hr2 ly4 lk0 ho2 hpre hml (fun j hj => by
      have h := hW 4 (by decide) j hj
      rw [hS] at h
      exact h) hA (fun x4 W4 hG4 hA4 hg4 => ?_)
    have hA : Arr W4 g t' (pre ++ u8s (XM (ksf [k0, k1, k2, k3, k4, k5, k6, k7] cnt [n0, n1, n2]) (64 * i + 20) l) ++ post) := hA4
    have hgr := grown_trans' hgr hg4
    clear hG3 hA4 hg4
    show (rgtN 11 B70).wp Tryd.prog _ x4 W4
    rw [eB11]
    refine wp_seq ?_
    refine ax_5 x4 W4 _ _ _ _ _ _ _ _ _ _ _ gc g od nr c1 c2 o (64 * i) cn _ _ _ _ _ _ _ _ _ _ _ _ _ _ _ _ _ _ _ _ _ _ _ _ _ _ _ t' pre post l (ksf [k0, k1, k2, k3, k4, k5, k6, k7] cnt [n0, n1, n2]) hG4 h64 hr1 hr2 ly5 lk1 ho2 hpre hml (fun j hj => by
      have h := hW 5 (by decide) j hj
      rw [hS] at h
      exact h) hA (fun x5 W5 hG5 hA5 hg5 => ?_)
    have hA : Arr W5 g t' (pre ++ u8s (XM (ksf [k0, k1, k2, k3, k4, k5, k6, k7] cnt [n0, n1, n2]) (64 * i + 24) l) ++ post) := hA5
    have hgr := grown_trans' hgr hg5
    clear hG4 hA5 hg5
    show (rgtN 12 B70).wp Tryd.prog _ x5 W5
    rw [eB12]
    refine wp_seq ?_
    refine ax_6 x5 W5 _ _ _ _ _ _ _ _ _ _ _ gc g od nr c1 c2 o (64 * i) cn _ _ _ _ _ _ _ _ _ _ _ _ _ _ _ _ _ _ _ _ _ _ _ _ _ _ _ t' pre post l (ksf [k0, k1, k2, k3, k4, k5, k6, k7] cnt [n0, n1, n2]) hG5 h64 hr1 hr2 ly6 lk2 ho2 hpre hml (fun j hj => by
      have h := hW 6 (by decide) j hj
      rw [hS] at h
      exact h) hA (fun x6 W6 hG6 hA6 hg6 => ?_)
    have hA : Arr W6 g t' (pre ++ u8s (XM (ksf [k0, k1, k2, k3, k4, k5, k6, k7] cnt [n0, n1, n2]) (64 * i + 28) l) ++ post) := hA6
    have hgr := grown_trans' hgr hg6
    clear hG5 hA6 hg6
    show (rgtN 13 B70).wp Tryd.prog _ x6 W6
    rw [eB13]
    refine wp_seq ?_
    refine ax_7 x6 W6 _ _ _ _ _ _ _ _ _ _ _ gc g od nr c1 c2 o (64 * i) cn _ _ _ _ _ _ _ _ _ _ _ _ _ _ _ _ _ _ _ _ _ _ _ _ _ _ _ t' pre post l (ksf [k0, k1, k2, k3, k4, k5, k6, k7] cnt [n0, n1, n2]) hG6 h64 hr1 hr2 ly7 lk3 ho2 hpre hml (fun j hj => by
      have h := hW 7 (by decide) j hj
      rw [hS] at h
      exact h) hA (fun x7 W7 hG7 hA7 hg7 => ?_)
    have hA : Arr W7 g t' (pre ++ u8s (XM (ksf [k0, k1, k2, k3, k4, k5, k6, k7] cnt [n0, n1, n2]) (64 * i + 32) l) ++ post) := hA7
    have hgr := grown_trans' hgr hg7
    clear hG6 hA7 hg7
    show (rgtN 14 B70).wp Tryd.prog _ x7 W7
    rw [eB14]
    refine wp_seq ?_
    refine ax_8 x7 W7 _ _ _ _ _ _ _ _ _ _ _ gc g od nr c1 c2 o (64 * i) cn _ _ _ _ _ _ _ _ _ _ _ _ _ _ _ _ _ _ _ _ _ _ _ _ _ _ _ t' pre post l (ksf [k0, k1, k2, k3, k4, k5, k6, k7] cnt [n0, n1, n2]) hG7 h64 hr1 hr2 ly8 lk4 ho2 hpre hml (fun j hj => by
      have h := hW 8 (by decide) j hj
      rw [hS] at h
      exact h) hA (fun x8 W8 hG8 hA8 hg8 => ?_)
    have hA : Arr W8 g t' (pre ++ u8s (XM (ksf [k0, k1, k2, k3, k4, k5, k6, k7] cnt [n0, n1, n2]) (64 * i + 36) l) ++ post) := hA8
    have hgr := grown_trans' hgr hg8
    clear hG7 hA8 hg8
    show (rgtN 15 B70).wp Tryd.prog _ x8 W8
    rw [eB15]
    refine wp_seq ?_
    refine ax_9 x8 W8 _ _ _ _ _ _ _ _ _ _ _ gc g od nr c1 c2 o (64 * i) cn _ _ _ _ _ _ _ _ _ _ _ _ _ _ _ _ _ _ _ _ _ _ _ _ _ _ _ t' pre post l (ksf [k0, k1, k2, k3, k4, k5, k6, k7] cnt [n0, n1, n2]) hG8 h64 hr1 hr2 ly9 lk5 ho2 hpre hml (fun j hj => by
      have h := hW 9 (by decide) j hj
      rw [hS] at h
      exact h) hA (fun x9 W9 hG9 hA9 hg9 => ?_)
    have hA : Arr W9 g t' (pre ++ u8s (XM (ksf [k0, k1, k2, k3, k4, k5, k6, k7] cnt [n0, n1, n2]) (64 * i + 40) l) ++ post) := hA9
    have hgr := grown_trans' hgr hg9
    clear hG8 hA9 hg9
    show (rgtN 16 B70).wp Tryd.prog _ x9 W9
    rw [eB16]
    refine wp_seq ?_
    refine ax_10 x9 W9 _ _ _ _ _ _ _ _ _ _ _ gc g od nr c1 c2 o (64 * i) cn _ _ _ _ _ _ _ _ _ _ _ _ _ _ _ _ _ _ _ _ _ _ _ _ _ _ _ t' pre post l (ksf [k0, k1, k2, k3, k4, k5, k6, k7] cnt [n0, n1, n2]) hG9 h64 hr1 hr2 ly10 lk6 ho2 hpre hml (fun j hj => by
      have h := hW 10 (by decide) j hj
      rw [hS] at h
      exact h) hA (fun x10 W10 hG10 hA10 hg10 => ?_)
    have hA : Arr W10 g t' (pre ++ u8s (XM (ksf [k0, k1, k2, k3, k4, k5, k6, k7] cnt [n0, n1, n2]) (64 * i + 44) l) ++ post) := hA10
    have hgr := grown_trans' hgr hg10
    clear hG9 hA10 hg10
    show (rgtN 17 B70).wp Tryd.prog _ x10 W10
    rw [eB17]
    refine wp_seq ?_
    refine ax_11 x10 W10 _ _ _ _ _ _ _ _ _ _ _ gc g od nr c1 c2 o (64 * i) cn _ _ _ _ _ _ _ _ _ _ _ _ _ _ _ _ _ _ _ _ _ _ _ _ _ _ _ t' pre post l (ksf [k0, k1, k2, k3, k4, k5, k6, k7] cnt [n0, n1, n2]) hG10 h64 hr1 hr2 ly11 lk7 ho2 hpre hml (fun j hj => by
      have h := hW 11 (by decide) j hj
      rw [hS] at h
      exact h) hA (fun x11 W11 hG11 hA11 hg11 => ?_)
    have hA : Arr W11 g t' (pre ++ u8s (XM (ksf [k0, k1, k2, k3, k4, k5, k6, k7] cnt [n0, n1, n2]) (64 * i + 48) l) ++ post) := hA11
    have hgr := grown_trans' hgr hg11
    clear hG10 hA11 hg11
    have hX12 := HBk W11 _ (by simp) hA hgr
    obtain ⟨bz2, hbz2, hG2⟩ := hX12.gcs
    have c8 := hG2.cellE (cph_cnt [k0, k1, k2, k3, k4, k5, k6, k7] [n0, n1, n2] _ _ _ _ _ rfl)
    show (rgtN 18 B70).wp Tryd.prog _ x11 W11
    rw [eB18]
    refine wp_seq ?_
    refine ax_12 x11 W11 _ _ _ _ _ _ _ _ _ _ _ gc g od nr c1 c2 o (64 * i) cn _ _ _ _ _ _ _ _ _ _ _ _ _ _ _ _ _ _ _ _ _ _ _ _ _ _ _ t' pre post l (ksf [k0, k1, k2, k3, k4, k5, k6, k7] cnt [n0, n1, n2]) hG11 h64 hr1 hr2 ly12 lcn ho2 hpre hml c8 (fun j hj => by
      have h := hW 12 (by decide) j hj
      rw [hS] at h
      exact h) hA (fun x12 W12 hG12 hA12 hg12 => ?_)
    have hA : Arr W12 g t' (pre ++ u8s (XM (ksf [k0, k1, k2, k3, k4, k5, k6, k7] cnt [n0, n1, n2]) (64 * i + 52) l) ++ post) := hA12
    have hgr := grown_trans' hgr hg12
    clear hG11 hA12 hg12
    show (rgtN 19 B70).wp Tryd.prog _ x12 W12
    rw [eB19]
    refine wp_seq ?_
    refine ax_13 x12 W12 _ _ _ _ _ _ _ _ _ _ _ gc g od nr c1 c2 o (64 * i) cn _ _ _ _ _ _ _ _ _ _ _ _ _ _ _ _ _ _ _ _ _ _ _ _ _ _ _ t' pre post l (ksf [k0, k1, k2, k3, k4, k5, k6, k7] cnt [n0, n1, n2]) hG12 h64 hr1 hr2 ly13 ln0 ho2 hpre hml (fun j hj => by
      have h := hW 13 (by decide) j hj
      rw [hS] at h
      exact h) hA (fun x13 W13 hG13 hA13 hg13 => ?_)
    have hA : Arr W13 g t' (pre ++ u8s (XM (ksf [k0, k1, k2, k3, k4, k5, k6, k7] cnt [n0, n1, n2]) (64 * i + 56) l) ++ post) := hA13
    have hgr := grown_trans' hgr hg13
    clear hG12 hA13 hg13
    show (rgtN 20 B70).wp Tryd.prog _ x13 W13
    rw [eB20]
    refine wp_seq ?_
    refine ax_14 x13 W13 _ _ _ _ _ _ _ _ _ _ _ gc g od nr c1 c2 o (64 * i) cn _ _ _ _ _ _ _ _ _ _ _ _ _ _ _ _ _ _ _ _ _ _ _ _ _ _ _ t' pre post l (ksf [k0, k1, k2, k3, k4, k5, k6, k7] cnt [n0, n1, n2]) hG13 h64 hr1 hr2 ly14 ln1 ho2 hpre hml (fun j hj => by
      have h := hW 14 (by decide) j hj
      rw [hS] at h
      exact h) hA (fun x14 W14 hG14 hA14 hg14 => ?_)
    have hA : Arr W14 g t' (pre ++ u8s (XM (ksf [k0, k1, k2, k3, k4, k5, k6, k7] cnt [n0, n1, n2]) (64 * i + 60) l) ++ post) := hA14
    have hgr := grown_trans' hgr hg14
    clear hG13 hA14 hg14
    show (rgtN 21 B70).wp Tryd.prog _ x14 W14
    rw [eB21]
    refine wp_seq ?_
    refine ax_15 x14 W14 _ _ _ _ _ _ _ _ _ _ _ gc g od nr c1 c2 o (64 * i) cn _ _ _ _ _ _ _ _ _ _ _ _ _ _ _ _ _ _ _ _ _ _ _ _ _ _ _ t' pre post l (ksf [k0, k1, k2, k3, k4, k5, k6, k7] cnt [n0, n1, n2]) hG14 h64 hr1 hr2 ly15 ln2 ho2 hpre hml (fun j hj => by
      have h := hW 15 (by decide) j hj
      rw [hS] at h
      exact h) hA (fun x15 W15 hG15 hA15 hg15 => ?_)
    have hA : Arr W15 g t' (pre ++ u8s (XM (ksf [k0, k1, k2, k3, k4, k5, k6, k7] cnt [n0, n1, n2]) (64 * i + 64) l) ++ post) := hA15
    have hgr := grown_trans' hgr hg15
    clear hG14 hA15 hg15
    have hX16 := HBk W15 _ (by simp) hA hgr
    obtain ⟨bz3, hbz3, hG3⟩ := hX16.gcs
    have c8 := hG3.cellE (cph_cnt [k0, k1, k2, k3, k4, k5, k6, k7] [n0, n1, n2] _ _ _ _ _ rfl)
    have f8 := hG3.fr 8
    obtain ⟨cn1, hcn1⟩ : ∃ x, x = cn + 1 := ⟨_, rfl⟩
    have hX17 := hX16.setGc 8 (.int .u32 (cn1 : Int)) cn1 true [a1, a2, a3, a4, b1, b2, b3, b4, e1, e2, e3, e4] (fun b hb => ⟨by rw [cph_length _ _ _ _ _ _ _ rfl rfl hb]; simp, cph_setCnt [k0, k1, k2, k3, k4, k5, k6, k7] [n0, n1, n2] [a1, a2, a3, a4, b1, b2, b3, b4, e1, e2, e3, e4] cn len true b rfl cn1⟩)
    have hK17 := (hK.trans (Keeps.of_grown hgr (Or.inr rfl))).set gc 8 (.int .u32 (cn1 : Int)) (Or.inl rfl)
    clear hX16 hG3 hA hgr
    show (rgtN 22 B70).wp Tryd.prog _ x15 W15
    rw [eB22]
    refine wp_seq ?_
    refine r44_any x15 W15 _ _ _ _ _ _ _ _ _ _ _ gc g od nr c1 c2 cn cn1 _ _ _ _ _ _ _ _ _ _ _ _ _ _ _ _ _ _ _ _ _ _ _ _ _ _ _ hG15 hcn1 hci c8 f8 (fun x16 hG16 => ?_)
    clear hG15
    show (rgtN 23 B70).wp Tryd.prog _ x16 _
    refine r45_any x16 _ _ _ _ _ _ _ _ _ _ _ gc g od nr c1 c2 _ _ _ _ _ _ _ _ _ _ _ _ _ _ _ _ _ _ _ _ _ _ _ _ _ _ _ _ _ _ _ _ hG16 h64 hr1 hr2 rfl rfl rfl rfl rfl (fun x17 nq hG17 => ?_)
    have hX18 := hX17.drewN nq
    have hK18 := hK17.drewN nq
    have hmu2 := hG17.at 1 (by decide) _ rfl
    have ecn1 : cn1 = cnt + (i + 1) := by omega
    generalize (W15.setCell ⟨gc, 8, none⟩ (.int .u32 (cn1 : Int))).drewN nq = wz at hX18 hK18 ⊢
    rw [ecn1] at hX18
    rw [show (64 * i + 64 : Nat) = 64 * (i + 1) by omega] at hX18
    refine ⟨⟨i + 1, fromO od c1 64, fromO od c2 64, c1 - 64, c2 - 64, nr - 64, _, _, _, _, _, _, _, _, _, _, _, _, _, _, _, _, _, _, _, _, _, hG17, by omega, (fun h => ?_), by omega, by omega, by omega, hX18, ?_⟩, ?_⟩
    · constructor
      · unfold fromO; rw [if_neg (by omega)]; omega
      · unfold fromO; rw [if_neg (by omega)]; omega
    · exact hK18
    · show lenOf (sl x17 1) < lenOf (sl d2 1)
      rw [hmu, hmu2]
      simp only [lenOf]
      omega
  · refine r11_false d2 w2 _ _ _ _ _ _ _ _ _ _ _ _ _ _ _ _ _ _ _ _ _ _ _ _ _ _ _ gc g od os nr c1 c2 _ _ _ _ _ _ _ _ _ _ _ hF2 h64 (fun d3 hd3 => ?_)
    show (Exit.inBlock 0 Q) (.exit 0) d3 w2
    simp only [Exit.inBlock, if_true]
    have hin : i = nb := by have h := HN.out; omega
    have hin2 : 64 * i = n := by have h := HN.out; omega
    rw [hin2, hin] at hX
    exact HQ.out d3 w2 hd3 hX hK
end Go.Proofs.YtkocgogpbammaaaDoor

/- ChaCha20's blocks in the package, laid over bytes in place. Conditions: whole blocks; a counter that does not pass 2^32. (Printed by wip/gencd.py.) -/

namespace Go.Proofs.YtkocgogpbammaaaDoor
open Go.RowKit

set_option maxRecDepth 1000000 in
set_option maxHeartbeats 16000000 in
theorem blocks_any (same : Bool) (w : World) (gc g o : Nat) (t : TypeId) (A B : List Value) (kw : List Nat) (cnt : Nat) (nw : List Nat) (buf l : List UInt8) (len : Nat) (pd : Bool) (ps : List Nat) (nb n cd cs : Nat)
    (hkw : kw.length = 8) (hnw : nw.length = 3) (hps : ps.length = 12) (hkb : ∀ x ∈ kw, x < 4294967296) (hnb : ∀ x ∈ nw, x < 4294967296) (hpd : pd = true → PC kw nw ps) (hX : XI same w gc g o t A B kw cnt nw buf l len pd ps)
    (hn : n = 64 * nb) (hl : n ≤ l.length) (hc : cnt + nb < 4294967296) (hcd : n ≤ cd) (hcs : n ≤ cs) (hbig : n ≤ 1099511627776) :
    Calls Tryd.prog 70 #[.pointer (some ⟨gc, 0, none⟩), .slice (some ⟨g, o, none⟩) n cd, .slice (some ⟨g, o, none⟩) n cs] w fun e w' => e = .returned (.tuple #[]) ∧
      ∃ ps', PC kw nw ps' ∧ XI same w' gc g o t A B kw (cnt + nb) nw buf (XM (ksf kw cnt nw) n l) len true ps' ∧ Keeps w w' (twoS gc g) := by
  obtain ⟨k0, k1, k2, k3, k4, k5, k6, k7, rfl⟩ := list8 kw hkw
  obtain ⟨n0, n1, n2, rfl⟩ := list3 nw hnw
  have lk0 : k0 < 4294967296 := hkb k0 (by simp)
  have lk1 : k1 < 4294967296 := hkb k1 (by simp)
  have lk2 : k2 < 4294967296 := hkb k2 (by simp)
  have lk3 : k3 < 4294967296 := hkb k3 (by simp)
  have lk4 : k4 < 4294967296 := hkb k4 (by simp)
  have lk5 : k5 < 4294967296 := hkb k5 (by simp)
  have lk6 : k6 < 4294967296 := hkb k6 (by simp)
  have lk7 : k7 < 4294967296 := hkb k7 (by simp)
  have ln0 : n0 < 4294967296 := hnb n0 (by simp)
  have ln1 : n1 < 4294967296 := hnb n1 (by simp)
  have ln2 : n2 < 4294967296 := hnb n2 (by simp)
  have etm : (n : Int).tmod 64 = 0 := by rw [Int.tmod_eq_emod_of_nonneg (by omega)]; omega
  have HN := Lib.hid hn
  have HPD := Lib.hid hpd
  have HCN := Lib.hid hc
  obtain ⟨bz, hbz, hG⟩ := hX.gcs
  clear hkb hnb hkw hnw hn hpd hc
  have c0 := hG.cellE (cph_key [k0, k1, k2, k3, k4, k5, k6, k7] [n0, n1, n2] _ _ _ _ _ 0 k0 rfl)
  have c1 := hG.cellE (cph_key [k0, k1, k2, k3, k4, k5, k6, k7] [n0, n1, n2] _ _ _ _ _ 1 k1 rfl)
  have c2 := hG.cellE (cph_key [k0, k1, k2, k3, k4, k5, k6, k7] [n0, n1, n2] _ _ _ _ _ 2 k2 rfl)
  have c3 := hG.cellE (cph_key [k0, k1, k2, k3, k4, k5, k6, k7] [n0, n1, n2] _ _ _ _ _ 3 k3 rfl)
  have c4 := hG.cellE (cph_key [k0, k1, k2, k3, k4, k5, k6, k7] [n0, n1, n2] _ _ _ _ _ 4 k4 rfl)
  have c5 := hG.cellE (cph_key [k0, k1, k2, k3, k4, k5, k6, k7] [n0, n1, n2] _ _ _ _ _ 5 k5 rfl)
  have c6 := hG.cellE (cph_key [k0, k1, k2, k3, k4, k5, k6, k7] [n0, n1, n2] _ _ _ _ _ 6 k6 rfl)
  have c7 := hG.cellE (cph_key [k0, k1, k2, k3, k4, k5, k6, k7] [n0, n1, n2] _ _ _ _ _ 7 k7 rfl)
  have c8 := hG.cellE (cph_cnt [k0, k1, k2, k3, k4, k5, k6, k7] [n0, n1, n2] _ _ _ _ _ rfl)
  have c9 := hG.cellE (cph_nonce [k0, k1, k2, k3, k4, k5, k6, k7] [n0, n1, n2] _ _ _ _ _ rfl 0 n0 rfl)
  have c10 := hG.cellE (cph_nonce [k0, k1, k2, k3, k4, k5, k6, k7] [n0, n1, n2] _ _ _ _ _ rfl 1 n1 rfl)
  have c11 := hG.cellE (cph_nonce [k0, k1, k2, k3, k4, k5, k6, k7] [n0, n1, n2] _ _ _ _ _ rfl 2 n2 rfl)
  have c78 := hG.cellE (cph_tail [k0, k1, k2, k3, k4, k5, k6, k7] [n0, n1, n2] _ _ _ _ _ rfl rfl hbz 2 _ rfl)
  go_enter Tryd.func70, Tryd.ntmps70
  go_wp2_with fail
  go_quiet (fail)
  have hX := hX.drewN nq
  have hG : Arr (_ : World) gc _ _ := (show Arr (w.drewN nq) gc _ _ from hG)
  have hK : Keeps w (w.drewN nq) (twoS gc g) := (Keeps.refl w _).drewN nq
  generalize w.drewN nq = w1 at hX hG hK ⊢
  clear c0 c1 c2 c3 c4 c5 c6 c7 c8 c9 c10 c11 c78
  have c0 := hG.cellE (cph_key [k0, k1, k2, k3, k4, k5, k6, k7] [n0, n1, n2] _ _ _ _ _ 0 k0 rfl)
  have c1 := hG.cellE (cph_key [k0, k1, k2, k3, k4, k5, k6, k7] [n0, n1, n2] _ _ _ _ _ 1 k1 rfl)
  have c2 := hG.cellE (cph_key [k0, k1, k2, k3, k4, k5, k6, k7] [n0, n1, n2] _ _ _ _ _ 2 k2 rfl)
  have c3 := hG.cellE (cph_key [k0, k1, k2, k3, k4, k5, k6, k7] [n0, n1, n2] _ _ _ _ _ 3 k3 rfl)
  have c4 := hG.cellE (cph_key [k0, k1, k2, k3, k4, k5, k6, k7] [n0, n1, n2] _ _ _ _ _ 4 k4 rfl)
  have c5 := hG.cellE (cph_key [k0, k1, k2, k3, k4, k5, k6, k7] [n0, n1, n2] _ _ _ _ _ 5 k5 rfl)
  have c6 := hG.cellE (cph_key [k0, k1, k2, k3, k4, k5, k6, k7] [n0, n1, n2] _ _ _ _ _ 6 k6 rfl)
  have c7 := hG.cellE (cph_key [k0, k1, k2, k3, k4, k5, k6, k7] [n0, n1, n2] _ _ _ _ _ 7 k7 rfl)
  have c8 := hG.cellE (cph_cnt [k0, k1, k2, k3, k4, k5, k6, k7] [n0, n1, n2] _ _ _ _ _ rfl)
  have c9 := hG.cellE (cph_nonce [k0, k1, k2, k3, k4, k5, k6, k7] [n0, n1, n2] _ _ _ _ _ rfl 0 n0 rfl)
  have c10 := hG.cellE (cph_nonce [k0, k1, k2, k3, k4, k5, k6, k7] [n0, n1, n2] _ _ _ _ _ rfl 1 n1 rfl)
  have c11 := hG.cellE (cph_nonce [k0, k1, k2, k3, k4, k5, k6, k7] [n0, n1, n2] _ _ _ _ _ rfl 2 n2 rfl)
  have c78 := hG.cellE (cph_tail [k0, k1, k2, k3, k4, k5, k6, k7] [n0, n1, n2] _ _ _ _ _ rfl rfl hbz 2 _ rfl)
  go_wp2_with fail
  go_quiet (fail)
  have hX := hX.drewN nq
  have hG : Arr (_ : World) gc _ _ := (show Arr (w1.drewN nq) gc _ _ from hG)
  have hK : Keeps w (w1.drewN nq) (twoS gc g) := hK.drewN nq
  generalize w1.drewN nq = w2 at hX hG hK ⊢
  clear c0 c1 c2 c3 c4 c5 c6 c7 c8 c9 c10 c11 c78
  have c0 := hG.cellE (cph_key [k0, k1, k2, k3, k4, k5, k6, k7] [n0, n1, n2] _ _ _ _ _ 0 k0 rfl)
  have c1 := hG.cellE (cph_key [k0, k1, k2, k3, k4, k5, k6, k7] [n0, n1, n2] _ _ _ _ _ 1 k1 rfl)
  have c2 := hG.cellE (cph_key [k0, k1, k2, k3, k4, k5, k6, k7] [n0, n1, n2] _ _ _ _ _ 2 k2 rfl)
  have c3 := hG.cellE (cph_key [k0, k1, k2, k3, k4, k5, k6, k7] [n0, n1, n2] _ _ _ _ _ 3 k3 rfl)
  have c4 := hG.cellE (cph_key [k0, k1, k2, k3, k4, k5, k6, k7] [n0, n1, n2] _ _ _ _ _ 4 k4 rfl)
  have c5 := hG.cellE (cph_key [k0, k1, k2, k3, k4, k5, k6, k7] [n0, n1, n2] _ _ _ _ _ 5 k5 rfl)
  have c6 := hG.cellE (cph_key [k0, k1, k2, k3, k4, k5, k6, k7] [n0, n1, n2] _ _ _ _ _ 6 k6 rfl)
  have c7 := hG.cellE (cph_key [k0, k1, k2, k3, k4, k5, k6, k7] [n0, n1, n2] _ _ _ _ _ 7 k7 rfl)
  have c8 := hG.cellE (cph_cnt [k0, k1, k2, k3, k4, k5, k6, k7] [n0, n1, n2] _ _ _ _ _ rfl)
  have c9 := hG.cellE (cph_nonce [k0, k1, k2, k3, k4, k5, k6, k7] [n0, n1, n2] _ _ _ _ _ rfl 0 n0 rfl)
  have c10 := hG.cellE (cph_nonce [k0, k1, k2, k3, k4, k5, k6, k7] [n0, n1, n2] _ _ _ _ _ rfl 1 n1 rfl)
  have c11 := hG.cellE (cph_nonce [k0, k1, k2, k3, k4, k5, k6, k7] [n0, n1, n2] _ _ _ _ _ rfl 2 n2 rfl)
  have c78 := hG.cellE (cph_tail [k0, k1, k2, k3, k4, k5, k6, k7] [n0, n1, n2] _ _ _ _ _ rfl rfl hbz 2 _ rfl)
  go_wp2_with fail
  go_quiet (fail)
  have hX := hX.drewN nq
  have hG : Arr (_ : World) gc _ _ := (show Arr (w2.drewN nq) gc _ _ from hG)
  have hK : Keeps w (w2.drewN nq) (twoS gc g) := hK.drewN nq
  generalize w2.drewN nq = w3 at hX hG hK ⊢
  clear c0 c1 c2 c3 c4 c5 c6 c7 c8 c9 c10 c11 c78
  have c78 := hG.cellE (cph_tail [k0, k1, k2, k3, k4, k5, k6, k7] [n0, n1, n2] _ _ _ _ _ rfl rfl hbz 2 _ rfl)
  cases pd with
  | true =>
    obtain ⟨a1, a2, a3, a4, b1, b2, b3, b4, e1, e2, e3, e4, hpe, HQ1, HQ2, HQ3, hpb⟩ := HPD.out rfl
    subst hpe
    have la1 : a1 < 4294967296 := hpb a1 (by simp)
    have la2 : a2 < 4294967296 := hpb a2 (by simp)
    have la3 : a3 < 4294967296 := hpb a3 (by simp)
    have la4 : a4 < 4294967296 := hpb a4 (by simp)
    have lb1 : b1 < 4294967296 := hpb b1 (by simp)
    have lb2 : b2 < 4294967296 := hpb b2 (by simp)
    have lb3 : b3 < 4294967296 := hpb b3 (by simp)
    have lb4 : b4 < 4294967296 := hpb b4 (by simp)
    have le1 : e1 < 4294967296 := hpb e1 (by simp)
    have le2 : e2 < 4294967296 := hpb e2 (by simp)
    have le3 : e3 < 4294967296 := hpb e3 (by simp)
    have le4 : e4 < 4294967296 := hpb e4 (by simp)
    have HQ1 := Lib.hid HQ1
    have HQ2 := Lib.hid HQ2
    have HQ3 := Lib.hid HQ3
    clear hpb hG
    go_upto_block 0 with (fail)
    clear c78
    refine loop_any _ w3 _ undef undef undef (.int .u32 (cnt : Int)) undef undef undef undef undef undef undef undef undef undef undef undef undef undef undef undef undef undef undef undef undef same gc g o t A B k0 k1 k2 k3 k4 k5 k6 k7 n0 n1 n2 cnt buf l len a1 a2 a3 a4 b1 b2 b3 b4 e1 e2 e3 e4 nb n cd cs ⟨by kernel_rfl, rfl, by kernel_rfl⟩ lk0 lk1 lk2 lk3 lk4 lk5 lk6 lk7 ln0 ln1 ln2 la1 la2 la3 la4 lb1 lb2 lb3 lb4 le1 le2 le3 le4 HQ1 HQ2 HQ3 hX HN.out hl HCN.out hcd hcs (fun a' w' hd hX' hK' => ?_)
    try simp only [Exit.inBlock, Exit.then]
    refine bodyPost_end (results_none rfl _ _ _) hd ?_
    exact ⟨rfl, _, ⟨a1, a2, a3, a4, b1, b2, b3, b4, e1, e2, e3, e4, rfl, HQ1.out, HQ2.out, HQ3.out, by intro x hx; simp only [List.mem_cons, List.not_mem_nil, or_false] at hx; rcases hx with rfl | rfl | rfl | rfl | rfl | rfl | rfl | rfl | rfl | rfl | rfl | rfl <;> assumption⟩, hX', hK.trans hK'⟩
  | false =>
    obtain ⟨i1, i2, i3, i4, i5, i6, i7, i8, i9, i10, i11, i12, rfl⟩ := list12 ps hps
    have c79 := hG.cellE (cph_ps [k0, k1, k2, k3, k4, k5, k6, k7] [n0, n1, n2] _ _ _ _ _ rfl rfl hbz 0 i1 rfl)
    have c80 := hG.cellE (cph_ps [k0, k1, k2, k3, k4, k5, k6, k7] [n0, n1, n2] _ _ _ _ _ rfl rfl hbz 1 i2 rfl)
    have c81 := hG.cellE (cph_ps [k0, k1, k2, k3, k4, k5, k6, k7] [n0, n1, n2] _ _ _ _ _ rfl rfl hbz 2 i3 rfl)
    have c82 := hG.cellE (cph_ps [k0, k1, k2, k3, k4, k5, k6, k7] [n0, n1, n2] _ _ _ _ _ rfl rfl hbz 3 i4 rfl)
    have c83 := hG.cellE (cph_ps [k0, k1, k2, k3, k4, k5, k6, k7] [n0, n1, n2] _ _ _ _ _ rfl rfl hbz 4 i5 rfl)
    have c84 := hG.cellE (cph_ps [k0, k1, k2, k3, k4, k5, k6, k7] [n0, n1, n2] _ _ _ _ _ rfl rfl hbz 5 i6 rfl)
    have c85 := hG.cellE (cph_ps [k0, k1, k2, k3, k4, k5, k6, k7] [n0, n1, n2] _ _ _ _ _ rfl rfl hbz 6 i7 rfl)
    have c86 := hG.cellE (cph_ps [k0, k1, k2, k3, k4, k5, k6, k7] [n0, n1, n2] _ _ _ _ _ rfl rfl hbz 7 i8 rfl)
    have c87 := hG.cellE (cph_ps [k0, k1, k2, k3, k4, k5, k6, k7] [n0, n1, n2] _ _ _ _ _ rfl rfl hbz 8 i9 rfl)
    have c88 := hG.cellE (cph_ps [k0, k1, k2, k3, k4, k5, k6, k7] [n0, n1, n2] _ _ _ _ _ rfl rfl hbz 9 i10 rfl)
    have c89 := hG.cellE (cph_ps [k0, k1, k2, k3, k4, k5, k6, k7] [n0, n1, n2] _ _ _ _ _ rfl rfl hbz 10 i11 rfl)
    have c90 := hG.cellE (cph_ps [k0, k1, k2, k3, k4, k5, k6, k7] [n0, n1, n2] _ _ _ _ _ rfl rfl hbz 11 i12 rfl)
    have f79 := hG.fr 79
    have f80 := hG.fr 80
    have f81 := hG.fr 81
    have f82 := hG.fr 82
    have f83 := hG.fr 83
    have f84 := hG.fr 84
    have f85 := hG.fr 85
    have f86 := hG.fr 86
    have f87 := hG.fr 87
    have f88 := hG.fr 88
    have f89 := hG.fr 89
    have f90 := hG.fr 90
    have f78 := hG.fr 78
    clear hG
    go_wp2_with fail
    refine (quarterX _ 857760878 k1 k5 n0 (by decide) lk1 lk5 ln0).mono ?_
    rintro e w ⟨a1, a2, a3, a4, HQ1, la1, la2, la3, la4, rfl, rfl⟩
    go_wp2_with fail
    refine (quarterX _ 2036477234 k2 k6 n1 (by decide) lk2 lk6 ln1).mono ?_
    rintro e w ⟨b1, b2, b3, b4, HQ2, lb1, lb2, lb3, lb4, rfl, rfl⟩
    go_wp2_with fail
    refine (quarterX _ 1797285236 k3 k7 n2 (by decide) lk3 lk7 ln2).mono ?_
    rintro e w ⟨e1, e2, e3, e4, HQ3, le1, le2, le3, le4, rfl, rfl⟩
    go_upto_block 0 with (fail)
    have hX := hX.setGc 79 (.int .u32 (a1 : Int)) cnt false [a1, i2, i3, i4, i5, i6, i7, i8, i9, i10, i11, i12] (fun b hb => ⟨by rw [cph_length _ _ _ _ _ _ _ rfl rfl hb]; simp, cph_setP [k0, k1, k2, k3, k4, k5, k6, k7] [n0, n1, n2] [i1, i2, i3, i4, i5, i6, i7, i8, i9, i10, i11, i12] cnt len false b rfl rfl hb 0 a1⟩)
    have hK := hK.set gc 79 (.int .u32 (a1 : Int)) (Or.inl rfl)
    have hX := hX.setGc 80 (.int .u32 (a2 : Int)) cnt false [a1, a2, i3, i4, i5, i6, i7, i8, i9, i10, i11, i12] (fun b hb => ⟨by rw [cph_length _ _ _ _ _ _ _ rfl rfl hb]; simp, cph_setP [k0, k1, k2, k3, k4, k5, k6, k7] [n0, n1, n2] [a1, i2, i3, i4, i5, i6, i7, i8, i9, i10, i11, i12] cnt len false b rfl rfl hb 1 a2⟩)
    have hK := hK.set gc 80 (.int .u32 (a2 : Int)) (Or.inl rfl)
    have hX := hX.setGc 81 (.int .u32 (a3 : Int)) cnt false [a1, a2, a3, i4, i5, i6, i7, i8, i9, i10, i11, i12] (fun b hb => ⟨by rw [cph_length _ _ _ _ _ _ _ rfl rfl hb]; simp, cph_setP [k0, k1, k2, k3, k4, k5, k6, k7] [n0, n1, n2] [a1, a2, i3, i4, i5, i6, i7, i8, i9, i10, i11, i12] cnt len false b rfl rfl hb 2 a3⟩)
    have hK := hK.set gc 81 (.int .u32 (a3 : Int)) (Or.inl rfl)
    have hX := hX.setGc 82 (.int .u32 (a4 : Int)) cnt false [a1, a2, a3, a4, i5, i6, i7, i8, i9, i10, i11, i12] (fun b hb => ⟨by rw [cph_length _ _ _ _ _ _ _ rfl rfl hb]; simp, cph_setP [k0, k1, k2, k3, k4, k5, k6, k7] [n0, n1, n2] [a1, a2, a3, i4, i5, i6, i7, i8, i9, i10, i11, i12] cnt len false b rfl rfl hb 3 a4⟩)
    have hK := hK.set gc 82 (.int .u32 (a4 : Int)) (Or.inl rfl)
    have hX := hX.setGc 83 (.int .u32 (b1 : Int)) cnt false [a1, a2, a3, a4, b1, i6, i7, i8, i9, i10, i11, i12] (fun b hb => ⟨by rw [cph_length _ _ _ _ _ _ _ rfl rfl hb]; simp, cph_setP [k0, k1, k2, k3, k4, k5, k6, k7] [n0, n1, n2] [a1, a2, a3, a4, i5, i6, i7, i8, i9, i10, i11, i12] cnt len false b rfl rfl hb 4 b1⟩)
    have hK := hK.set gc 83 (.int .u32 (b1 : Int)) (Or.inl rfl)
    have hX := hX.setGc 84 (.int .u32 (b2 : Int)) cnt false [a1, a2, a3, a4, b1, b2, i7, i8, i9, i10, i11, i12] (fun b hb => ⟨by rw [cph_length _ _ _ _ _ _ _ rfl rfl hb]; simp, cph_setP [k0, k1, k2, k3, k4, k5, k6, k7] [n0, n1, n2] [a1, a2, a3, a4, b1, i6, i7, i8, i9, i10, i11, i12] cnt len false b rfl rfl hb 5 b2⟩)
    have hK := hK.set gc 84 (.int .u32 (b2 : Int)) (Or.inl rfl)
    have hX := hX.setGc 85 (.int .u32 (b3 : Int)) cnt false [a1, a2, a3, a4, b1, b2, b3, i8, i9, i10, i11, i12] (fun b hb => ⟨by rw [cph_length _ _ _ _ _ _ _ rfl rfl hb]; simp, cph_setP [k0, k1, k2, k3, k4, k5, k6, k7] [n0, n1, n2] [a1, a2, a3, a4, b1, b2, i7, i8, i9, i10, i11, i12] cnt len false b rfl rfl hb 6 b3⟩)
    have hK := hK.set gc 85 (.int .u32 (b3 : Int)) (Or.inl rfl)
    have hX := hX.setGc 86 (.int .u32 (b4 : Int)) cnt false [a1, a2, a3, a4, b1, b2, b3, b4, i9, i10, i11, i12] (fun b hb => ⟨by rw [cph_length _ _ _ _ _ _ _ rfl rfl hb]; simp, cph_setP [k0, k1, k2, k3, k4, k5, k6, k7] [n0, n1, n2] [a1, a2, a3, a4, b1, b2, b3, i8, i9, i10, i11, i12] cnt len false b rfl rfl hb 7 b4⟩)
    have hK := hK.set gc 86 (.int .u32 (b4 : Int)) (Or.inl rfl)
    have hX := hX.setGc 87 (.int .u32 (e1 : Int)) cnt false [a1, a2, a3, a4, b1, b2, b3, b4, e1, i10, i11, i12] (fun b hb => ⟨by rw [cph_length _ _ _ _ _ _ _ rfl rfl hb]; simp, cph_setP [k0, k1, k2, k3, k4, k5, k6, k7] [n0, n1, n2] [a1, a2, a3, a4, b1, b2, b3, b4, i9, i10, i11, i12] cnt len false b rfl rfl hb 8 e1⟩)
    have hK := hK.set gc 87 (.int .u32 (e1 : Int)) (Or.inl rfl)
    have hX := hX.setGc 88 (.int .u32 (e2 : Int)) cnt false [a1, a2, a3, a4, b1, b2, b3, b4, e1, e2, i11, i12] (fun b hb => ⟨by rw [cph_length _ _ _ _ _ _ _ rfl rfl hb]; simp, cph_setP [k0, k1, k2, k3, k4, k5, k6, k7] [n0, n1, n2] [a1, a2, a3, a4, b1, b2, b3, b4, e1, i10, i11, i12] cnt len false b rfl rfl hb 9 e2⟩)
    have hK := hK.set gc 88 (.int .u32 (e2 : Int)) (Or.inl rfl)
    have hX := hX.setGc 89 (.int .u32 (e3 : Int)) cnt false [a1, a2, a3, a4, b1, b2, b3, b4, e1, e2, e3, i12] (fun b hb => ⟨by rw [cph_length _ _ _ _ _ _ _ rfl rfl hb]; simp, cph_setP [k0, k1, k2, k3, k4, k5, k6, k7] [n0, n1, n2] [a1, a2, a3, a4, b1, b2, b3, b4, e1, e2, i11, i12] cnt len false b rfl rfl hb 10 e3⟩)
    have hK := hK.set gc 89 (.int .u32 (e3 : Int)) (Or.inl rfl)
    have hX := hX.setGc 90 (.int .u32 (e4 : Int)) cnt false [a1, a2, a3, a4, b1, b2, b3, b4, e1, e2, e3, e4] (fun b hb => ⟨by rw [cph_length _ _ _ _ _ _ _ rfl rfl hb]; simp, cph_setP [k0, k1, k2, k3, k4, k5, k6, k7] [n0, n1, n2] [a1, a2, a3, a4, b1, b2, b3, b4, e1, e2, e3, i12] cnt len false b rfl rfl hb 11 e4⟩)
    have hK := hK.set gc 90 (.int .u32 (e4 : Int)) (Or.inl rfl)
    have hX := hX.setGc 78 (.bool true) cnt true [a1, a2, a3, a4, b1, b2, b3, b4, e1, e2, e3, e4] (fun b hb => ⟨by rw [cph_length _ _ _ _ _ _ _ rfl rfl hb]; simp, cph_setPd [k0, k1, k2, k3, k4, k5, k6, k7] [n0, n1, n2] [a1, a2, a3, a4, b1, b2, b3, b4, e1, e2, e3, e4] cnt len false b rfl rfl hb true⟩)
    have hK := hK.set gc 78 (.bool true) (Or.inl rfl)
    refine loop_any _ _ _ undef undef undef (.int .u32 (cnt : Int)) undef undef undef undef undef undef undef undef undef undef undef undef undef undef undef undef undef undef undef undef undef same gc g o t A B k0 k1 k2 k3 k4 k5 k6 k7 n0 n1 n2 cnt buf l len a1 a2 a3 a4 b1 b2 b3 b4 e1 e2 e3 e4 nb n cd cs ⟨by kernel_rfl, rfl, by kernel_rfl⟩ lk0 lk1 lk2 lk3 lk4 lk5 lk6 lk7 ln0 ln1 ln2 la1 la2 la3 la4 lb1 lb2 lb3 lb4 le1 le2 le3 le4 HQ1 HQ2 HQ3 hX HN.out hl HCN.out hcd hcs (fun a' w' hd hX' hK' => ?_)
    try simp only [Exit.inBlock, Exit.then]
    refine bodyPost_end (results_none rfl _ _ _) hd ?_
    exact ⟨rfl, _, ⟨a1, a2, a3, a4, b1, b2, b3, b4, e1, e2, e3, e4, rfl, HQ1.out, HQ2.out, HQ3.out, by intro x hx; simp only [List.mem_cons, List.not_mem_nil, or_false] at hx; rcases hx with rfl | rfl | rfl | rfl | rfl | rfl | rfl | rfl | rfl | rfl | rfl | rfl <;> assumption⟩, hX', hK.trans hK'⟩
end Go.Proofs.YtkocgogpbammaaaDoor

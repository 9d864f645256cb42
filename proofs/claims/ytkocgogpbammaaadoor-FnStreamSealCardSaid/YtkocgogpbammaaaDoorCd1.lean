/- xorKeyStreamBlocksGeneric: the sixteen words laid over the text (the first eight). Conditions: as each states. (Printed by wip/gencd.py.) -/
import Derived.Test.YtkocgogpbammaaaDoorCd0
import Derived.Deep.DeepCutAuto
set_option linter.unusedVariables false
set_option linter.unusedSimpArgs false
namespace Go.Proofs.YtkocgogpbammaaaDoor
open Go.RowKit

set_option maxRecDepth 1000000 in
set_option maxHeartbeats 8000000 in
theorem ax_0 (a : Act) (w : World) (K : Act → World → Prop) (Q : Exit → Act → World → Prop) (u3 u4 u5 u18 u22 u23 u24 u25 u42 : Value) (gc g od nr c1 c2 o m cn : Nat) (k0 k1 k2 k3 k4 k5 k6 k7 n0 n1 n2 : Nat) (y0 y1 y2 y3 y4 y5 y6 y7 y8 y9 y10 y11 y12 y13 y14 y15 : Nat) (t' : TypeId) (pre post : List Value) (l : List UInt8) (f : Nat → UInt8)
    (hF : Fr a [(.pointer (some ⟨gc, 0, none⟩)), (.slice (some ⟨g, od, none⟩) nr c1), (.slice (some ⟨g, od, none⟩) nr c2), u3, u4, u5, (.int .u32 1634760805), (.int .u32 857760878), (.int .u32 2036477234), (.int .u32 1797285236), (.int .u32 (k0 : Int)), (.int .u32 (k1 : Int)), (.int .u32 (k2 : Int)), (.int .u32 (k3 : Int)), (.int .u32 (k4 : Int)), (.int .u32 (k5 : Int)), (.int .u32 (k6 : Int)), (.int .u32 (k7 : Int)), u18, (.int .u32 (n0 : Int)), (.int .u32 (n1 : Int)), (.int .u32 (n2 : Int)), u22, u23, u24, u25, (.int .u32 (y0 : Int)), (.int .u32 (y5 : Int)), (.int .u32 (y10 : Int)), (.int .u32 (y15 : Int)), (.int .u32 (y1 : Int)), (.int .u32 (y6 : Int)), (.int .u32 (y11 : Int)), (.int .u32 (y12 : Int)), (.int .u32 (y2 : Int)), (.int .u32 (y7 : Int)), (.int .u32 (y8 : Int)), (.int .u32 (y13 : Int)), (.int .u32 (y3 : Int)), (.int .u32 (y4 : Int)), (.int .u32 (y9 : Int)), (.int .u32 (y14 : Int)), u42]) (h64 : 64 ≤ nr) (hr1 : nr ≤ c1) (hr2 : nr ≤ c2) (ly : y0 < 4294967296) (lb : 0 < 4294967296) (hod : od = o + m) (hp : pre.length = o) (hm : m + 64 ≤ l.length)
    (hf : ∀ j, j < 4 → f (m + 0 + j) = UInt8.ofNat ((y0 + 1634760805) % 4294967296 / 256 ^ j)) (hA : Arr w g t' (pre ++ u8s (XM f (m + 0) l) ++ post))
    (hK : ∀ a' w', Fr a' [(.pointer (some ⟨gc, 0, none⟩)), (.slice (some ⟨g, od, none⟩) nr c1), (.slice (some ⟨g, od, none⟩) nr c2), u3, u4, u5, (.int .u32 1634760805), (.int .u32 857760878), (.int .u32 2036477234), (.int .u32 1797285236), (.int .u32 (k0 : Int)), (.int .u32 (k1 : Int)), (.int .u32 (k2 : Int)), (.int .u32 (k3 : Int)), (.int .u32 (k4 : Int)), (.int .u32 (k5 : Int)), (.int .u32 (k6 : Int)), (.int .u32 (k7 : Int)), u18, (.int .u32 (n0 : Int)), (.int .u32 (n1 : Int)), (.int .u32 (n2 : Int)), u22, u23, u24, u25, (.int .u32 (y0 : Int)), (.int .u32 (y5 : Int)), (.int .u32 (y10 : Int)), (.int .u32 (y15 : Int)), (.int .u32 (y1 : Int)), (.int .u32 (y6 : Int)), (.int .u32 (y11 : Int)), (.int .u32 (y12 : Int)), (.int .u32 (y2 : Int)), (.int .u32 (y7 : Int)), (.int .u32 (y8 : Int)), (.int .u32 (y13 : Int)), (.int .u32 (y3 : Int)), (.int .u32 (y4 : Int)), (.int .u32 (y9 : Int)), (.int .u32 (y14 : Int)), u42] → Arr w' g t' (pre ++ u8s (XM f (m + 0 + 4) l) ++ post) → w.grownBy w' (some g) → K a' w') : (lft (rgtN 6 B70)).wp Tryd.prog (Exit.then K Q) a w := by
  have HK := Lib.hid hK
  have HF := Lib.hid hf
  have HOD := Lib.hid hod
  have HM := Lib.hid hm
  clear hK hf hod hm
  rw [frLit a (.pointer (some ⟨gc, 0, none⟩)) (.slice (some ⟨g, od, none⟩) nr c1) (.slice (some ⟨g, od, none⟩) nr c2) u3 u4 u5 (.int .u32 1634760805) (.int .u32 857760878) (.int .u32 2036477234) (.int .u32 1797285236) (.int .u32 (k0 : Int)) (.int .u32 (k1 : Int)) (.int .u32 (k2 : Int)) (.int .u32 (k3 : Int)) (.int .u32 (k4 : Int)) (.int .u32 (k5 : Int)) (.int .u32 (k6 : Int)) (.int .u32 (k7 : Int)) u18 (.int .u32 (n0 : Int)) (.int .u32 (n1 : Int)) (.int .u32 (n2 : Int)) u22 u23 u24 u25 (.int .u32 (y0 : Int)) (.int .u32 (y5 : Int)) (.int .u32 (y10 : Int)) (.int .u32 (y15 : Int)) (.int .u32 (y1 : Int)) (.int .u32 (y6 : Int)) (.int .u32 (y11 : Int)) (.int .u32 (y12 : Int)) (.int .u32 (y2 : Int)) (.int .u32 (y7 : Int)) (.int .u32 (y8 : Int)) (.int .u32 (y13 : Int)) (.int .u32 (y3 : Int)) (.int .u32 (y4 : Int)) (.int .u32 (y9 : Int)) (.int .u32 (y14 : Int)) u42 hF]
  clear hF
  conv => arg 2; whnf
  have dca : ¬ (c1 = 0) := by omega
  have dcb : ¬ (c2 = 0) := by omega
  have jca : (4 : Int) ≤ (c1 : Int) := by omega
  have jcb : (4 : Int) ≤ (c2 : Int) := by omega
  have hw0 : w.grownBy w.drew (some g) := grown_drewN (World.grownBy.refl w (some g)) 1
  go_wp2_with fail
  refine wp_region_still_tail 6 (by as_aux_lemma => kernel_rfl) (by as_aux_lemma => kernel_rfl) ?_
  change wpStill _ _ w.drew (fun a' => wpList _ _ _ _ a' w.drew) _ _
  have hA : Arr w.drew g t' _ := hA
  skip
  generalize w.drew = t at hA hw0 ⊢
  simp only [List.take_succ_cons, List.take_zero, List.drop_succ_cons, List.drop_zero]
  repeat still_step
  refine wpStill_nil ?_
  go_wp2_with fail
  refine (addXorA t g o (od) _ _ (m + 0) t' pre post l f y0 1634760805 ly (by decide) (by have := HOD.out; omega) hp (by have := HM.out; omega) (fun j hj => HF.out j hj) hA).mono ?_
  rintro e w2 ⟨rfl, hA2, hg⟩
  go_wp2_with fail
  exact HK.out _ _ ⟨by kernel_rfl, rfl, by kernel_rfl⟩ hA2 (grown_trans' hw0 hg)

set_option maxRecDepth 1000000 in
set_option maxHeartbeats 8000000 in
theorem ax_1 (a : Act) (w : World) (K : Act → World → Prop) (Q : Exit → Act → World → Prop) (u3 u4 u5 u18 u22 u23 u24 u25 u42 : Value) (gc g od nr c1 c2 o m cn : Nat) (k0 k1 k2 k3 k4 k5 k6 k7 n0 n1 n2 : Nat) (y0 y1 y2 y3 y4 y5 y6 y7 y8 y9 y10 y11 y12 y13 y14 y15 : Nat) (t' : TypeId) (pre post : List Value) (l : List UInt8) (f : Nat → UInt8)
    (hF : Fr a [(.pointer (some ⟨gc, 0, none⟩)), (.slice (some ⟨g, od, none⟩) nr c1), (.slice (some ⟨g, od, none⟩) nr c2), u3, u4, u5, (.int .u32 1634760805), (.int .u32 857760878), (.int .u32 2036477234), (.int .u32 1797285236), (.int .u32 (k0 : Int)), (.int .u32 (k1 : Int)), (.int .u32 (k2 : Int)), (.int .u32 (k3 : Int)), (.int .u32 (k4 : Int)), (.int .u32 (k5 : Int)), (.int .u32 (k6 : Int)), (.int .u32 (k7 : Int)), u18, (.int .u32 (n0 : Int)), (.int .u32 (n1 : Int)), (.int .u32 (n2 : Int)), u22, u23, u24, u25, (.int .u32 (y0 : Int)), (.int .u32 (y5 : Int)), (.int .u32 (y10 : Int)), (.int .u32 (y15 : Int)), (.int .u32 (y1 : Int)), (.int .u32 (y6 : Int)), (.int .u32 (y11 : Int)), (.int .u32 (y12 : Int)), (.int .u32 (y2 : Int)), (.int .u32 (y7 : Int)), (.int .u32 (y8 : Int)), (.int .u32 (y13 : Int)), (.int .u32 (y3 : Int)), (.int .u32 (y4 : Int)), (.int .u32 (y9 : Int)), (.int .u32 (y14 : Int)), u42]) (h64 : 64 ≤ nr) (hr1 : nr ≤ c1) (hr2 : nr ≤ c2) (ly : y1 < 4294967296) (lb : 0 < 4294967296) (hod : od = o + m) (hp : pre.length = o) (hm : m + 64 ≤ l.length)
    (hf : ∀ j, j < 4 → f (m + 4 + j) = UInt8.ofNat ((y1 + 857760878) % 4294967296 / 256 ^ j)) (hA : Arr w g t' (pre ++ u8s (XM f (m + 4) l) ++ post))
    (hK : ∀ a' w', Fr a' [(.pointer (some ⟨gc, 0, none⟩)), (.slice (some ⟨g, od, none⟩) nr c1), (.slice (some ⟨g, od, none⟩) nr c2), u3, u4, u5, (.int .u32 1634760805), (.int .u32 857760878), (.int .u32 2036477234), (.int .u32 1797285236), (.int .u32 (k0 : Int)), (.int .u32 (k1 : Int)), (.int .u32 (k2 : Int)), (.int .u32 (k3 : Int)), (.int .u32 (k4 : Int)), (.int .u32 (k5 : Int)), (.int .u32 (k6 : Int)), (.int .u32 (k7 : Int)), u18, (.int .u32 (n0 : Int)), (.int .u32 (n1 : Int)), (.int .u32 (n2 : Int)), u22, u23, u24, u25, (.int .u32 (y0 : Int)), (.int .u32 (y5 : Int)), (.int .u32 (y10 : Int)), (.int .u32 (y15 : Int)), (.int .u32 (y1 : Int)), (.int .u32 (y6 : Int)), (.int .u32 (y11 : Int)), (.int .u32 (y12 : Int)), (.int .u32 (y2 : Int)), (.int .u32 (y7 : Int)), (.int .u32 (y8 : Int)), (.int .u32 (y13 : Int)), (.int .u32 (y3 : Int)), (.int .u32 (y4 : Int)), (.int .u32 (y9 : Int)), (.int .u32 (y14 : Int)), u42] → Arr w' g t' (pre ++ u8s (XM f (m + 4 + 4) l) ++ post) → w.grownBy w' (some g) → K a' w') : (lft (rgtN 7 B70)).wp Tryd.prog (Exit.then K Q) a w := by
  have HK := Lib.hid hK
  have HF := Lib.hid hf
  have HOD := Lib.hid hod
  have HM := Lib.hid hm
  clear hK hf hod hm
  rw [frLit a (.pointer (some ⟨gc, 0, none⟩)) (.slice (some ⟨g, od, none⟩) nr c1) (.slice (some ⟨g, od, none⟩) nr c2) u3 u4 u5 (.int .u32 1634760805) (.int .u32 857760878) (.int .u32 2036477234) (.int .u32 1797285236) (.int .u32 (k0 : Int)) (.int .u32 (k1 : Int)) (.int .u32 (k2 : Int)) (.int .u32 (k3 : Int)) (.int .u32 (k4 : Int)) (.int .u32 (k5 : Int)) (.int .u32 (k6 : Int)) (.int .u32 (k7 : Int)) u18 (.int .u32 (n0 : Int)) (.int .u32 (n1 : Int)) (.int .u32 (n2 : Int)) u22 u23 u24 u25 (.int .u32 (y0 : Int)) (.int .u32 (y5 : Int)) (.int .u32 (y10 : Int)) (.int .u32 (y15 : Int)) (.int .u32 (y1 : Int)) (.int .u32 (y6 : Int)) (.int .u32 (y11 : Int)) (.int .u32 (y12 : Int)) (.int .u32 (y2 : Int)) (.int .u32 (y7 : Int)) (.int .u32 (y8 : Int)) (.int .u32 (y13 : Int)) (.int .u32 (y3 : Int)) (.int .u32 (y4 : Int)) (.int .u32 (y9 : Int)) (.int .u32 (y14 : Int)) u42 hF]
  clear hF
  conv => arg 2; whnf
  have dca : ¬ (c1 = 4) := by omega
  have dcb : ¬ (c2 = 4) := by omega
  have jca : (8 : Int) ≤ (c1 : Int) := by omega
  have jcb : (8 : Int) ≤ (c2 : Int) := by omega
  have hw0 : w.grownBy w.drew (some g) := grown_drewN (World.grownBy.refl w (some g)) 1
  go_wp2_with fail
  refine wp_region_still_tail 6 (by as_aux_lemma => kernel_rfl) (by as_aux_lemma => kernel_rfl) ?_
  change wpStill _ _ w.drew (fun a' => wpList _ _ _ _ a' w.drew) _ _
  have hA : Arr w.drew g t' _ := hA
  skip
  generalize w.drew = t at hA hw0 ⊢
  simp only [List.take_succ_cons, List.take_zero, List.drop_succ_cons, List.drop_zero]
  repeat still_step
  refine wpStill_nil ?_
  go_wp2_with fail
  refine (addXorA t g o (od + 4) _ _ (m + 4) t' pre post l f y1 857760878 ly (by decide) (by have := HOD.out; omega) hp (by have := HM.out; omega) (fun j hj => HF.out j hj) hA).mono ?_
  rintro e w2 ⟨rfl, hA2, hg⟩
  go_wp2_with fail
  exact HK.out _ _ ⟨by kernel_rfl, rfl, by kernel_rfl⟩ hA2 (grown_trans' hw0 hg)

set_option maxRecDepth 1000000 in
set_option maxHeartbeats 8000000 in
theorem ax_2 (a : Act) (w : World) (K : Act → World → Prop) (Q : Exit → Act → World → Prop) (u3 u4 u5 u18 u22 u23 u24 u25 u42 : Value) (gc g od nr c1 c2 o m cn : Nat) (k0 k1 k2 k3 k4 k5 k6 k7 n0 n1 n2 : Nat) (y0 y1 y2 y3 y4 y5 y6 y7 y8 y9 y10 y11 y12 y13 y14 y15 : Nat) (t' : TypeId) (pre post : List Value) (l : List UInt8) (f : Nat → UInt8)
    (hF : Fr a [(.pointer (some ⟨gc, 0, none⟩)), (.slice (some ⟨g, od, none⟩) nr c1), (.slice (some ⟨g, od, none⟩) nr c2), u3, u4, u5, (.int .u32 1634760805), (.int .u32 857760878), (.int .u32 2036477234), (.int .u32 1797285236), (.int .u32 (k0 : Int)), (.int .u32 (k1 : Int)), (.int .u32 (k2 : Int)), (.int .u32 (k3 : Int)), (.int .u32 (k4 : Int)), (.int .u32 (k5 : Int)), (.int .u32 (k6 : Int)), (.int .u32 (k7 : Int)), u18, (.int .u32 (n0 : Int)), (.int .u32 (n1 : Int)), (.int .u32 (n2 : Int)), u22, u23, u24, u25, (.int .u32 (y0 : Int)), (.int .u32 (y5 : Int)), (.int .u32 (y10 : Int)), (.int .u32 (y15 : Int)), (.int .u32 (y1 : Int)), (.int .u32 (y6 : Int)), (.int .u32 (y11 : Int)), (.int .u32 (y12 : Int)), (.int .u32 (y2 : Int)), (.int .u32 (y7 : Int)), (.int .u32 (y8 : Int)), (.int .u32 (y13 : Int)), (.int .u32 (y3 : Int)), (.int .u32 (y4 : Int)), (.int .u32 (y9 : Int)), (.int .u32 (y14 : Int)), u42]) (h64 : 64 ≤ nr) (hr1 : nr ≤ c1) (hr2 : nr ≤ c2) (ly : y2 < 4294967296) (lb : 0 < 4294967296) (hod : od = o + m) (hp : pre.length = o) (hm : m + 64 ≤ l.length)
    (hf : ∀ j, j < 4 → f (m + 8 + j) = UInt8.ofNat ((y2 + 2036477234) % 4294967296 / 256 ^ j)) (hA : Arr w g t' (pre ++ u8s (XM f (m + 8) l) ++ post))
    (hK : ∀ a' w', Fr a' [(.pointer (some ⟨gc, 0, none⟩)), (.slice (some ⟨g, od, none⟩) nr c1), (.slice (some ⟨g, od, none⟩) nr c2), u3, u4, u5, (.int .u32 1634760805), (.int .u32 857760878), (.int .u32 2036477234), (.int .u32 1797285236), (.int .u32 (k0 : Int)), (.int .u32 (k1 : Int)), (.int .u32 (k2 : Int)), (.int .u32 (k3 : Int)), (.int .u32 (k4 : Int)), (.int .u32 (k5 : Int)), (.int .u32 (k6 : Int)), (.int .u32 (k7 : Int)), u18, (.int .u32 (n0 : Int)), (.int .u32 (n1 : Int)), (.int .u32 (n2 : Int)), u22, u23, u24, u25, (.int .u32 (y0 : Int)), (.int .u32 (y5 : Int)), (.int .u32 (y10 : Int)), (.int .u32 (y15 : Int)), (.int .u32 (y1 : Int)), (.int .u32 (y6 : Int)), (.int .u32 (y11 : Int)), (.int .u32 (y12 : Int)), (.int .u32 (y2 : Int)), (.int .u32 (y7 : Int)), (.int .u32 (y8 : Int)), (.int .u32 (y13 : Int)), (.int .u32 (y3 : Int)), (.int .u32 (y4 : Int)), (.int .u32 (y9 : Int)), (.int .u32 (y14 : Int)), u42] → Arr w' g t' (pre ++ u8s (XM f (m + 8 + 4) l) ++ post) → w.grownBy w' (some g) → K a' w') : (lft (rgtN 8 B70)).wp Tryd.prog (Exit.then K Q) a w := by
  have HK := Lib.hid hK
  have HF := Lib.hid hf
  have HOD := Lib.hid hod
  have HM := Lib.hid hm
  clear hK hf hod hm
  rw [frLit a (.pointer (some ⟨gc, 0, none⟩)) (.slice (some ⟨g, od, none⟩) nr c1) (.slice (some ⟨g, od, none⟩) nr c2) u3 u4 u5 (.int .u32 1634760805) (.int .u32 857760878) (.int .u32 2036477234) (.int .u32 1797285236) (.int .u32 (k0 : Int)) (.int .u32 (k1 : Int)) (.int .u32 (k2 : Int)) (.int .u32 (k3 : Int)) (.int .u32 (k4 : Int)) (.int .u32 (k5 : Int)) (.int .u32 (k6 : Int)) (.int .u32 (k7 : Int)) u18 (.int .u32 (n0 : Int)) (.int .u32 (n1 : Int)) (.int .u32 (n2 : Int)) u22 u23 u24 u25 (.int .u32 (y0 : Int)) (.int .u32 (y5 : Int)) (.int .u32 (y10 : Int)) (.int .u32 (y15 : Int)) (.int .u32 (y1 : Int)) (.int .u32 (y6 : Int)) (.int .u32 (y11 : Int)) (.int .u32 (y12 : Int)) (.int .u32 (y2 : Int)) (.int .u32 (y7 : Int)) (.int .u32 (y8 : Int)) (.int .u32 (y13 : Int)) (.int .u32 (y3 : Int)) (.int .u32 (y4 : Int)) (.int .u32 (y9 : Int)) (.int .u32 (y14 : Int)) u42 hF]
  clear hF
  conv => arg 2; whnf
  have dca : ¬ (c1 = 8) := by omega
  have dcb : ¬ (c2 = 8) := by omega
  have jca : (12 : Int) ≤ (c1 : Int) := by omega
  have jcb : (12 : Int) ≤ (c2 : Int) := by omega
  have hw0 : w.grownBy w.drew (some g) := grown_drewN (World.grownBy.refl w (some g)) 1
  go_wp2_with fail
  refine wp_region_still_tail 6 (by as_aux_lemma => kernel_rfl) (by as_aux_lemma => kernel_rfl) ?_
  change wpStill _ _ w.drew (fun a' => wpList _ _ _ _ a' w.drew) _ _
  have hA : Arr w.drew g t' _ := hA
  skip
  generalize w.drew = t at hA hw0 ⊢
  simp only [List.take_succ_cons, List.take_zero, List.drop_succ_cons, List.drop_zero]
  repeat still_step
  refine wpStill_nil ?_
  go_wp2_with fail
  refine (addXorA t g o (od + 8) _ _ (m + 8) t' pre post l f y2 2036477234 ly (by decide) (by have := HOD.out; omega) hp (by have := HM.out; omega) (fun j hj => HF.out j hj) hA).mono ?_
  rintro e w2 ⟨rfl, hA2, hg⟩
  go_wp2_with fail
  exact HK.out _ _ ⟨by kernel_rfl, rfl, by kernel_rfl⟩ hA2 (grown_trans' hw0 hg)

set_option maxRecDepth 1000000 in
set_option maxHeartbeats 8000000 in
theorem ax_3 (a : Act) (w : World) (K : Act → World → Prop) (Q : Exit → Act → World → Prop) (u3 u4 u5 u18 u22 u23 u24 u25 u42 : Value) (gc g od nr c1 c2 o m cn : Nat) (k0 k1 k2 k3 k4 k5 k6 k7 n0 n1 n2 : Nat) (y0 y1 y2 y3 y4 y5 y6 y7 y8 y9 y10 y11 y12 y13 y14 y15 : Nat) (t' : TypeId) (pre post : List Value) (l : List UInt8) (f : Nat → UInt8)
    (hF : Fr a [(.pointer (some ⟨gc, 0, none⟩)), (.slice (some ⟨g, od, none⟩) nr c1), (.slice (some ⟨g, od, none⟩) nr c2), u3, u4, u5, (.int .u32 1634760805), (.int .u32 857760878), (.int .u32 2036477234), (.int .u32 1797285236), (.int .u32 (k0 : Int)), (.int .u32 (k1 : Int)), (.int .u32 (k2 : Int)), (.int .u32 (k3 : Int)), (.int .u32 (k4 : Int)), (.int .u32 (k5 : Int)), (.int .u32 (k6 : Int)), (.int .u32 (k7 : Int)), u18, (.int .u32 (n0 : Int)), (.int .u32 (n1 : Int)), (.int .u32 (n2 : Int)), u22, u23, u24, u25, (.int .u32 (y0 : Int)), (.int .u32 (y5 : Int)), (.int .u32 (y10 : Int)), (.int .u32 (y15 : Int)), (.int .u32 (y1 : Int)), (.int .u32 (y6 : Int)), (.int .u32 (y11 : Int)), (.int .u32 (y12 : Int)), (.int .u32 (y2 : Int)), (.int .u32 (y7 : Int)), (.int .u32 (y8 : Int)), (.int .u32 (y13 : Int)), (.int .u32 (y3 : Int)), (.int .u32 (y4 : Int)), (.int .u32 (y9 : Int)), (.int .u32 (y14 : Int)), u42]) (h64 : 64 ≤ nr) (hr1 : nr ≤ c1) (hr2 : nr ≤ c2) (ly : y3 < 4294967296) (lb : 0 < 4294967296) (hod : od = o + m) (hp : pre.length = o) (hm : m + 64 ≤ l.length)
    (hf : ∀ j, j < 4 → f (m + 12 + j) = UInt8.ofNat ((y3 + 1797285236) % 4294967296 / 256 ^ j)) (hA : Arr w g t' (pre ++ u8s (XM f (m + 12) l) ++ post))
    (hK : ∀ a' w', Fr a' [(.pointer (some ⟨gc, 0, none⟩)), (.slice (some ⟨g, od, none⟩) nr c1), (.slice (some ⟨g, od, none⟩) nr c2), u3, u4, u5, (.int .u32 1634760805), (.int .u32 857760878), (.int .u32 2036477234), (.int .u32 1797285236), (.int .u32 (k0 : Int)), (.int .u32 (k1 : Int)), (.int .u32 (k2 : Int)), (.int .u32 (k3 : Int)), (.int .u32 (k4 : Int)), (.int .u32 (k5 : Int)), (.int .u32 (k6 : Int)), (.int .u32 (k7 : Int)), u18, (.int .u32 (n0 : Int)), (.int .u32 (n1 : Int)), (.int .u32 (n2 : Int)), u22, u23, u24, u25, (.int .u32 (y0 : Int)), (.int .u32 (y5 : Int)), (.int .u32 (y10 : Int)), (.int .u32 (y15 : Int)), (.int .u32 (y1 : Int)), (.int .u32 (y6 : Int)), (.int .u32 (y11 : Int)), (.int .u32 (y12 : Int)), (.int .u32 (y2 : Int)), (.int .u32 (y7 : Int)), (.int .u32 (y8 : Int)), (.int .u32 (y13 : Int)), (.int .u32 (y3 : Int)), (.int .u32 (y4 : Int)), (.int .u32 (y9 : Int)), (.int .u32 (y14 : Int)), u42] → Arr w' g t' (pre ++ u8s (XM f (m + 12 + 4) l) ++ post) → w.grownBy w' (some g) → K a' w') : (lft (rgtN 9 B70)).wp Tryd.prog (Exit.then K Q) a w := by
  have HK := Lib.hid hK
  have HF := Lib.hid hf
  have HOD := Lib.hid hod
  have HM := Lib.hid hm
  clear hK hf hod hm
  rw [frLit a (.pointer (some ⟨gc, 0, none⟩)) (.slice (some ⟨g, od, none⟩) nr c1) (.slice (some ⟨g, od, none⟩) nr c2) u3 u4 u5 (.int .u32 1634760805) (.int .u32 857760878) (.int .u32 2036477234) (.int .u32 1797285236) (.int .u32 (k0 : Int)) (.int .u32 (k1 : Int)) (.int .u32 (k2 : Int)) (.int .u32 (k3 : Int)) (.int .u32 (k4 : Int)) (.int .u32 (k5 : Int)) (.int .u32 (k6 : Int)) (.int .u32 (k7 : Int)) u18 (.int .u32 (n0 : Int)) (.int .u32 (n1 : Int)) (.int .u32 (n2 : Int)) u22 u23 u24 u25 (.int .u32 (y0 : Int)) (.int .u32 (y5 : Int)) (.int .u32 (y10 : Int)) (.int .u32 (y15 : Int)) (.int .u32 (y1 : Int)) (.int .u32 (y6 : Int)) (.int .u32 (y11 : Int)) (.int .u32 (y12 : Int)) (.int .u32 (y2 : Int)) (.int .u32 (y7 : Int)) (.int .u32 (y8 : Int)) (.int .u32 (y13 : Int)) (.int .u32 (y3 : Int)) (.int .u32 (y4 : Int)) (.int .u32 (y9 : Int)) (.int .u32 (y14 : Int)) u42 hF]
  clear hF
  conv => arg 2; whnf
  have dca : ¬ (c1 = 12) := by omega
  have dcb : ¬ (c2 = 12) := by omega
  have jca : (16 : Int) ≤ (c1 : Int) := by omega
  have jcb : (16 : Int) ≤ (c2 : Int) := by omega
  have hw0 : w.grownBy w.drew (some g) := grown_drewN (World.grownBy.refl w (some g)) 1
  go_wp2_with fail
  refine wp_region_still_tail 6 (by as_aux_lemma => kernel_rfl) (by as_aux_lemma => kernel_rfl) ?_
  change wpStill _ _ w.drew (fun a' => wpList _ _ _ _ a' w.drew) _ _
  have hA : Arr w.drew g t' _ := hA
  skip
  generalize w.drew = t at hA hw0 ⊢
  simp only [List.take_succ_cons, List.take_zero, List.drop_succ_cons, List.drop_zero]
  repeat still_step
  refine wpStill_nil ?_
  go_wp2_with fail
  refine (addXorA t g o (od + 12) _ _ (m + 12) t' pre post l f y3 1797285236 ly (by decide) (by have := HOD.out; omega) hp (by have := HM.out; omega) (fun j hj => HF.out j hj) hA).mono ?_
  rintro e w2 ⟨rfl, hA2, hg⟩
  go_wp2_with fail
  exact HK.out _ _ ⟨by kernel_rfl, rfl, by kernel_rfl⟩ hA2 (grown_trans' hw0 hg)

set_option maxRecDepth 1000000 in
set_option maxHeartbeats 8000000 in
theorem ax_4 (a : Act) (w : World) (K : Act → World → Prop) (Q : Exit → Act → World → Prop) (u3 u4 u5 u18 u22 u23 u24 u25 u42 : Value) (gc g od nr c1 c2 o m cn : Nat) (k0 k1 k2 k3 k4 k5 k6 k7 n0 n1 n2 : Nat) (y0 y1 y2 y3 y4 y5 y6 y7 y8 y9 y10 y11 y12 y13 y14 y15 : Nat) (t' : TypeId) (pre post : List Value) (l : List UInt8) (f : Nat → UInt8)
    (hF : Fr a [(.pointer (some ⟨gc, 0, none⟩)), (.slice (some ⟨g, od, none⟩) nr c1), (.slice (some ⟨g, od, none⟩) nr c2), u3, u4, u5, (.int .u32 1634760805), (.int .u32 857760878), (.int .u32 2036477234), (.int .u32 1797285236), (.int .u32 (k0 : Int)), (.int .u32 (k1 : Int)), (.int .u32 (k2 : Int)), (.int .u32 (k3 : Int)), (.int .u32 (k4 : Int)), (.int .u32 (k5 : Int)), (.int .u32 (k6 : Int)), (.int .u32 (k7 : Int)), u18, (.int .u32 (n0 : Int)), (.int .u32 (n1 : Int)), (.int .u32 (n2 : Int)), u22, u23, u24, u25, (.int .u32 (y0 : Int)), (.int .u32 (y5 : Int)), (.int .u32 (y10 : Int)), (.int .u32 (y15 : Int)), (.int .u32 (y1 : Int)), (.int .u32 (y6 : Int)), (.int .u32 (y11 : Int)), (.int .u32 (y12 : Int)), (.int .u32 (y2 : Int)), (.int .u32 (y7 : Int)), (.int .u32 (y8 : Int)), (.int .u32 (y13 : Int)), (.int .u32 (y3 : Int)), (.int .u32 (y4 : Int)), (.int .u32 (y9 : Int)), (.int .u32 (y14 : Int)), u42]) (h64 : 64 ≤ nr) (hr1 : nr ≤ c1) (hr2 : nr ≤ c2) (ly : y4 < 4294967296) (lb : k0 < 4294967296) (hod : od = o + m) (hp : pre.length = o) (hm : m + 64 ≤ l.length)
    (hf : ∀ j, j < 4 → f (m + 16 + j) = UInt8.ofNat ((y4 + k0) % 4294967296 / 256 ^ j)) (hA : Arr w g t' (pre ++ u8s (XM f (m + 16) l) ++ post))
    (hK : ∀ a' w', Fr a' [(.pointer (some ⟨gc, 0, none⟩)), (.slice (some ⟨g, od, none⟩) nr c1), (.slice (some ⟨g, od, none⟩) nr c2), u3, u4, u5, (.int .u32 1634760805), (.int .u32 857760878), (.int .u32 2036477234), (.int .u32 1797285236), (.int .u32 (k0 : Int)), (.int .u32 (k1 : Int)), (.int .u32 (k2 : Int)), (.int .u32 (k3 : Int)), (.int .u32 (k4 : Int)), (.int .u32 (k5 : Int)), (.int .u32 (k6 : Int)), (.int .u32 (k7 : Int)), u18, (.int .u32 (n0 : Int)), (.int .u32 (n1 : Int)), (.int .u32 (n2 : Int)), u22, u23, u24, u25, (.int .u32 (y0 : Int)), (.int .u32 (y5 : Int)), (.int .u32 (y10 : Int)), (.int .u32 (y15 : Int)), (.int .u32 (y1 : Int)), (.int .u32 (y6 : Int)), (.int .u32 (y11 : Int)), (.int .u32 (y12 : Int)), (.int .u32 (y2 : Int)), (.int .u32 (y7 : Int)), (.int .u32 (y8 : Int)), (.int .u32 (y13 : Int)), (.int .u32 (y3 : Int)), (.int .u32 (y4 : Int)), (.int .u32 (y9 : Int)), (.int .u32 (y14 : Int)), u42] → Arr w' g t' (pre ++ u8s (XM f (m + 16 + 4) l) ++ post) → w.grownBy w' (some g) → K a' w') : (lft (rgtN 10 B70)).wp Tryd.prog (Exit.then K Q) a w := by
  have HK := Lib.hid hK
  have HF := Lib.hid hf
  have HOD := Lib.hid hod
  have HM := Lib.hid hm
  clear hK hf hod hm
  rw [frLit a (.pointer (some ⟨gc, 0, none⟩)) (.slice (some ⟨g, od, none⟩) nr c1) (.slice (some ⟨g, od, none⟩) nr c2) u3 u4 u5 (.int .u32 1634760805) (.int .u32 857760878) (.int .u32 2036477234) (.int .u32 1797285236) (.int .u32 (k0 : Int)) (.int .u32 (k1 : Int)) (.int .u32 (k2 : Int)) (.int .u32 (k3 : Int)) (.int .u32 (k4 : Int)) (.int .u32 (k5 : Int)) (.int .u32 (k6 : Int)) (.int .u32 (k7 : Int)) u18 (.int .u32 (n0 : Int)) (.int .u32 (n1 : Int)) (.int .u32 (n2 : Int)) u22 u23 u24 u25 (.int .u32 (y0 : Int)) (.int .u32 (y5 : Int)) (.int .u32 (y10 : Int)) (.int .u32 (y15 : Int)) (.int .u32 (y1 : Int)) (.int .u32 (y6 : Int)) (.int .u32 (y11 : Int)) (.int .u32 (y12 : Int)) (.int .u32 (y2 : Int)) (.int .u32 (y7 : Int)) (.int .u32 (y8 : Int)) (.int .u32 (y13 : Int)) (.int .u32 (y3 : Int)) (.int .u32 (y4 : Int)) (.int .u32 (y9 : Int)) (.int .u32 (y14 : Int)) u42 hF]
  clear hF
  conv => arg 2; whnf
  have dca : ¬ (c1 = 16) := by omega
  have dcb : ¬ (c2 = 16) := by omega
  have jca : (20 : Int) ≤ (c1 : Int) := by omega
  have jcb : (20 : Int) ≤ (c2 : Int) := by omega
  have hw0 : w.grownBy w.drew (some g) := grown_drewN (World.grownBy.refl w (some g)) 1
  go_wp2_with fail
  refine wp_region_still_tail 6 (by as_aux_lemma => kernel_rfl) (by as_aux_lemma => kernel_rfl) ?_
  change wpStill _ _ w.drew (fun a' => wpList _ _ _ _ a' w.drew) _ _
  have hA : Arr w.drew g t' _ := hA
  skip
  generalize w.drew = t at hA hw0 ⊢
  simp only [List.take_succ_cons, List.take_zero, List.drop_succ_cons, List.drop_zero]
  repeat still_step
  refine wpStill_nil ?_
  go_wp2_with fail
  refine (addXorA t g o (od + 16) _ _ (m + 16) t' pre post l f y4 k0 ly lb (by have := HOD.out; omega) hp (by have := HM.out; omega) (fun j hj => HF.out j hj) hA).mono ?_
  rintro e w2 ⟨rfl, hA2, hg⟩
  go_wp2_with fail
  exact HK.out _ _ ⟨by kernel_rfl, rfl, by kernel_rfl⟩ hA2 (grown_trans' hw0 hg)

set_option maxRecDepth 1000000 in
set_option maxHeartbeats 8000000 in
theorem ax_5 (a : Act) (w : World) (K : Act → World → Prop) (Q : Exit → Act → World → Prop) (u3 u4 u5 u18 u22 u23 u24 u25 u42 : Value) (gc g od nr c1 c2 o m cn : Nat) (k0 k1 k2 k3 k4 k5 k6 k7 n0 n1 n2 : Nat) (y0 y1 y2 y3 y4 y5 y6 y7 y8 y9 y10 y11 y12 y13 y14 y15 : Nat) (t' : TypeId) (pre post : List Value) (l : List UInt8) (f : Nat → UInt8)
    (hF : Fr a [(.pointer (some ⟨gc, 0, none⟩)), (.slice (some ⟨g, od, none⟩) nr c1), (.slice (some ⟨g, od, none⟩) nr c2), u3, u4, u5, (.int .u32 1634760805), (.int .u32 857760878), (.int .u32 2036477234), (.int .u32 1797285236), (.int .u32 (k0 : Int)), (.int .u32 (k1 : Int)), (.int .u32 (k2 : Int)), (.int .u32 (k3 : Int)), (.int .u32 (k4 : Int)), (.int .u32 (k5 : Int)), (.int .u32 (k6 : Int)), (.int .u32 (k7 : Int)), u18, (.int .u32 (n0 : Int)), (.int .u32 (n1 : Int)), (.int .u32 (n2 : Int)), u22, u23, u24, u25, (.int .u32 (y0 : Int)), (.int .u32 (y5 : Int)), (.int .u32 (y10 : Int)), (.int .u32 (y15 : Int)), (.int .u32 (y1 : Int)), (.int .u32 (y6 : Int)), (.int .u32 (y11 : Int)), (.int .u32 (y12 : Int)), (.int .u32 (y2 : Int)), (.int .u32 (y7 : Int)), (.int .u32 (y8 : Int)), (.int .u32 (y13 : Int)), (.int .u32 (y3 : Int)), (.int .u32 (y4 : Int)), (.int .u32 (y9 : Int)), (.int .u32 (y14 : Int)), u42]) (h64 : 64 ≤ nr) (hr1 : nr ≤ c1) (hr2 : nr ≤ c2) (ly : y5 < 4294967296) (lb : k1 < 4294967296) (hod : od = o + m) (hp : pre.length = o) (hm : m + 64 ≤ l.length)
    (hf : ∀ j, j < 4 → f (m + 20 + j) = UInt8.ofNat ((y5 + k1) % 4294967296 / 256 ^ j)) (hA : Arr w g t' (pre ++ u8s (XM f (m + 20) l) ++ post))
    (hK : ∀ a' w', Fr a' [(.pointer (some ⟨gc, 0, none⟩)), (.slice (some ⟨g, od, none⟩) nr c1), (.slice (some ⟨g, od, none⟩) nr c2), u3, u4, u5, (.int .u32 1634760805), (.int .u32 857760878), (.int .u32 2036477234), (.int .u32 1797285236), (.int .u32 (k0 : Int)), (.int .u32 (k1 : Int)), (.int .u32 (k2 : Int)), (.int .u32 (k3 : Int)), (.int .u32 (k4 : Int)), (.int .u32 (k5 : Int)), (.int .u32 (k6 : Int)), (.int .u32 (k7 : Int)), u18, (.int .u32 (n0 : Int)), (.int .u32 (n1 : Int)), (.int .u32 (n2 : Int)), u22, u23, u24, u25, (.int .u32 (y0 : Int)), (.int .u32 (y5 : Int)), (.int .u32 (y10 : Int)), (.int .u32 (y15 : Int)), (.int .u32 (y1 : Int)), (.int .u32 (y6 : Int)), (.int .u32 (y11 : Int)), (.int .u32 (y12 : Int)), (.int .u32 (y2 : Int)), (.int .u32 (y7 : Int)), (.int .u32 (y8 : Int)), (.int .u32 (y13 : Int)), (.int .u32 (y3 : Int)), (.int .u32 (y4 : Int)), (.int .u32 (y9 : Int)), (.int .u32 (y14 : Int)), u42] → Arr w' g t' (pre ++ u8s (XM f (m + 20 + 4) l) ++ post) → w.grownBy w' (some g) → K a' w') : (lft (rgtN 11 B70)).wp Tryd.prog (Exit.then K Q) a w := by
  have HK := Lib.hid hK
  have HF := Lib.hid hf
  have HOD := Lib.hid hod
  have HM := Lib.hid hm
  clear hK hf hod hm
  rw [frLit a (.pointer (some ⟨gc, 0, none⟩)) (.slice (some ⟨g, od, none⟩) nr c1) (.slice (some ⟨g, od, none⟩) nr c2) u3 u4 u5 (.int .u32 1634760805) (.int .u32 857760878) (.int .u32 2036477234) (.int .u32 1797285236) (.int .u32 (k0 : Int)) (.int .u32 (k1 : Int)) (.int .u32 (k2 : Int)) (.int .u32 (k3 : Int)) (.int .u32 (k4 : Int)) (.int .u32 (k5 : Int)) (.int .u32 (k6 : Int)) (.int .u32 (k7 : Int)) u18 (.int .u32 (n0 : Int)) (.int .u32 (n1 : Int)) (.int .u32 (n2 : Int)) u22 u23 u24 u25 (.int .u32 (y0 : Int)) (.int .u32 (y5 : Int)) (.int .u32 (y10 : Int)) (.int .u32 (y15 : Int)) (.int .u32 (y1 : Int)) (.int .u32 (y6 : Int)) (.int .u32 (y11 : Int)) (.int .u32 (y12 : Int)) (.int .u32 (y2 : Int)) (.int .u32 (y7 : Int)) (.int .u32 (y8 : Int)) (.int .u32 (y13 : Int)) (.int .u32 (y3 : Int)) (.int .u32 (y4 : Int)) (.int .u32 (y9 : Int)) (.int .u32 (y14 : Int)) u42 hF]
  clear hF
  conv => arg 2; whnf
  have dca : ¬ (c1 = 20) := by omega
  have dcb : ¬ (c2 = 20) := by omega
  have jca : (24 : Int) ≤ (c1 : Int) := by omega
  have jcb : (24 : Int) ≤ (c2 : Int) := by omega
  have hw0 : w.grownBy w.drew (some g) := grown_drewN (World.grownBy.refl w (some g)) 1
  go_wp2_with fail
  refine wp_region_still_tail 6 (by as_aux_lemma => kernel_rfl) (by as_aux_lemma => kernel_rfl) ?_
  change wpStill _ _ w.drew (fun a' => wpList _ _ _ _ a' w.drew) _ _
  have hA : Arr w.drew g t' _ := hA
  skip
  generalize w.drew = t at hA hw0 ⊢
  simp only [List.take_succ_cons, List.take_zero, List.drop_succ_cons, List.drop_zero]
  repeat still_step
  refine wpStill_nil ?_
  go_wp2_with fail
  refine (addXorA t g o (od + 20) _ _ (m + 20) t' pre post l f y5 k1 ly lb (by have := HOD.out; omega) hp (by have := HM.out; omega) (fun j hj => HF.out j hj) hA).mono ?_
  rintro e w2 ⟨rfl, hA2, hg⟩
  go_wp2_with fail
  exact HK.out _ _ ⟨by kernel_rfl, rfl, by kernel_rfl⟩ hA2 (grown_trans' hw0 hg)

set_option maxRecDepth 1000000 in
set_option maxHeartbeats 8000000 in
theorem ax_6 (a : Act) (w : World) (K : Act → World → Prop) (Q : Exit → Act → World → Prop) (u3 u4 u5 u18 u22 u23 u24 u25 u42 : Value) (gc g od nr c1 c2 o m cn : Nat) (k0 k1 k2 k3 k4 k5 k6 k7 n0 n1 n2 : Nat) (y0 y1 y2 y3 y4 y5 y6 y7 y8 y9 y10 y11 y12 y13 y14 y15 : Nat) (t' : TypeId) (pre post : List Value) (l : List UInt8) (f : Nat → UInt8)
    (hF : Fr a [(.pointer (some ⟨gc, 0, none⟩)), (.slice (some ⟨g, od, none⟩) nr c1), (.slice (some ⟨g, od, none⟩) nr c2), u3, u4, u5, (.int .u32 1634760805), (.int .u32 857760878), (.int .u32 2036477234), (.int .u32 1797285236), (.int .u32 (k0 : Int)), (.int .u32 (k1 : Int)), (.int .u32 (k2 : Int)), (.int .u32 (k3 : Int)), (.int .u32 (k4 : Int)), (.int .u32 (k5 : Int)), (.int .u32 (k6 : Int)), (.int .u32 (k7 : Int)), u18, (.int .u32 (n0 : Int)), (.int .u32 (n1 : Int)), (.int .u32 (n2 : Int)), u22, u23, u24, u25, (.int .u32 (y0 : Int)), (.int .u32 (y5 : Int)), (.int .u32 (y10 : Int)), (.int .u32 (y15 : Int)), (.int .u32 (y1 : Int)), (.int .u32 (y6 : Int)), (.int .u32 (y11 : Int)), (.int .u32 (y12 : Int)), (.int .u32 (y2 : Int)), (.int .u32 (y7 : Int)), (.int .u32 (y8 : Int)), (.int .u32 (y13 : Int)), (.int .u32 (y3 : Int)), (.int .u32 (y4 : Int)), (.int .u32 (y9 : Int)), (.int .u32 (y14 : Int)), u42]) (h64 : 64 ≤ nr) (hr1 : nr ≤ c1) (hr2 : nr ≤ c2) (ly : y6 < 4294967296) (lb : k2 < 4294967296) (hod : od = o + m) (hp : pre.length = o) (hm : m + 64 ≤ l.length)
    (hf : ∀ j, j < 4 → f (m + 24 + j) = UInt8.ofNat ((y6 + k2) % 4294967296 / 256 ^ j)) (hA : Arr w g t' (pre ++ u8s (XM f (m + 24) l) ++ post))
    (hK : ∀ a' w', Fr a' [(.pointer (some ⟨gc, 0, none⟩)), (.slice (some ⟨g, od, none⟩) nr c1), (.slice (some ⟨g, od, none⟩) nr c2), u3, u4, u5, (.int .u32 1634760805), (.int .u32 857760878), (.int .u32 2036477234), (.int .u32 1797285236), (.int .u32 (k0 : Int)), (.int .u32 (k1 : Int)), (.int .u32 (k2 : Int)), (.int .u32 (k3 : Int)), (.int .u32 (k4 : Int)), (.int .u32 (k5 : Int)), (.int .u32 (k6 : Int)), (.int .u32 (k7 : Int)), u18, (.int .u32 (n0 : Int)), (.int .u32 (n1 : Int)), (.int .u32 (n2 : Int)), u22, u23, u24, u25, (.int .u32 (y0 : Int)), (.int .u32 (y5 : Int)), (.int .u32 (y10 : Int)), (.int .u32 (y15 : Int)), (.int .u32 (y1 : Int)), (.int .u32 (y6 : Int)), (.int .u32 (y11 : Int)), (.int .u32 (y12 : Int)), (.int .u32 (y2 : Int)), (.int .u32 (y7 : Int)), (.int .u32 (y8 : Int)), (.int .u32 (y13 : Int)), (.int .u32 (y3 : Int)), (.int .u32 (y4 : Int)), (.int .u32 (y9 : Int)), (.int .u32 (y14 : Int)), u42] → Arr w' g t' (pre ++ u8s (XM f (m + 24 + 4) l) ++ post) → w.grownBy w' (some g) → K a' w') : (lft (rgtN 12 B70)).wp Tryd.prog (Exit.then K Q) a w := by
  have HK := Lib.hid hK
  have HF := Lib.hid hf
  have HOD := Lib.hid hod
  have HM := Lib.hid hm
  clear hK hf hod hm
  rw [frLit a (.pointer (some ⟨gc, 0, none⟩)) (.slice (some ⟨g, od, none⟩) nr c1) (.slice (some ⟨g, od, none⟩) nr c2) u3 u4 u5 (.int .u32 1634760805) (.int .u32 857760878) (.int .u32 2036477234) (.int .u32 1797285236) (.int .u32 (k0 : Int)) (.int .u32 (k1 : Int)) (.int .u32 (k2 : Int)) (.int .u32 (k3 : Int)) (.int .u32 (k4 : Int)) (.int .u32 (k5 : Int)) (.int .u32 (k6 : Int)) (.int .u32 (k7 : Int)) u18 (.int .u32 (n0 : Int)) (.int .u32 (n1 : Int)) (.int .u32 (n2 : Int)) u22 u23 u24 u25 (.int .u32 (y0 : Int)) (.int .u32 (y5 : Int)) (.int .u32 (y10 : Int)) (.int .u32 (y15 : Int)) (.int .u32 (y1 : Int)) (.int .u32 (y6 : Int)) (.int .u32 (y11 : Int)) (.int .u32 (y12 : Int)) (.int .u32 (y2 : Int)) (.int .u32 (y7 : Int)) (.int .u32 (y8 : Int)) (.int .u32 (y13 : Int)) (.int .u32 (y3 : Int)) (.int .u32 (y4 : Int)) (.int .u32 (y9 : Int)) (.int .u32 (y14 : Int)) u42 hF]
  clear hF
  conv => arg 2; whnf
  have dca : ¬ (c1 = 24) := by omega
  have dcb : ¬ (c2 = 24) := by omega
  have jca : (28 : Int) ≤ (c1 : Int) := by omega
  have jcb : (28 : Int) ≤ (c2 : Int) := by omega
  have hw0 : w.grownBy w.drew (some g) := grown_drewN (World.grownBy.refl w (some g)) 1
  go_wp2_with fail
  refine wp_region_still_tail 6 (by as_aux_lemma => kernel_rfl) (by as_aux_lemma => kernel_rfl) ?_
  change wpStill _ _ w.drew (fun a' => wpList _ _ _ _ a' w.drew) _ _
  have hA : Arr w.drew g t' _ := hA
  skip
  generalize w.drew = t at hA hw0 ⊢
  simp only [List.take_succ_cons, List.take_zero, List.drop_succ_cons, List.drop_zero]
  repeat still_step
  refine wpStill_nil ?_
  go_wp2_with fail
  refine (addXorA t g o (od + 24) _ _ (m + 24) t' pre post l f y6 k2 ly lb (by have := HOD.out; omega) hp (by have := HM.out; omega) (fun j hj => HF.out j hj) hA).mono ?_
  rintro e w2 ⟨rfl, hA2, hg⟩
  go_wp2_with fail
  exact HK.out _ _ ⟨by kernel_rfl, rfl, by kernel_rfl⟩ hA2 (grown_trans' hw0 hg)

set_option maxRecDepth 1000000 in
set_option maxHeartbeats 8000000 in
theorem ax_7 (a : Act) (w : World) (K : Act → World → Prop) (Q : Exit → Act → World → Prop) (u3 u4 u5 u18 u22 u23 u24 u25 u42 : Value) (gc g od nr c1 c2 o m cn : Nat) (k0 k1 k2 k3 k4 k5 k6 k7 n0 n1 n2 : Nat) (y0 y1 y2 y3 y4 y5 y6 y7 y8 y9 y10 y11 y12 y13 y14 y15 : Nat) (t' : TypeId) (pre post : List Value) (l : List UInt8) (f : Nat → UInt8)
    (hF : Fr a [(.pointer (some ⟨gc, 0, none⟩)), (.slice (some ⟨g, od, none⟩) nr c1), (.slice (some ⟨g, od, none⟩) nr c2), u3, u4, u5, (.int .u32 1634760805), (.int .u32 857760878), (.int .u32 2036477234), (.int .u32 1797285236), (.int .u32 (k0 : Int)), (.int .u32 (k1 : Int)), (.int .u32 (k2 : Int)), (.int .u32 (k3 : Int)), (.int .u32 (k4 : Int)), (.int .u32 (k5 : Int)), (.int .u32 (k6 : Int)), (.int .u32 (k7 : Int)), u18, (.int .u32 (n0 : Int)), (.int .u32 (n1 : Int)), (.int .u32 (n2 : Int)), u22, u23, u24, u25, (.int .u32 (y0 : Int)), (.int .u32 (y5 : Int)), (.int .u32 (y10 : Int)), (.int .u32 (y15 : Int)), (.int .u32 (y1 : Int)), (.int .u32 (y6 : Int)), (.int .u32 (y11 : Int)), (.int .u32 (y12 : Int)), (.int .u32 (y2 : Int)), (.int .u32 (y7 : Int)), (.int .u32 (y8 : Int)), (.int .u32 (y13 : Int)), (.int .u32 (y3 : Int)), (.int .u32 (y4 : Int)), (.int .u32 (y9 : Int)), (.int .u32 (y14 : Int)), u42]) (h64 : 64 ≤ nr) (hr1 : nr ≤ c1) (hr2 : nr ≤ c2) (ly : y7 < 4294967296) (lb : k3 < 4294967296) (hod : od = o + m) (hp : pre.length = o) (hm : m + 64 ≤ l.length)
    (hf : ∀ j, j < 4 → f (m + 28 + j) = UInt8.ofNat ((y7 + k3) % 4294967296 / 256 ^ j)) (hA : Arr w g t' (pre ++ u8s (XM f (m + 28) l) ++ post))
    (hK : ∀ a' w', Fr a' [(.pointer (some ⟨gc, 0, none⟩)), (.slice (some ⟨g, od, none⟩) nr c1), (.slice (some ⟨g, od, none⟩) nr c2), u3, u4, u5, (.int .u32 1634760805), (.int .u32 857760878), (.int .u32 2036477234), (.int .u32 1797285236), (.int .u32 (k0 : Int)), (.int .u32 (k1 : Int)), (.int .u32 (k2 : Int)), (.int .u32 (k3 : Int)), (.int .u32 (k4 : Int)), (.int .u32 (k5 : Int)), (.int .u32 (k6 : Int)), (.int .u32 (k7 : Int)), u18, (.int .u32 (n0 : Int)), (.int .u32 (n1 : Int)), (.int .u32 (n2 : Int)), u22, u23, u24, u25, (.int .u32 (y0 : Int)), (.int .u32 (y5 : Int)), (.int .u32 (y10 : Int)), (.int .u32 (y15 : Int)), (.int .u32 (y1 : Int)), (.int .u32 (y6 : Int)), (.int .u32 (y11 : Int)), (.int .u32 (y12 : Int)), (.int .u32 (y2 : Int)), (.int .u32 (y7 : Int)), (.int .u32 (y8 : Int)), (.int .u32 (y13 : Int)), (.int .u32 (y3 : Int)), (.int .u32 (y4 : Int)), (.int .u32 (y9 : Int)), (.int .u32 (y14 : Int)), u42] → Arr w' g t' (pre ++ u8s (XM f (m + 28 + 4) l) ++ post) → w.grownBy w' (some g) → K a' w') : (lft (rgtN 13 B70)).wp Tryd.prog (Exit.then K Q) a w := by
  have HK := Lib.hid hK
  have HF := Lib.hid hf
  have HOD := Lib.hid hod
  have HM := Lib.hid hm
  clear hK hf hod hm
  rw [frLit a (.pointer (some ⟨gc, 0, none⟩)) (.slice (some ⟨g, od, none⟩) nr c1) (.slice (some ⟨g, od, none⟩) nr c2) u3 u4 u5 (.int .u32 1634760805) (.int .u32 857760878) (.int .u32 2036477234) (.int .u32 1797285236) (.int .u32 (k0 : Int)) (.int .u32 (k1 : Int)) (.int .u32 (k2 : Int)) (.int .u32 (k3 : Int)) (.int .u32 (k4 : Int)) (.int .u32 (k5 : Int)) (.int .u32 (k6 : Int)) (.int .u32 (k7 : Int)) u18 (.int .u32 (n0 : Int)) (.int .u32 (n1 : Int)) (.int .u32 (n2 : Int)) u22 u23 u24 u25 (.int .u32 (y0 : Int)) (.int .u32 (y5 : Int)) (.int .u32 (y10 : Int)) (.int .u32 (y15 : Int)) (.int .u32 (y1 : Int)) (.int .u32 (y6 : Int)) (.int .u32 (y11 : Int)) (.int .u32 (y12 : Int)) (.int .u32 (y2 : Int)) (.int .u32 (y7 : Int)) (.int .u32 (y8 : Int)) (.int .u32 (y13 : Int)) (.int .u32 (y3 : Int)) (.int .u32 (y4 : Int)) (.int .u32 (y9 : Int)) (.int .u32 (y14 : Int)) u42 hF]
  clear hF
  conv => arg 2; whnf
  have dca : ¬ (c1 = 28) := by omega
  have dcb : ¬ (c2 = 28) := by omega
  have jca : (32 : Int) ≤ (c1 : Int) := by omega
  have jcb : (32 : Int) ≤ (c2 : Int) := by omega
  have hw0 : w.grownBy w.drew (some g) := grown_drewN (World.grownBy.refl w (some g)) 1
  go_wp2_with fail
  refine wp_region_still_tail 6 (by as_aux_lemma => kernel_rfl) (by as_aux_lemma => kernel_rfl) ?_
  change wpStill _ _ w.drew (fun a' => wpList _ _ _ _ a' w.drew) _ _
  have hA : Arr w.drew g t' _ := hA
  skip
  generalize w.drew = t at hA hw0 ⊢
  simp only [List.take_succ_cons, List.take_zero, List.drop_succ_cons, List.drop_zero]
  repeat still_step
  refine wpStill_nil ?_
  go_wp2_with fail
  refine (addXorA t g o (od + 28) _ _ (m + 28) t' pre post l f y7 k3 ly lb (by have := HOD.out; omega) hp (by have := HM.out; omega) (fun j hj => HF.out j hj) hA).mono ?_
  rintro e w2 ⟨rfl, hA2, hg⟩
  go_wp2_with fail
  exact HK.out _ _ ⟨by kernel_rfl, rfl, by kernel_rfl⟩ hA2 (grown_trans' hw0 hg)

end Go.Proofs.YtkocgogpbammaaaDoor

/- xorKeyStreamBlocksGeneric: the sixteen words laid over the text (the other eight). Conditions: as each states. (Printed by wip/gencd.py.) -/
import Derived.Test.YtkocgogpbammaaaDoorCd0
import Derived.Deep.DeepCutAuto
set_option linter.unusedVariables false
set_option linter.unusedSimpArgs false
namespace Go.Proofs.YtkocgogpbammaaaDoor
open Go.RowKit

set_option maxRecDepth 1000000 in
set_option maxHeartbeats 8000000 in
theorem ax_8 (a : Act) (w : World) (K : Act → World → Prop) (Q : Exit → Act → World → Prop) (u3 u4 u5 u18 u22 u23 u24 u25 u42 : Value) (gc g od nr c1 c2 o m cn : Nat) (k0 k1 k2 k3 k4 k5 k6 k7 n0 n1 n2 : Nat) (y0 y1 y2 y3 y4 y5 y6 y7 y8 y9 y10 y11 y12 y13 y14 y15 : Nat) (t' : TypeId) (pre post : List Value) (l : List UInt8) (f : Nat → UInt8)
    (hF : Fr a [(.pointer (some ⟨gc, 0, none⟩)), (.slice (some ⟨g, od, none⟩) nr c1), (.slice (some ⟨g, od, none⟩) nr c2), u3, u4, u5, (.int .u32 1634760805), (.int .u32 857760878), (.int .u32 2036477234), (.int .u32 1797285236), (.int .u32 (k0 : Int)), (.int .u32 (k1 : Int)), (.int .u32 (k2 : Int)), (.int .u32 (k3 : Int)), (.int .u32 (k4 : Int)), (.int .u32 (k5 : Int)), (.int .u32 (k6 : Int)), (.int .u32 (k7 : Int)), u18, (.int .u32 (n0 : Int)), (.int .u32 (n1 : Int)), (.int .u32 (n2 : Int)), u22, u23, u24, u25, (.int .u32 (y0 : Int)), (.int .u32 (y5 : Int)), (.int .u32 (y10 : Int)), (.int .u32 (y15 : Int)), (.int .u32 (y1 : Int)), (.int .u32 (y6 : Int)), (.int .u32 (y11 : Int)), (.int .u32 (y12 : Int)), (.int .u32 (y2 : Int)), (.int .u32 (y7 : Int)), (.int .u32 (y8 : Int)), (.int .u32 (y13 : Int)), (.int .u32 (y3 : Int)), (.int .u32 (y4 : Int)), (.int .u32 (y9 : Int)), (.int .u32 (y14 : Int)), u42]) (h64 : 64 ≤ nr) (hr1 : nr ≤ c1) (hr2 : nr ≤ c2) (ly : y8 < 4294967296) (lb : k4 < 4294967296) (hod : od = o + m) (hp : pre.length = o) (hm : m + 64 ≤ l.length)
    (hf : ∀ j, j < 4 → f (m + 32 + j) = UInt8.ofNat ((y8 + k4) % 4294967296 / 256 ^ j)) (hA : Arr w g t' (pre ++ u8s (XM f (m + 32) l) ++ post))
    (hK : ∀ a' w', Fr a' [(.pointer (some ⟨gc, 0, none⟩)), (.slice (some ⟨g, od, none⟩) nr c1), (.slice (some ⟨g, od, none⟩) nr c2), u3, u4, u5, (.int .u32 1634760805), (.int .u32 857760878), (.int .u32 2036477234), (.int .u32 1797285236), (.int .u32 (k0 : Int)), (.int .u32 (k1 : Int)), (.int .u32 (k2 : Int)), (.int .u32 (k3 : Int)), (.int .u32 (k4 : Int)), (.int .u32 (k5 : Int)), (.int .u32 (k6 : Int)), (.int .u32 (k7 : Int)), u18, (.int .u32 (n0 : Int)), (.int .u32 (n1 : Int)), (.int .u32 (n2 : Int)), u22, u23, u24, u25, (.int .u32 (y0 : Int)), (.int .u32 (y5 : Int)), (.int .u32 (y10 : Int)), (.int .u32 (y15 : Int)), (.int .u32 (y1 : Int)), (.int .u32 (y6 : Int)), (.int .u32 (y11 : Int)), (.int .u32 (y12 : Int)), (.int .u32 (y2 : Int)), (.int .u32 (y7 : Int)), (.int .u32 (y8 : Int)), (.int .u32 (y13 : Int)), (.int .u32 (y3 : Int)), (.int .u32 (y4 : Int)), (.int .u32 (y9 : Int)), (.int .u32 (y14 : Int)), u42] → Arr w' g t' (pre ++ u8s (XM f (m + 32 + 4) l) ++ post) → w.grownBy w' (some g) → K a' w') : (lft (rgtN 14 B70)).wp Tryd.prog (Exit.then K Q) a w := by
  have HK := Lib.hid hK
  have HF := Lib.hid hf
  have HOD := Lib.hid hod
  have HM := Lib.hid hm
  clear hK hf hod hm
  rw [frLit a (.pointer (some ⟨gc, 0, none⟩)) (.slice (some ⟨g, od, none⟩) nr c1) (.slice (some ⟨g, od, none⟩) nr c2) u3 u4 u5 (.int .u32 1634760805) (.int .u32 857760878) (.int .u32 2036477234) (.int .u32 1797285236) (.int .u32 (k0 : Int)) (.int .u32 (k1 : Int)) (.int .u32 (k2 : Int)) (.int .u32 (k3 : Int)) (.int .u32 (k4 : Int)) (.int .u32 (k5 : Int)) (.int .u32 (k6 : Int)) (.int .u32 (k7 : Int)) u18 (.int .u32 (n0 : Int)) (.int .u32 (n1 : Int)) (.int .u32 (n2 : Int)) u22 u23 u24 u25 (.int .u32 (y0 : Int)) (.int .u32 (y5 : Int)) (.int .u32 (y10 : Int)) (.int .u32 (y15 : Int)) (.int .u32 (y1 : Int)) (.int .u32 (y6 : Int)) (.int .u32 (y11 : Int)) (.int .u32 (y12 : Int)) (.int .u32 (y2 : Int)) (.int .u32 (y7 : Int)) (.int .u32 (y8 : Int)) (.int .u32 (y13 : Int)) (.int .u32 (y3 : Int)) (.int .u32 (y4 : Int)) (.int .u32 (y9 : Int)) (.int .u32 (y14 : Int)) u42 hF]
  clear hF
  conv => arg 2; whnf
  have dca : ¬ (c1 = 32) := by omega
  have dcb : ¬ (c2 = 32) := by omega
  have jca : (36 : Int) ≤ (c1 : Int) := by omega
  have jcb : (36 : Int) ≤ (c2 : Int) := by omega
  have hw0 : w.grownBy w.drew (some g) := grown_drewN (World.grownBy.refl w (some g)) 1
  go_wp2_with fail
  refine wp_region_still_tail 6 (by as_aux_lemma => kernel_rfl) (by as_aux_lemma => kernel_rfl) ?_
  change wpStill _ _ w.drew (fun a' => wpList _ _ _ _ a' w.drew) _ _
  have hA : Arr w.drew g t' _ := hA
  skip
  generalize w.drew = t at hA hw0 ⊢
  simp only [List.take_succ_cons, List.take_zero, List.drop_succ_cons, List.drop_zero]
  repeat still_step
  refine wpStill_nil ?_
  go_wp2_with fail
  refine (addXorA t g o (od + 32) _ _ (m + 32) t' pre post l f y8 k4 ly lb (by have := HOD.out; omega) hp (by have := HM.out; omega) (fun j hj => HF.out j hj) hA).mono ?_
  rintro e w2 ⟨rfl, hA2, hg⟩
  go_wp2_with fail
  exact HK.out _ _ ⟨by kernel_rfl, rfl, by kernel_rfl⟩ hA2 (grown_trans' hw0 hg)

set_option maxRecDepth 1000000 in
set_option maxHeartbeats 8000000 in
theorem ax_9 (a : Act) (w : World) (K : Act → World → Prop) (Q : Exit → Act → World → Prop) (u3 u4 u5 u18 u22 u23 u24 u25 u42 : Value) (gc g od nr c1 c2 o m cn : Nat) (k0 k1 k2 k3 k4 k5 k6 k7 n0 n1 n2 : Nat) (y0 y1 y2 y3 y4 y5 y6 y7 y8 y9 y10 y11 y12 y13 y14 y15 : Nat) (t' : TypeId) (pre post : List Value) (l : List UInt8) (f : Nat → UInt8)
    (hF : Fr a [(.pointer (some ⟨gc, 0, none⟩)), (.slice (some ⟨g, od, none⟩) nr c1), (.slice (some ⟨g, od, none⟩) nr c2), u3, u4, u5, (.int .u32 1634760805), (.int .u32 857760878), (.int .u32 2036477234), (.int .u32 1797285236), (.int .u32 (k0 : Int)), (.int .u32 (k1 : Int)), (.int .u32 (k2 : Int)), (.int .u32 (k3 : Int)), (.int .u32 (k4 : Int)), (.int .u32 (k5 : Int)), (.int .u32 (k6 : Int)), (.int .u32 (k7 : Int)), u18, (.int .u32 (n0 : Int)), (.int .u32 (n1 : Int)), (.int .u32 (n2 : Int)), u22, u23, u24, u25, (.int .u32 (y0 : Int)), (.int .u32 (y5 : Int)), (.int .u32 (y10 : Int)), (.int .u32 (y15 : Int)), (.int .u32 (y1 : Int)), (.int .u32 (y6 : Int)), (.int .u32 (y11 : Int)), (.int .u32 (y12 : Int)), (.int .u32 (y2 : Int)), (.int .u32 (y7 : Int)), (.int .u32 (y8 : Int)), (.int .u32 (y13 : Int)), (.int .u32 (y3 : Int)), (.int .u32 (y4 : Int)), (.int .u32 (y9 : Int)), (.int .u32 (y14 : Int)), u42]) (h64 : 64 ≤ nr) (hr1 : nr ≤ c1) (hr2 : nr ≤ c2) (ly : y9 < 4294967296) (lb : k5 < 4294967296) (hod : od = o + m) (hp : pre.length = o) (hm : m + 64 ≤ l.length)
    (hf : ∀ j, j < 4 → f (m + 36 + j) = UInt8.ofNat ((y9 + k5) % 4294967296 / 256 ^ j)) (hA : Arr w g t' (pre ++ u8s (XM f (m + 36) l) ++ post))
    (hK : ∀ a' w', Fr a' [(.pointer (some ⟨gc, 0, none⟩)), (.slice (some ⟨g, od, none⟩) nr c1), (.slice (some ⟨g, od, none⟩) nr c2), u3, u4, u5, (.int .u32 1634760805), (.int .u32 857760878), (.int .u32 2036477234), (.int .u32 1797285236), (.int .u32 (k0 : Int)), (.int .u32 (k1 : Int)), (.int .u32 (k2 : Int)), (.int .u32 (k3 : Int)), (.int .u32 (k4 : Int)), (.int .u32 (k5 : Int)), (.int .u32 (k6 : Int)), (.int .u32 (k7 : Int)), u18, (.int .u32 (n0 : Int)), (.int .u32 (n1 : Int)), (.int .u32 (n2 : Int)), u22, u23, u24, u25, (.int .u32 (y0 : Int)), (.int .u32 (y5 : Int)), (.int .u32 (y10 : Int)), (.int .u32 (y15 : Int)), (.int .u32 (y1 : Int)), (.int .u32 (y6 : Int)), (.int .u32 (y11 : Int)), (.int .u32 (y12 : Int)), (.int .u32 (y2 : Int)), (.int .u32 (y7 : Int)), (.int .u32 (y8 : Int)), (.int .u32 (y13 : Int)), (.int .u32 (y3 : Int)), (.int .u32 (y4 : Int)), (.int .u32 (y9 : Int)), (.int .u32 (y14 : Int)), u42] → Arr w' g t' (pre ++ u8s (XM f (m + 36 + 4) l) ++ post) → w.grownBy w' (some g) → K a' w') : (lft (rgtN 15 B70)).wp Tryd.prog (Exit.then K Q) a w := by
  have HK := Lib.hid hK
  have HF := Lib.hid hf
  have HOD := Lib.hid hod
  have HM := Lib.hid hm
  clear hK hf hod hm
  rw [frLit a (.pointer (some ⟨gc, 0, none⟩)) (.slice (some ⟨g, od, none⟩) nr c1) (.slice (some ⟨g, od, none⟩) nr c2) u3 u4 u5 (.int .u32 1634760805) (.int .u32 857760878) (.int .u32 2036477234) (.int .u32 1797285236) (.int .u32 (k0 : Int)) (.int .u32 (k1 : Int)) (.int .u32 (k2 : Int)) (.int .u32 (k3 : Int)) (.int .u32 (k4 : Int)) (.int .u32 (k5 : Int)) (.int .u32 (k6 : Int)) (.int .u32 (k7 : Int)) u18 (.int .u32 (n0 : Int)) (.int .u32 (n1 : Int)) (.int .u32 (n2 : Int)) u22 u23 u24 u25 (.int .u32 (y0 : Int)) (.int .u32 (y5 : Int)) (.int .u32 (y10 : Int)) (.int .u32 (y15 : Int)) (.int .u32 (y1 : Int)) (.int .u32 (y6 : Int)) (.int .u32 (y11 : Int)) (.int .u32 (y12 : Int)) (.int .u32 (y2 : Int)) (.int .u32 (y7 : Int)) (.int .u32 (y8 : Int)) (.int .u32 (y13 : Int)) (.int .u32 (y3 : Int)) (.int .u32 (y4 : Int)) (.int .u32 (y9 : Int)) (.int .u32 (y14 : Int)) u42 hF]
  clear hF
  conv => arg 2; whnf
  have dca : ¬ (c1 = 36) := by omega
  have dcb : ¬ (c2 = 36) := by omega
  have jca : (40 : Int) ≤ (c1 : Int) := by omega
  have jcb : (40 : Int) ≤ (c2 : Int) := by omega
  have hw0 : w.grownBy w.drew (some g) := grown_drewN (World.grownBy.refl w (some g)) 1
  go_wp2_with fail
  refine wp_region_still_tail 6 (by as_aux_lemma => kernel_rfl) (by as_aux_lemma => kernel_rfl) ?_
  change wpStill _ _ w.drew (fun a' => wpList _ _ _ _ a' w.drew) _ _
  have hA : Arr w.drew g t' _ := hA
  skip
  generalize w.drew = t at hA hw0 ⊢
  simp only [List.take_succ_cons, List.take_zero, List.drop_succ_cons, List.drop_zero]
  repeat still_step
  refine wpStill_nil ?_
  go_wp2_with fail
  refine (addXorA t g o (od + 36) _ _ (m + 36) t' pre post l f y9 k5 ly lb (by have := HOD.out; omega) hp (by have := HM.out; omega) (fun j hj => HF.out j hj) hA).mono ?_
  rintro e w2 ⟨rfl, hA2, hg⟩
  go_wp2_with fail
  exact HK.out _ _ ⟨by kernel_rfl, rfl, by kernel_rfl⟩ hA2 (grown_trans' hw0 hg)

set_option maxRecDepth 1000000 in
set_option maxHeartbeats 8000000 in
theorem ax_10 (a : Act) (w : World) (K : Act → World → Prop) (Q : Exit → Act → World → Prop) (u3 u4 u5 u18 u22 u23 u24 u25 u42 : Value) (gc g od nr c1 c2 o m cn : Nat) (k0 k1 k2 k3 k4 k5 k6 k7 n0 n1 n2 : Nat) (y0 y1 y2 y3 y4 y5 y6 y7 y8 y9 y10 y11 y12 y13 y14 y15 : Nat) (t' : TypeId) (pre post : List Value) (l : List UInt8) (f : Nat → UInt8)
    (hF : Fr a [(.pointer (some ⟨gc, 0, none⟩)), (.slice (some ⟨g, od, none⟩) nr c1), (.slice (some ⟨g, od, none⟩) nr c2), u3, u4, u5, (.int .u32 1634760805), (.int .u32 857760878), (.int .u32 2036477234), (.int .u32 1797285236), (.int .u32 (k0 : Int)), (.int .u32 (k1 : Int)), (.int .u32 (k2 : Int)), (.int .u32 (k3 : Int)), (.int .u32 (k4 : Int)), (.int .u32 (k5 : Int)), (.int .u32 (k6 : Int)), (.int .u32 (k7 : Int)), u18, (.int .u32 (n0 : Int)), (.int .u32 (n1 : Int)), (.int .u32 (n2 : Int)), u22, u23, u24, u25, (.int .u32 (y0 : Int)), (.int .u32 (y5 : Int)), (.int .u32 (y10 : Int)), (.int .u32 (y15 : Int)), (.int .u32 (y1 : Int)), (.int .u32 (y6 : Int)), (.int .u32 (y11 : Int)), (.int .u32 (y12 : Int)), (.int .u32 (y2 : Int)), (.int .u32 (y7 : Int)), (.int .u32 (y8 : Int)), (.int .u32 (y13 : Int)), (.int .u32 (y3 : Int)), (.int .u32 (y4 : Int)), (.int .u32 (y9 : Int)), (.int .u32 (y14 : Int)), u42]) (h64 : 64 ≤ nr) (hr1 : nr ≤ c1) (hr2 : nr ≤ c2) (ly : y10 < 4294967296) (lb : k6 < 4294967296) (hod : od = o + m) (hp : pre.length = o) (hm : m + 64 ≤ l.length)
    (hf : ∀ j, j < 4 → f (m + 40 + j) = UInt8.ofNat ((y10 + k6) % 4294967296 / 256 ^ j)) (hA : Arr w g t' (pre ++ u8s (XM f (m + 40) l) ++ post))
    (hK : ∀ a' w', Fr a' [(.pointer (some ⟨gc, 0, none⟩)), (.slice (some ⟨g, od, none⟩) nr c1), (.slice (some ⟨g, od, none⟩) nr c2), u3, u4, u5, (.int .u32 1634760805), (.int .u32 857760878), (.int .u32 2036477234), (.int .u32 1797285236), (.int .u32 (k0 : Int)), (.int .u32 (k1 : Int)), (.int .u32 (k2 : Int)), (.int .u32 (k3 : Int)), (.int .u32 (k4 : Int)), (.int .u32 (k5 : Int)), (.int .u32 (k6 : Int)), (.int .u32 (k7 : Int)), u18, (.int .u32 (n0 : Int)), (.int .u32 (n1 : Int)), (.int .u32 (n2 : Int)), u22, u23, u24, u25, (.int .u32 (y0 : Int)), (.int .u32 (y5 : Int)), (.int .u32 (y10 : Int)), (.int .u32 (y15 : Int)), (.int .u32 (y1 : Int)), (.int .u32 (y6 : Int)), (.int .u32 (y11 : Int)), (.int .u32 (y12 : Int)), (.int .u32 (y2 : Int)), (.int .u32 (y7 : Int)), (.int .u32 (y8 : Int)), (.int .u32 (y13 : Int)), (.int .u32 (y3 : Int)), (.int .u32 (y4 : Int)), (.int .u32 (y9 : Int)), (.int .u32 (y14 : Int)), u42] → Arr w' g t' (pre ++ u8s (XM f (m + 40 + 4) l) ++ post) → w.grownBy w' (some g) → K a' w') : (lft (rgtN 16 B70)).wp Tryd.prog (Exit.then K Q) a w := by
  have HK := Lib.hid hK
  have HF := Lib.hid hf
  have HOD := Lib.hid hod
  have HM := Lib.hid hm
  clear hK hf hod hm
  rw [frLit a (.pointer (some ⟨gc, 0, none⟩)) (.slice (some ⟨g, od, none⟩) nr c1) (.slice (some ⟨g, od, none⟩) nr c2) u3 u4 u5 (.int .u32 1634760805) (.int .u32 857760878) (.int .u32 2036477234) (.int .u32 1797285236) (.int .u32 (k0 : Int)) (.int .u32 (k1 : Int)) (.int .u32 (k2 : Int)) (.int .u32 (k3 : Int)) (.int .u32 (k4 : Int)) (.int .u32 (k5 : Int)) (.int .u32 (k6 : Int)) (.int .u32 (k7 : Int)) u18 (.int .u32 (n0 : Int)) (.int .u32 (n1 : Int)) (.int .u32 (n2 : Int)) u22 u23 u24 u25 (.int .u32 (y0 : Int)) (.int .u32 (y5 : Int)) (.int .u32 (y10 : Int)) (.int .u32 (y15 : Int)) (.int .u32 (y1 : Int)) (.int .u32 (y6 : Int)) (.int .u32 (y11 : Int)) (.int .u32 (y12 : Int)) (.int .u32 (y2 : Int)) (.int .u32 (y7 : Int)) (.int .u32 (y8 : Int)) (.int .u32 (y13 : Int)) (.int .u32 (y3 : Int)) (.int .u32 (y4 : Int)) (.int .u32 (y9 : Int)) (.int .u32 (y14 : Int)) u42 hF]
  clear hF
  conv => arg 2; whnf
  have dca : ¬ (c1 = 40) := by omega
  have dcb : ¬ (c2 = 40) := by omega
  have jca : (44 : Int) ≤ (c1 : Int) := by omega
  have jcb : (44 : Int) ≤ (c2 : Int) := by omega
  have hw0 : w.grownBy w.drew (some g) := grown_drewN (World.grownBy.refl w (some g)) 1
  go_wp2_with fail
  refine wp_region_still_tail 6 (by as_aux_lemma => kernel_rfl) (by as_aux_lemma => kernel_rfl) ?_
  change wpStill _ _ w.drew (fun a' => wpList _ _ _ _ a' w.drew) _ _
  have hA : Arr w.drew g t' _ := hA
  skip
  generalize w.drew = t at hA hw0 ⊢
  simp only [List.take_succ_cons, List.take_zero, List.drop_succ_cons, List.drop_zero]
  repeat still_step
  refine wpStill_nil ?_
  go_wp2_with fail
  refine (addXorA t g o (od + 40) _ _ (m + 40) t' pre post l f y10 k6 ly lb (by have := HOD.out; omega) hp (by have := HM.out; omega) (fun j hj => HF.out j hj) hA).mono ?_
  rintro e w2 ⟨rfl, hA2, hg⟩
  go_wp2_with fail
  exact HK.out _ _ ⟨by kernel_rfl, rfl, by kernel_rfl⟩ hA2 (grown_trans' hw0 hg)

set_option maxRecDepth 1000000 in
set_option maxHeartbeats 8000000 in
theorem ax_11 (a : Act) (w : World) (K : Act → World → Prop) (Q : Exit → Act → World → Prop) (u3 u4 u5 u18 u22 u23 u24 u25 u42 : Value) (gc g od nr c1 c2 o m cn : Nat) (k0 k1 k2 k3 k4 k5 k6 k7 n0 n1 n2 : Nat) (y0 y1 y2 y3 y4 y5 y6 y7 y8 y9 y10 y11 y12 y13 y14 y15 : Nat) (t' : TypeId) (pre post : List Value) (l : List UInt8) (f : Nat → UInt8)
    (hF : Fr a [(.pointer (some ⟨gc, 0, none⟩)), (.slice (some ⟨g, od, none⟩) nr c1), (.slice (some ⟨g, od, none⟩) nr c2), u3, u4, u5, (.int .u32 1634760805), (.int .u32 857760878), (.int .u32 2036477234), (.int .u32 1797285236), (.int .u32 (k0 : Int)), (.int .u32 (k1 : Int)), (.int .u32 (k2 : Int)), (.int .u32 (k3 : Int)), (.int .u32 (k4 : Int)), (.int .u32 (k5 : Int)), (.int .u32 (k6 : Int)), (.int .u32 (k7 : Int)), u18, (.int .u32 (n0 : Int)), (.int .u32 (n1 : Int)), (.int .u32 (n2 : Int)), u22, u23, u24, u25, (.int .u32 (y0 : Int)), (.int .u32 (y5 : Int)), (.int .u32 (y10 : Int)), (.int .u32 (y15 : Int)), (.int .u32 (y1 : Int)), (.int .u32 (y6 : Int)), (.int .u32 (y11 : Int)), (.int .u32 (y12 : Int)), (.int .u32 (y2 : Int)), (.int .u32 (y7 : Int)), (.int .u32 (y8 : Int)), (.int .u32 (y13 : Int)), (.int .u32 (y3 : Int)), (.int .u32 (y4 : Int)), (.int .u32 (y9 : Int)), (.int .u32 (y14 : Int)), u42]) (h64 : 64 ≤ nr) (hr1 : nr ≤ c1) (hr2 : nr ≤ c2) (ly : y11 < 4294967296) (lb : k7 < 4294967296) (hod : od = o + m) (hp : pre.length = o) (hm : m + 64 ≤ l.length)
    (hf : ∀ j, j < 4 → f (m + 44 + j) = UInt8.ofNat ((y11 + k7) % 4294967296 / 256 ^ j)) (hA : Arr w g t' (pre ++ u8s (XM f (m + 44) l) ++ post))
    (hK : ∀ a' w', Fr a' [(.pointer (some ⟨gc, 0, none⟩)), (.slice (some ⟨g, od, none⟩) nr c1), (.slice (some ⟨g, od, none⟩) nr c2), u3, u4, u5, (.int .u32 1634760805), (.int .u32 857760878), (.int .u32 2036477234), (.int .u32 1797285236), (.int .u32 (k0 : Int)), (.int .u32 (k1 : Int)), (.int .u32 (k2 : Int)), (.int .u32 (k3 : Int)), (.int .u32 (k4 : Int)), (.int .u32 (k5 : Int)), (.int .u32 (k6 : Int)), (.int .u32 (k7 : Int)), u18, (.int .u32 (n0 : Int)), (.int .u32 (n1 : Int)), (.int .u32 (n2 : Int)), u22, u23, u24, u25, (.int .u32 (y0 : Int)), (.int .u32 (y5 : Int)), (.int .u32 (y10 : Int)), (.int .u32 (y15 : Int)), (.int .u32 (y1 : Int)), (.int .u32 (y6 : Int)), (.int .u32 (y11 : Int)), (.int .u32 (y12 : Int)), (.int .u32 (y2 : Int)), (.int .u32 (y7 : Int)), (.int .u32 (y8 : Int)), (.int .u32 (y13 : Int)), (.int .u32 (y3 : Int)), (.int .u32 (y4 : Int)), (.int .u32 (y9 : Int)), (.int .u32 (y14 : Int)), u42] → Arr w' g t' (pre ++ u8s (XM f (m + 44 + 4) l) ++ post) → w.grownBy w' (some g) → K a' w') : (lft (rgtN 17 B70)).wp Tryd.prog (Exit.then K Q) a w := by
  have HK := Lib.hid hK
  have HF := Lib.hid hf
  have HOD := Lib.hid hod
  have HM := Lib.hid hm
  clear hK hf hod hm
  rw [frLit a (.pointer (some ⟨gc, 0, none⟩)) (.slice (some ⟨g, od, none⟩) nr c1) (.slice (some ⟨g, od, none⟩) nr c2) u3 u4 u5 (.int .u32 1634760805) (.int .u32 857760878) (.int .u32 2036477234) (.int .u32 1797285236) (.int .u32 (k0 : Int)) (.int .u32 (k1 : Int)) (.int .u32 (k2 : Int)) (.int .u32 (k3 : Int)) (.int .u32 (k4 : Int)) (.int .u32 (k5 : Int)) (.int .u32 (k6 : Int)) (.int .u32 (k7 : Int)) u18 (.int .u32 (n0 : Int)) (.int .u32 (n1 : Int)) (.int .u32 (n2 : Int)) u22 u23 u24 u25 (.int .u32 (y0 : Int)) (.int .u32 (y5 : Int)) (.int .u32 (y10 : Int)) (.int .u32 (y15 : Int)) (.int .u32 (y1 : Int)) (.int .u32 (y6 : Int)) (.int .u32 (y11 : Int)) (.int .u32 (y12 : Int)) (.int .u32 (y2 : Int)) (.int .u32 (y7 : Int)) (.int .u32 (y8 : Int)) (.int .u32 (y13 : Int)) (.int .u32 (y3 : Int)) (.int .u32 (y4 : Int)) (.int .u32 (y9 : Int)) (.int .u32 (y14 : Int)) u42 hF]
  clear hF
  conv => arg 2; whnf
  have dca : ¬ (c1 = 44) := by omega
  have dcb : ¬ (c2 = 44) := by omega
  have jca : (48 : Int) ≤ (c1 : Int) := by omega
  have jcb : (48 : Int) ≤ (c2 : Int) := by omega
  have hw0 : w.grownBy w.drew (some g) := grown_drewN (World.grownBy.refl w (some g)) 1
  go_wp2_with fail
  refine wp_region_still_tail 6 (by as_aux_lemma => kernel_rfl) (by as_aux_lemma => kernel_rfl) ?_
  change wpStill _ _ w.drew (fun a' => wpList _ _ _ _ a' w.drew) _ _
  have hA : Arr w.drew g t' _ := hA
  skip
  generalize w.drew = t at hA hw0 ⊢
  simp only [List.take_succ_cons, List.take_zero, List.drop_succ_cons, List.drop_zero]
  repeat still_step
  refine wpStill_nil ?_
  go_wp2_with fail
  refine (addXorA t g o (od + 44) _ _ (m + 44) t' pre post l f y11 k7 ly lb (by have := HOD.out; omega) hp (by have := HM.out; omega) (fun j hj => HF.out j hj) hA).mono ?_
  rintro e w2 ⟨rfl, hA2, hg⟩
  go_wp2_with fail
  exact HK.out _ _ ⟨by kernel_rfl, rfl, by kernel_rfl⟩ hA2 (grown_trans' hw0 hg)

set_option maxRecDepth 1000000 in
set_option maxHeartbeats 8000000 in
theorem ax_12 (a : Act) (w : World) (K : Act → World → Prop) (Q : Exit → Act → World → Prop) (u3 u4 u5 u18 u22 u23 u24 u25 u42 : Value) (gc g od nr c1 c2 o m cn : Nat) (k0 k1 k2 k3 k4 k5 k6 k7 n0 n1 n2 : Nat) (y0 y1 y2 y3 y4 y5 y6 y7 y8 y9 y10 y11 y12 y13 y14 y15 : Nat) (t' : TypeId) (pre post : List Value) (l : List UInt8) (f : Nat → UInt8)
    (hF : Fr a [(.pointer (some ⟨gc, 0, none⟩)), (.slice (some ⟨g, od, none⟩) nr c1), (.slice (some ⟨g, od, none⟩) nr c2), u3, u4, u5, (.int .u32 1634760805), (.int .u32 857760878), (.int .u32 2036477234), (.int .u32 1797285236), (.int .u32 (k0 : Int)), (.int .u32 (k1 : Int)), (.int .u32 (k2 : Int)), (.int .u32 (k3 : Int)), (.int .u32 (k4 : Int)), (.int .u32 (k5 : Int)), (.int .u32 (k6 : Int)), (.int .u32 (k7 : Int)), u18, (.int .u32 (n0 : Int)), (.int .u32 (n1 : Int)), (.int .u32 (n2 : Int)), u22, u23, u24, u25, (.int .u32 (y0 : Int)), (.int .u32 (y5 : Int)), (.int .u32 (y10 : Int)), (.int .u32 (y15 : Int)), (.int .u32 (y1 : Int)), (.int .u32 (y6 : Int)), (.int .u32 (y11 : Int)), (.int .u32 (y12 : Int)), (.int .u32 (y2 : Int)), (.int .u32 (y7 : Int)), (.int .u32 (y8 : Int)), (.int .u32 (y13 : Int)), (.int .u32 (y3 : Int)), (.int .u32 (y4 : Int)), (.int .u32 (y9 : Int)), (.int .u32 (y14 : Int)), u42]) (h64 : 64 ≤ nr) (hr1 : nr ≤ c1) (hr2 : nr ≤ c2) (ly : y12 < 4294967296) (lb : cn < 4294967296) (hod : od = o + m) (hp : pre.length = o) (hm : m + 64 ≤ l.length) (c8 : w.cell? ⟨gc, 8, none⟩ = some (.int .u32 (cn : Int)))
    (hf : ∀ j, j < 4 → f (m + 48 + j) = UInt8.ofNat ((y12 + cn) % 4294967296 / 256 ^ j)) (hA : Arr w g t' (pre ++ u8s (XM f (m + 48) l) ++ post))
    (hK : ∀ a' w', Fr a' [(.pointer (some ⟨gc, 0, none⟩)), (.slice (some ⟨g, od, none⟩) nr c1), (.slice (some ⟨g, od, none⟩) nr c2), u3, u4, u5, (.int .u32 1634760805), (.int .u32 857760878), (.int .u32 2036477234), (.int .u32 1797285236), (.int .u32 (k0 : Int)), (.int .u32 (k1 : Int)), (.int .u32 (k2 : Int)), (.int .u32 (k3 : Int)), (.int .u32 (k4 : Int)), (.int .u32 (k5 : Int)), (.int .u32 (k6 : Int)), (.int .u32 (k7 : Int)), u18, (.int .u32 (n0 : Int)), (.int .u32 (n1 : Int)), (.int .u32 (n2 : Int)), u22, u23, u24, u25, (.int .u32 (y0 : Int)), (.int .u32 (y5 : Int)), (.int .u32 (y10 : Int)), (.int .u32 (y15 : Int)), (.int .u32 (y1 : Int)), (.int .u32 (y6 : Int)), (.int .u32 (y11 : Int)), (.int .u32 (y12 : Int)), (.int .u32 (y2 : Int)), (.int .u32 (y7 : Int)), (.int .u32 (y8 : Int)), (.int .u32 (y13 : Int)), (.int .u32 (y3 : Int)), (.int .u32 (y4 : Int)), (.int .u32 (y9 : Int)), (.int .u32 (y14 : Int)), u42] → Arr w' g t' (pre ++ u8s (XM f (m + 48 + 4) l) ++ post) → w.grownBy w' (some g) → K a' w') : (lft (rgtN 18 B70)).wp Tryd.prog (Exit.then K Q) a w := by
  have HK := Lib.hid hK
  have HF := Lib.hid hf
  have HOD := Lib.hid hod
  have HM := Lib.hid hm
  clear hK hf hod hm
  rw [frLit a (.pointer (some ⟨gc, 0, none⟩)) (.slice (some ⟨g, od, none⟩) nr c1) (.slice (some ⟨g, od, none⟩) nr c2) u3 u4 u5 (.int .u32 1634760805) (.int .u32 857760878) (.int .u32 2036477234) (.int .u32 1797285236) (.int .u32 (k0 : Int)) (.int .u32 (k1 : Int)) (.int .u32 (k2 : Int)) (.int .u32 (k3 : Int)) (.int .u32 (k4 : Int)) (.int .u32 (k5 : Int)) (.int .u32 (k6 : Int)) (.int .u32 (k7 : Int)) u18 (.int .u32 (n0 : Int)) (.int .u32 (n1 : Int)) (.int .u32 (n2 : Int)) u22 u23 u24 u25 (.int .u32 (y0 : Int)) (.int .u32 (y5 : Int)) (.int .u32 (y10 : Int)) (.int .u32 (y15 : Int)) (.int .u32 (y1 : Int)) (.int .u32 (y6 : Int)) (.int .u32 (y11 : Int)) (.int .u32 (y12 : Int)) (.int .u32 (y2 : Int)) (.int .u32 (y7 : Int)) (.int .u32 (y8 : Int)) (.int .u32 (y13 : Int)) (.int .u32 (y3 : Int)) (.int .u32 (y4 : Int)) (.int .u32 (y9 : Int)) (.int .u32 (y14 : Int)) u42 hF]
  clear hF
  conv => arg 2; whnf
  have dca : ¬ (c1 = 48) := by omega
  have dcb : ¬ (c2 = 48) := by omega
  have jca : (52 : Int) ≤ (c1 : Int) := by omega
  have jcb : (52 : Int) ≤ (c2 : Int) := by omega
  have hw0 : w.grownBy w.drew (some g) := grown_drewN (World.grownBy.refl w (some g)) 1
  go_wp2_with fail
  refine wp_region_still_tail 9 (by as_aux_lemma => kernel_rfl) (by as_aux_lemma => kernel_rfl) ?_
  change wpStill _ _ w.drew (fun a' => wpList _ _ _ _ a' w.drew) _ _
  have hA : Arr w.drew g t' _ := hA
  have c8 : w.drew.cell? _ = _ := c8
  generalize w.drew = t at hA hw0 c8 ⊢
  simp only [List.take_succ_cons, List.take_zero, List.drop_succ_cons, List.drop_zero]
  repeat still_step
  refine wpStill_nil ?_
  go_wp2_with fail
  refine (addXorA t g o (od + 48) _ _ (m + 48) t' pre post l f y12 cn ly lb (by have := HOD.out; omega) hp (by have := HM.out; omega) (fun j hj => HF.out j hj) hA).mono ?_
  rintro e w2 ⟨rfl, hA2, hg⟩
  go_wp2_with fail
  exact HK.out _ _ ⟨by kernel_rfl, rfl, by kernel_rfl⟩ hA2 (grown_trans' hw0 hg)

set_option maxRecDepth 1000000 in
set_option maxHeartbeats 8000000 in
theorem ax_13 (a : Act) (w : World) (K : Act → World → Prop) (Q : Exit → Act → World → Prop) (u3 u4 u5 u18 u22 u23 u24 u25 u42 : Value) (gc g od nr c1 c2 o m cn : Nat) (k0 k1 k2 k3 k4 k5 k6 k7 n0 n1 n2 : Nat) (y0 y1 y2 y3 y4 y5 y6 y7 y8 y9 y10 y11 y12 y13 y14 y15 : Nat) (t' : TypeId) (pre post : List Value) (l : List UInt8) (f : Nat → UInt8)
    (hF : Fr a [(.pointer (some ⟨gc, 0, none⟩)), (.slice (some ⟨g, od, none⟩) nr c1), (.slice (some ⟨g, od, none⟩) nr c2), u3, u4, u5, (.int .u32 1634760805), (.int .u32 857760878), (.int .u32 2036477234), (.int .u32 1797285236), (.int .u32 (k0 : Int)), (.int .u32 (k1 : Int)), (.int .u32 (k2 : Int)), (.int .u32 (k3 : Int)), (.int .u32 (k4 : Int)), (.int .u32 (k5 : Int)), (.int .u32 (k6 : Int)), (.int .u32 (k7 : Int)), u18, (.int .u32 (n0 : Int)), (.int .u32 (n1 : Int)), (.int .u32 (n2 : Int)), u22, u23, u24, u25, (.int .u32 (y0 : Int)), (.int .u32 (y5 : Int)), (.int .u32 (y10 : Int)), (.int .u32 (y15 : Int)), (.int .u32 (y1 : Int)), (.int .u32 (y6 : Int)), (.int .u32 (y11 : Int)), (.int .u32 (y12 : Int)), (.int .u32 (y2 : Int)), (.int .u32 (y7 : Int)), (.int .u32 (y8 : Int)), (.int .u32 (y13 : Int)), (.int .u32 (y3 : Int)), (.int .u32 (y4 : Int)), (.int .u32 (y9 : Int)), (.int .u32 (y14 : Int)), u42]) (h64 : 64 ≤ nr) (hr1 : nr ≤ c1) (hr2 : nr ≤ c2) (ly : y13 < 4294967296) (lb : n0 < 4294967296) (hod : od = o + m) (hp : pre.length = o) (hm : m + 64 ≤ l.length)
    (hf : ∀ j, j < 4 → f (m + 52 + j) = UInt8.ofNat ((y13 + n0) % 4294967296 / 256 ^ j)) (hA : Arr w g t' (pre ++ u8s (XM f (m + 52) l) ++ post))
    (hK : ∀ a' w', Fr a' [(.pointer (some ⟨gc, 0, none⟩)), (.slice (some ⟨g, od, none⟩) nr c1), (.slice (some ⟨g, od, none⟩) nr c2), u3, u4, u5, (.int .u32 1634760805), (.int .u32 857760878), (.int .u32 2036477234), (.int .u32 1797285236), (.int .u32 (k0 : Int)), (.int .u32 (k1 : Int)), (.int .u32 (k2 : Int)), (.int .u32 (k3 : Int)), (.int .u32 (k4 : Int)), (.int .u32 (k5 : Int)), (.int .u32 (k6 : Int)), (.int .u32 (k7 : Int)), u18, (.int .u32 (n0 : Int)), (.int .u32 (n1 : Int)), (.int .u32 (n2 : Int)), u22, u23, u24, u25, (.int .u32 (y0 : Int)), (.int .u32 (y5 : Int)), (.int .u32 (y10 : Int)), (.int .u32 (y15 : Int)), (.int .u32 (y1 : Int)), (.int .u32 (y6 : Int)), (.int .u32 (y11 : Int)), (.int .u32 (y12 : Int)), (.int .u32 (y2 : Int)), (.int .u32 (y7 : Int)), (.int .u32 (y8 : Int)), (.int .u32 (y13 : Int)), (.int .u32 (y3 : Int)), (.int .u32 (y4 : Int)), (.int .u32 (y9 : Int)), (.int .u32 (y14 : Int)), u42] → Arr w' g t' (pre ++ u8s (XM f (m + 52 + 4) l) ++ post) → w.grownBy w' (some g) → K a' w') : (lft (rgtN 19 B70)).wp Tryd.prog (Exit.then K Q) a w := by
  have HK := Lib.hid hK
  have HF := Lib.hid hf
  have HOD := Lib.hid hod
  have HM := Lib.hid hm
  clear hK hf hod hm
  rw [frLit a (.pointer (some ⟨gc, 0, none⟩)) (.slice (some ⟨g, od, none⟩) nr c1) (.slice (some ⟨g, od, none⟩) nr c2) u3 u4 u5 (.int .u32 1634760805) (.int .u32 857760878) (.int .u32 2036477234) (.int .u32 1797285236) (.int .u32 (k0 : Int)) (.int .u32 (k1 : Int)) (.int .u32 (k2 : Int)) (.int .u32 (k3 : Int)) (.int .u32 (k4 : Int)) (.int .u32 (k5 : Int)) (.int .u32 (k6 : Int)) (.int .u32 (k7 : Int)) u18 (.int .u32 (n0 : Int)) (.int .u32 (n1 : Int)) (.int .u32 (n2 : Int)) u22 u23 u24 u25 (.int .u32 (y0 : Int)) (.int .u32 (y5 : Int)) (.int .u32 (y10 : Int)) (.int .u32 (y15 : Int)) (.int .u32 (y1 : Int)) (.int .u32 (y6 : Int)) (.int .u32 (y11 : Int)) (.int .u32 (y12 : Int)) (.int .u32 (y2 : Int)) (.int .u32 (y7 : Int)) (.int .u32 (y8 : Int)) (.int .u32 (y13 : Int)) (.int .u32 (y3 : Int)) (.int .u32 (y4 : Int)) (.int .u32 (y9 : Int)) (.int .u32 (y14 : Int)) u42 hF]
  clear hF
  conv => arg 2; whnf
  have dca : ¬ (c1 = 52) := by omega
  have dcb : ¬ (c2 = 52) := by omega
  have jca : (56 : Int) ≤ (c1 : Int) := by omega
  have jcb : (56 : Int) ≤ (c2 : Int) := by omega
  have hw0 : w.grownBy w.drew (some g) := grown_drewN (World.grownBy.refl w (some g)) 1
  go_wp2_with fail
  refine wp_region_still_tail 6 (by as_aux_lemma => kernel_rfl) (by as_aux_lemma => kernel_rfl) ?_
  change wpStill _ _ w.drew (fun a' => wpList _ _ _ _ a' w.drew) _ _
  have hA : Arr w.drew g t' _ := hA
  skip
  generalize w.drew = t at hA hw0 ⊢
  simp only [List.take_succ_cons, List.take_zero, List.drop_succ_cons, List.drop_zero]
  repeat still_step
  refine wpStill_nil ?_
  go_wp2_with fail
  refine (addXorA t g o (od + 52) _ _ (m + 52) t' pre post l f y13 n0 ly lb (by have := HOD.out; omega) hp (by have := HM.out; omega) (fun j hj => HF.out j hj) hA).mono ?_
  rintro e w2 ⟨rfl, hA2, hg⟩
  go_wp2_with fail
  exact HK.out _ _ ⟨by kernel_rfl, rfl, by kernel_rfl⟩ hA2 (grown_trans' hw0 hg)

set_option maxRecDepth 1000000 in
set_option maxHeartbeats 8000000 in
theorem ax_14 (a : Act) (w : World) (K : Act → World → Prop) (Q : Exit → Act → World → Prop) (u3 u4 u5 u18 u22 u23 u24 u25 u42 : Value) (gc g od nr c1 c2 o m cn : Nat) (k0 k1 k2 k3 k4 k5 k6 k7 n0 n1 n2 : Nat) (y0 y1 y2 y3 y4 y5 y6 y7 y8 y9 y10 y11 y12 y13 y14 y15 : Nat) (t' : TypeId) (pre post : List Value) (l : List UInt8) (f : Nat → UInt8)
    (hF : Fr a [(.pointer (some ⟨gc, 0, none⟩)), (.slice (some ⟨g, od, none⟩) nr c1), (.slice (some ⟨g, od, none⟩) nr c2), u3, u4, u5, (.int .u32 1634760805), (.int .u32 857760878), (.int .u32 2036477234), (.int .u32 1797285236), (.int .u32 (k0 : Int)), (.int .u32 (k1 : Int)), (.int .u32 (k2 : Int)), (.int .u32 (k3 : Int)), (.int .u32 (k4 : Int)), (.int .u32 (k5 : Int)), (.int .u32 (k6 : Int)), (.int .u32 (k7 : Int)), u18, (.int .u32 (n0 : Int)), (.int .u32 (n1 : Int)), (.int .u32 (n2 : Int)), u22, u23, u24, u25, (.int .u32 (y0 : Int)), (.int .u32 (y5 : Int)), (.int .u32 (y10 : Int)), (.int .u32 (y15 : Int)), (.int .u32 (y1 : Int)), (.int .u32 (y6 : Int)), (.int .u32 (y11 : Int)), (.int .u32 (y12 : Int)), (.int .u32 (y2 : Int)), (.int .u32 (y7 : Int)), (.int .u32 (y8 : Int)), (.int .u32 (y13 : Int)), (.int .u32 (y3 : Int)), (.int .u32 (y4 : Int)), (.int .u32 (y9 : Int)), (.int .u32 (y14 : Int)), u42]) (h64 : 64 ≤ nr) (hr1 : nr ≤ c1) (hr2 : nr ≤ c2) (ly : y14 < 4294967296) (lb : n1 < 4294967296) (hod : od = o + m) (hp : pre.length = o) (hm : m + 64 ≤ l.length)
    (hf : ∀ j, j < 4 → f (m + 56 + j) = UInt8.ofNat ((y14 + n1) % 4294967296 / 256 ^ j)) (hA : Arr w g t' (pre ++ u8s (XM f (m + 56) l) ++ post))
    (hK : ∀ a' w', Fr a' [(.pointer (some ⟨gc, 0, none⟩)), (.slice (some ⟨g, od, none⟩) nr c1), (.slice (some ⟨g, od, none⟩) nr c2), u3, u4, u5, (.int .u32 1634760805), (.int .u32 857760878), (.int .u32 2036477234), (.int .u32 1797285236), (.int .u32 (k0 : Int)), (.int .u32 (k1 : Int)), (.int .u32 (k2 : Int)), (.int .u32 (k3 : Int)), (.int .u32 (k4 : Int)), (.int .u32 (k5 : Int)), (.int .u32 (k6 : Int)), (.int .u32 (k7 : Int)), u18, (.int .u32 (n0 : Int)), (.int .u32 (n1 : Int)), (.int .u32 (n2 : Int)), u22, u23, u24, u25, (.int .u32 (y0 : Int)), (.int .u32 (y5 : Int)), (.int .u32 (y10 : Int)), (.int .u32 (y15 : Int)), (.int .u32 (y1 : Int)), (.int .u32 (y6 : Int)), (.int .u32 (y11 : Int)), (.int .u32 (y12 : Int)), (.int .u32 (y2 : Int)), (.int .u32 (y7 : Int)), (.int .u32 (y8 : Int)), (.int .u32 (y13 : Int)), (.int .u32 (y3 : Int)), (.int .u32 (y4 : Int)), (.int .u32 (y9 : Int)), (.int .u32 (y14 : Int)), u42] → Arr w' g t' (pre ++ u8s (XM f (m + 56 + 4) l) ++ post) → w.grownBy w' (some g) → K a' w') : (lft (rgtN 20 B70)).wp Tryd.prog (Exit.then K Q) a w := by
  have HK := Lib.hid hK
  have HF := Lib.hid hf
  have HOD := Lib.hid hod
  have HM := Lib.hid hm
  clear hK hf hod hm
  rw [frLit a (.pointer (some ⟨gc, 0, none⟩)) (.slice (some ⟨g, od, none⟩) nr c1) (.slice (some ⟨g, od, none⟩) nr c2) u3 u4 u5 (.int .u32 1634760805) (.int .u32 857760878) (.int .u32 2036477234) (.int .u32 1797285236) (.int .u32 (k0 : Int)) (.int .u32 (k1 : Int)) (.int .u32 (k2 : Int)) (.int .u32 (k3 : Int)) (.int .u32 (k4 : Int)) (.int .u32 (k5 : Int)) (.int .u32 (k6 : Int)) (.int .u32 (k7 : Int)) u18 (.int .u32 (n0 : Int)) (.int .u32 (n1 : Int)) (.int .u32 (n2 : Int)) u22 u23 u24 u25 (.int .u32 (y0 : Int)) (.int .u32 (y5 : Int)) (.int .u32 (y10 : Int)) (.int .u32 (y15 : Int)) (.int .u32 (y1 : Int)) (.int .u32 (y6 : Int)) (.int .u32 (y11 : Int)) (.int .u32 (y12 : Int)) (.int .u32 (y2 : Int)) (.int .u32 (y7 : Int)) (.int .u32 (y8 : Int)) (.int .u32 (y13 : Int)) (.int .u32 (y3 : Int)) (.int .u32 (y4 : Int)) (.int .u32 (y9 : Int)) (.int .u32 (y14 : Int)) u42 hF]
  clear hF
  conv => arg 2; whnf
  have dca : ¬ (c1 = 56) := by omega
  have dcb : ¬ (c2 = 56) := by omega
  have jca : (60 : Int) ≤ (c1 : Int) := by omega
  have jcb : (60 : Int) ≤ (c2 : Int) := by omega
  have hw0 : w.grownBy w.drew (some g) := grown_drewN (World.grownBy.refl w (some g)) 1
  go_wp2_with fail
  refine wp_region_still_tail 6 (by as_aux_lemma => kernel_rfl) (by as_aux_lemma => kernel_rfl) ?_
  change wpStill _ _ w.drew (fun a' => wpList _ _ _ _ a' w.drew) _ _
  have hA : Arr w.drew g t' _ := hA
  skip
  generalize w.drew = t at hA hw0 ⊢
  simp only [List.take_succ_cons, List.take_zero, List.drop_succ_cons, List.drop_zero]
  repeat still_step
  refine wpStill_nil ?_
  go_wp2_with fail
  refine (addXorA t g o (od + 56) _ _ (m + 56) t' pre post l f y14 n1 ly lb (by have := HOD.out; omega) hp (by have := HM.out; omega) (fun j hj => HF.out j hj) hA).mono ?_
  rintro e w2 ⟨rfl, hA2, hg⟩
  go_wp2_with fail
  exact HK.out _ _ ⟨by kernel_rfl, rfl, by kernel_rfl⟩ hA2 (grown_trans' hw0 hg)

set_option maxRecDepth 1000000 in
set_option maxHeartbeats 8000000 in
theorem ax_15 (a : Act) (w : World) (K : Act → World → Prop) (Q : Exit → Act → World → Prop) (u3 u4 u5 u18 u22 u23 u24 u25 u42 : Value) (gc g od nr c1 c2 o m cn : Nat) (k0 k1 k2 k3 k4 k5 k6 k7 n0 n1 n2 : Nat) (y0 y1 y2 y3 y4 y5 y6 y7 y8 y9 y10 y11 y12 y13 y14 y15 : Nat) (t' : TypeId) (pre post : List Value) (l : List UInt8) (f : Nat → UInt8)
    (hF : Fr a [(.pointer (some ⟨gc, 0, none⟩)), (.slice (some ⟨g, od, none⟩) nr c1), (.slice (some ⟨g, od, none⟩) nr c2), u3, u4, u5, (.int .u32 1634760805), (.int .u32 857760878), (.int .u32 2036477234), (.int .u32 1797285236), (.int .u32 (k0 : Int)), (.int .u32 (k1 : Int)), (.int .u32 (k2 : Int)), (.int .u32 (k3 : Int)), (.int .u32 (k4 : Int)), (.int .u32 (k5 : Int)), (.int .u32 (k6 : Int)), (.int .u32 (k7 : Int)), u18, (.int .u32 (n0 : Int)), (.int .u32 (n1 : Int)), (.int .u32 (n2 : Int)), u22, u23, u24, u25, (.int .u32 (y0 : Int)), (.int .u32 (y5 : Int)), (.int .u32 (y10 : Int)), (.int .u32 (y15 : Int)), (.int .u32 (y1 : Int)), (.int .u32 (y6 : Int)), (.int .u32 (y11 : Int)), (.int .u32 (y12 : Int)), (.int .u32 (y2 : Int)), (.int .u32 (y7 : Int)), (.int .u32 (y8 : Int)), (.int .u32 (y13 : Int)), (.int .u32 (y3 : Int)), (.int .u32 (y4 : Int)), (.int .u32 (y9 : Int)), (.int .u32 (y14 : Int)), u42]) (h64 : 64 ≤ nr) (hr1 : nr ≤ c1) (hr2 : nr ≤ c2) (ly : y15 < 4294967296) (lb : n2 < 4294967296) (hod : od = o + m) (hp : pre.length = o) (hm : m + 64 ≤ l.length)
    (hf : ∀ j, j < 4 → f (m + 60 + j) = UInt8.ofNat ((y15 + n2) % 4294967296 / 256 ^ j)) (hA : Arr w g t' (pre ++ u8s (XM f (m + 60) l) ++ post))
    (hK : ∀ a' w', Fr a' [(.pointer (some ⟨gc, 0, none⟩)), (.slice (some ⟨g, od, none⟩) nr c1), (.slice (some ⟨g, od, none⟩) nr c2), u3, u4, u5, (.int .u32 1634760805), (.int .u32 857760878), (.int .u32 2036477234), (.int .u32 1797285236), (.int .u32 (k0 : Int)), (.int .u32 (k1 : Int)), (.int .u32 (k2 : Int)), (.int .u32 (k3 : Int)), (.int .u32 (k4 : Int)), (.int .u32 (k5 : Int)), (.int .u32 (k6 : Int)), (.int .u32 (k7 : Int)), u18, (.int .u32 (n0 : Int)), (.int .u32 (n1 : Int)), (.int .u32 (n2 : Int)), u22, u23, u24, u25, (.int .u32 (y0 : Int)), (.int .u32 (y5 : Int)), (.int .u32 (y10 : Int)), (.int .u32 (y15 : Int)), (.int .u32 (y1 : Int)), (.int .u32 (y6 : Int)), (.int .u32 (y11 : Int)), (.int .u32 (y12 : Int)), (.int .u32 (y2 : Int)), (.int .u32 (y7 : Int)), (.int .u32 (y8 : Int)), (.int .u32 (y13 : Int)), (.int .u32 (y3 : Int)), (.int .u32 (y4 : Int)), (.int .u32 (y9 : Int)), (.int .u32 (y14 : Int)), u42] → Arr w' g t' (pre ++ u8s (XM f (m + 60 + 4) l) ++ post) → w.grownBy w' (some g) → K a' w') : (lft (rgtN 21 B70)).wp Tryd.prog (Exit.then K Q) a w := by
  have HK := Lib.hid hK
  have HF := Lib.hid hf
  have HOD := Lib.hid hod
  have HM := Lib.hid hm
  clear hK hf hod hm
  rw [frLit a (.pointer (some ⟨gc, 0, none⟩)) (.slice (some ⟨g, od, none⟩) nr c1) (.slice (some ⟨g, od, none⟩) nr c2) u3 u4 u5 (.int .u32 1634760805) (.int .u32 857760878) (.int .u32 2036477234) (.int .u32 1797285236) (.int .u32 (k0 : Int)) (.int .u32 (k1 : Int)) (.int .u32 (k2 : Int)) (.int .u32 (k3 : Int)) (.int .u32 (k4 : Int)) (.int .u32 (k5 : Int)) (.int .u32 (k6 : Int)) (.int .u32 (k7 : Int)) u18 (.int .u32 (n0 : Int)) (.int .u32 (n1 : Int)) (.int .u32 (n2 : Int)) u22 u23 u24 u25 (.int .u32 (y0 : Int)) (.int .u32 (y5 : Int)) (.int .u32 (y10 : Int)) (.int .u32 (y15 : Int)) (.int .u32 (y1 : Int)) (.int .u32 (y6 : Int)) (.int .u32 (y11 : Int)) (.int .u32 (y12 : Int)) (.int .u32 (y2 : Int)) (.int .u32 (y7 : Int)) (.int .u32 (y8 : Int)) (.int .u32 (y13 : Int)) (.int .u32 (y3 : Int)) (.int .u32 (y4 : Int)) (.int .u32 (y9 : Int)) (.int .u32 (y14 : Int)) u42 hF]
  clear hF
  conv => arg 2; whnf
  have dca : ¬ (c1 = 60) := by omega
  have dcb : ¬ (c2 = 60) := by omega
  have jca : (64 : Int) ≤ (c1 : Int) := by omega
  have jcb : (64 : Int) ≤ (c2 : Int) := by omega
  have hw0 : w.grownBy w.drew (some g) := grown_drewN (World.grownBy.refl w (some g)) 1
  go_wp2_with fail
  refine wp_region_still_tail 6 (by as_aux_lemma => kernel_rfl) (by as_aux_lemma => kernel_rfl) ?_
  change wpStill _ _ w.drew (fun a' => wpList _ _ _ _ a' w.drew) _ _
  have hA : Arr w.drew g t' _ := hA
  skip
  generalize w.drew = t at hA hw0 ⊢
  simp only [List.take_succ_cons, List.take_zero, List.drop_succ_cons, List.drop_zero]
  repeat still_step
  refine wpStill_nil ?_
  go_wp2_with fail
  refine (addXorA t g o (od + 60) _ _ (m + 60) t' pre post l f y15 n2 ly lb (by have := HOD.out; omega) hp (by have := HM.out; omega) (fun j hj => HF.out j hj) hA).mono ?_
  rintro e w2 ⟨rfl, hA2, hg⟩
  go_wp2_with fail
  exact HK.out _ _ ⟨by kernel_rfl, rfl, by kernel_rfl⟩ hA2 (grown_trans' hw0 hg)

end Go.Proofs.YtkocgogpbammaaaDoor

/- The walks of bech32.verifyChecksum and bech32.createChecksum, and what they compute. Conditions: a name of ASCII signs, numbers of five bits, each at most 2^32. -/
import Derived.Test.YthjminkkmljjhaaGreatDoorBPm
import Derived.Test.YthjminkkmljjhaaGreatDoorBexp
import Derived.Test.YthjminkkmljjhaaGreatDoorBc58
namespace Go.Proofs.YthjminkkmljjhaaGreatDoor
open Go.RowKit

/-- What the checksum is reckoned over. -/
def sumOver (n d : List UInt8) : List Nat := (expand8 n).map UInt8.toNat ++ d.map UInt8.toNat
def six8 (m : Nat) : List UInt8 := (Bp.sixOf m).map UInt8.ofNat

theorem below_gens {w w1 : World} {B : Nat} (h : Gens w) (hb : Below B w w1) (hB : 0 < B) : Gens w1 := h.below hb hB

theorem expand8_length (l : List UInt8) : (expand8 l).length = 2 * l.length + 1 := by simp [expand8]; omega

set_option maxRecDepth 100000 in
set_option maxHeartbeats 400000 in
theorem verify_any (w : World) (s : ByteArray) (hs : s.size ≤ 4294967296) (hascii : ∀ (j : Nat) (b : UInt8), s.data.toList[j]? = some b → b.toNat < 128)
    (a : Option Addr) (cap : Nat) (d : List UInt8) (hd : d.length ≤ 17179869184) (ha : At w a (u8s d)) (hg : Gens w) (h0 : 0 < w.heap.size) :
    Calls Tryz.prog 33 #[.string s, .slice a d.length cap] w fun e w' => e = .returned (.bool (((Bp.pm 1 (sumOver (Lib.toLowerA s.data.toList) d) : Int)) == 1)) ∧ Below w.heap.size w w' := by
  have HA := Lib.hid hascii; clear hascii
  have hlen : (Lib.toLowerA s.data.toList).length ≤ 4294967296 := by rw [toLowerA_length, Array.length_toList]; exact hs
  have HG := Lib.hid hg; clear hg
  go_enter Tryz.func33, Tryz.ntmps33
  go_wp2_with (first
    | (go_at_call 53; refine (expand_any _ _ hs HA.out).mono ?_; rintro e w1 ⟨v1, rfl, hown1, hb1⟩)
    | (at_builtin; refine wpList_appendN sty8 rfl _ _ rfl w.heap.size _ _ rfl hown1 _ (u8s d) _ _ rfl (u8s_length d) (ha.below hb1) (u8s_oneCell d) ?c1 ?c2 hb1.size ?_; rotate_right; intro v2 w2 hown2 hgr2))
  case c1 => simp [expand8_length]; omega
  case c2 => simp [expand8_length, maxLen]; omega
  have hb2 := below_grown hb1 hown1 hgr2 (Nat.le_refl _) hb1.size
  obtain ⟨a2, cap2, rfl, _, hat2, _⟩ := hown2.at
  rw [← u8s_append] at hat2 ⊢
  rw [u8s_length]
  refine (polymod_any _ _ _ _ (by simp [expand8_length]; omega) hat2 (below_gens HG.out hb2 h0)).mono ?_
  rintro e w3 ⟨rfl, rfl⟩
  rw [List.map_append]
  have e1 : (expand8 (Lib.toLowerA s.data.toList)).map UInt8.toNat ++ d.map UInt8.toNat = sumOver (Lib.toLowerA s.data.toList) d := rfl
  rw [e1]
  clear e1 hown1 hown2 hgr2 hat2
  go_wp2
  go_ret
  exact ⟨rfl, hb2⟩

theorem sumOver_lt (n d : List UInt8) : ∀ x ∈ sumOver n d, x < 1073741824 := by
  intro x hx
  simp only [sumOver, List.mem_append, List.mem_map] at hx
  rcases hx with ⟨y, _, rfl⟩ | ⟨y, _, rfl⟩ <;> have := UInt8.toNat_lt y <;> omega

set_option maxRecDepth 100000 in
set_option maxHeartbeats 400000 in
theorem create_any (w : World) (s : ByteArray) (hs : s.size ≤ 4294967296) (hascii : ∀ (j : Nat) (b : UInt8), s.data.toList[j]? = some b → b.toNat < 128)
    (a : Option Addr) (cap : Nat) (d : List UInt8) (hd : d.length ≤ 17179869184) (ha : At w a (u8s d)) (hg : Gens w) (h0 : 0 < w.heap.size) :
    Calls Tryz.prog 38 #[.string s, .slice a d.length cap] w fun e w' => ∃ v, e = .returned v ∧
      Own w' w.heap.size 5 v (u8s (six8 (Bp.pm 1 (sumOver (Lib.toLowerA s.data.toList) d ++ [0, 0, 0, 0, 0, 0]) ^^^ 1))) ∧ Below w.heap.size w w' := by
  have HA := Lib.hid hascii; clear hascii
  have hlen : (Lib.toLowerA s.data.toList).length ≤ 4294967296 := by rw [toLowerA_length, Array.length_toList]; exact hs
  have HG := Lib.hid hg; clear hg
  go_enter Tryz.func38, Tryz.ntmps38
  go_wp2_with (first
    | (go_at_call 53; refine (expand_any _ _ hs HA.out).mono ?_; rintro e w1 ⟨v1, rfl, hown1, hb1⟩)
    | (at_builtin; refine wpList_appendN sty8 rfl (.tmp 11) (.tmp 12) rfl w.heap.size _ _ rfl hown1 _ (u8s d) _ _ rfl (u8s_length d) (ha.below hb1) (u8s_oneCell d) ?c1 ?c2 hb1.size ?_; rotate_right; intro v2 w2 hown2 hgr2; have hb2 := below_grown hb1 hown1 hgr2 (Nat.le_refl _) hb1.size)
    | (at_builtin; refine wpList_appendL sty8 rfl (.tmp 14) (.tmp 15) rfl w.heap.size _ _ rfl hown2 _ _ _ rfl rfl ?c3 ?c4 ?c5 hb2.size ?_; rotate_right; intro v3 w3 hown3 hgr3; have hb3 := below_grown hb2 hown2 hgr3 (Nat.le_refl _) hb2.size))
  case c1 => simp [expand8_length]; omega
  case c2 => simp [expand8_length, maxLen]; omega
  case c3 => intro u hu; simp at hu; rw [hu]; rfl
  case c4 => simp [expand8_length]; omega
  case c5 => simp [expand8_length, maxLen]; omega
  obtain ⟨a3, cap3, rfl, _, hat3, _⟩ := hown3.at
  have e0 : u8s (expand8 (Lib.toLowerA s.data.toList)) ++ u8s d ++ [Value.int .u8 0, .int .u8 0, .int .u8 0, .int .u8 0, .int .u8 0, .int .u8 0] = u8s (expand8 (Lib.toLowerA s.data.toList) ++ d ++ [0, 0, 0, 0, 0, 0]) := by
    rw [u8s_append, u8s_append]; rfl
  rw [e0] at hat3 ⊢
  rw [u8s_length]
  refine (polymod_any _ _ _ _ (by simp [expand8_length]; omega) hat3 (below_gens HG.out hb3 h0)).mono ?_
  rintro e w4 ⟨rfl, rfl⟩
  have e1 : (expand8 (Lib.toLowerA s.data.toList) ++ d ++ [0, 0, 0, 0, 0, 0]).map UInt8.toNat = sumOver (Lib.toLowerA s.data.toList) d ++ [0, 0, 0, 0, 0, 0] := by
    rw [List.map_append, List.map_append]; rfl
  rw [e1]
  have hM : Bp.pm 1 (sumOver (Lib.toLowerA s.data.toList) d ++ [0, 0, 0, 0, 0, 0]) < 1073741824 :=
    Bp.pm_lt _ _ (by decide) fun x hx => by
      rcases List.mem_append.1 hx with h | h
      · exact sumOver_lt _ _ x h
      · simp at h; omega
  generalize hqe : Bp.pm 1 (sumOver (Lib.toLowerA s.data.toList) d ++ [0, 0, 0, 0, 0, 0]) = q at *
  have HQ := Lib.hid hqe; clear hqe
  have hq1 : q ^^^ 1 < 1073741824 := Bp.xor_lt30 hM (by omega)
  have ex : bits BinOp.xor IntKind.u32 (q : Int) 1 = ((q ^^^ 1 : Nat) : Int) := u32_xor_nat q 1 (by omega) (by omega)
  have hsz3 : w.heap.size ≤ w4.heap.size := hb3.size
  generalize hme : q ^^^ 1 = M at *
  have HME := Lib.hid hme; clear hme
  clear e1 e0 hown1 hown2 hgr2 hgr3 hown3 hat3
  go_wp2_with (at_make; refine wpList_makeN sty8 rfl _ _ rfl w.heap.size 6 .i64 .i64 _ _ rfl rfl rfl rfl (by decide) (by decide) hsz3 ?_; intro g w5 hown5 hg5)
  have hb5 : Below w.heap.size w w5 := hb3.grown hg5 hsz3 (fun k h => by cases h)
  clear ex hg5
  go_loopw [8, 9, 23] (fun _ _ i wr => ∃ (p : Nat) (vs : List Value), p ≤ 6 ∧ i = .int .i64 p ∧ vs.length = 6 ∧ Hid (∀ j, j < p → vs[j]? = some (.int .u8 ((M / 2 ^ (5 * (5 - j)) % 32 : Nat) : Int))) ∧ Own wr w.heap.size 5 (.slice (some ⟨g, 0, none⟩) 6 6) vs ∧ Below w.heap.size w wr)
    (fun _ _ i _ => 6 - (intOf i).toNat)
  case atStart => exact ⟨0, _, by omega, rfl, rfl, (fun j h => by omega), hown5, hb5⟩
  case round =>
    clear hown5 hb5 hb3 hsz3
    obtain ⟨p, vs, hp, rfl, hvl, HV, hown, hbel⟩ := hrel
    by_cases hp6 : p < 6
    · obtain ⟨u, hcell⟩ : ∃ u, wr.cell? ⟨g, p, none⟩ = some u := ⟨_, hown.cellAt p (by omega)⟩
      have hfro := hown.frozenAt p (by omega)
      have HL := Lib.hid hvl; clear hvl
      have hgB := (hown.atS.2.2.2 g 0 none rfl).1
      go_wp2
      go_roundw
      case rel =>
        refine ⟨p + 1, vs.set p (.int .u8 ((M : Int) / 2 ^ (5 * (5 - p)) % 32)), by omega, by go_num, by rw [List.length_set]; exact HL.out, ?_, hown.set p _ (by have := HL.out; omega), hbel.setCell (by exact hgB) _⟩
        intro j hj
        by_cases hjp : j = p
        · subst hjp
          rw [List.getElem?_set_self (by have := HL.out; omega)]
          simp
        · rw [List.getElem?_set_ne (by omega)]
          exact HV.out j (by omega)
      case measure => simp [intOf]; omega
    · have hp5 : p = 6 := by omega
      have HP := Lib.hid hp5; clear hp5
      have HL := Lib.hid hvl; clear hvl
      have e : vs = u8s (six8 M) := by
        refine List.ext_getElem? fun j => ?_
        by_cases hj : j < 6
        · rw [HV.out j (by rw [HP.out]; exact hj)]
          rcases (show j = 0 ∨ j = 1 ∨ j = 2 ∨ j = 3 ∨ j = 4 ∨ j = 5 by omega) with rfl | rfl | rfl | rfl | rfl | rfl <;> simp [u8s, six8, Bp.sixOf] <;> omega
        · rw [List.getElem?_eq_none (by rw [HL.out]; omega), List.getElem?_eq_none (by simp [six8, Bp.sixOf]; omega)]
      have HE := Lib.hid e; clear e
      go_wp2
      go_ret
      exact ⟨_, rfl, by rw [HQ.out, HME.out, ← HE.out]; exact hown, hbel⟩
end Go.Proofs.YthjminkkmljjhaaGreatDoor

/- The walk of spec.Bech32. Conditions: sizes. -/
import Derived.Test.YthjminkkmljjhaaGreatDoorBtext
import Derived.Test.YthjminkkmljjhaaGreatDoorSfives
import Derived.Test.YthjminkkmljjhaaGreatDoorSpm
namespace Go.Proofs.YthjminkkmljjhaaGreatDoor
open Go.RowKit

set_option maxRecDepth 100000 in
set_option maxHeartbeats 1000000 in
theorem sbech32_any (w : World) (n : List UInt8) (a : Option Addr) (cap : Nat) (b : List UInt8) (hn : n.length ≤ 268435456) (hb : b.length ≤ 268435456) (ha : At w a (u8s b)) :
    Calls Tryz.prog 13 #[.string ⟨n.toArray⟩, .slice a b.length cap] w fun e w' => e = .returned (.string ⟨(text n b).toArray⟩) ∧ Below w.heap.size w w' := by
  go_enter Tryz.func13, Tryz.ntmps13
  go_wp2
  go_loopw [5, 6] (fun v i wr => ∃ k : Nat, k ≤ n.length ∧ i = .int .i64 (k : Int) ∧ Own wr w.heap.size 3 v (i64s ((n.take k).map fun b => b.toNat / 32)) ∧ Below w.heap.size w wr)
    (fun _ i _ => n.length - (intOf i).toNat)
  case atStart => exact ⟨0, Nat.zero_le _, rfl, by simpa [i64s] using Own.empty w _ _ (Nat.le_refl _), (Below.refl _ _).alloc (Nat.le_refl _) _⟩
  case round =>
    obtain ⟨k, hk, rfl, hown, hbel⟩ := hrel
    have hsz := hbel.size
    by_cases hlt : k < n.length
    · have hw : wrap64 (n[k].toNat : Int) = (n[k].toNat : Int) := by have := UInt8.toNat_lt n[k]; unfold wrap64; omega
      go_wp2_with (at_builtin; refine wpList_append1 sty64 rfl _ _ rfl w.heap.size _ _ rfl hown _ _ rfl rfl ?c1 ?c2 hsz ?_)
      case c1 => simp; omega
      case c2 => simp [maxLen]; omega
      intro v' w1 hown' hgr
      have hb1 := below_grown hbel hown hgr (Nat.le_refl _) hsz
      clear hown hgr hbel
      go_wp2
      go_roundw
      case rel =>
        refine ⟨k + 1, by omega, by go_num, ?_, hb1⟩
        rw [List.take_succ_eq_append_getElem hlt, List.map_append, i64s_append]
        simpa [i64s] using hown'
      case measure => simp [intOf]; omega
    · have hkn : k = n.length := by omega
      subst hkn
      rw [List.take_length] at hown
      go_wp2_with (at_builtin; refine wpList_append1 sty64 rfl _ _ rfl w.heap.size _ _ rfl hown _ _ rfl rfl ?c1 ?c2 hsz ?_)
      case c1 => simp; omega
      case c2 => simp [maxLen]; omega
      intro v1 w1 hown1 hgr1
      have hb1 := below_grown hbel hown hgr1 (Nat.le_refl _) hsz
      have hsz1 := hb1.size
      clear hown hgr1 hbel hlt
      go_wp2
      go_loopw [5, 7] (fun v i wr => ∃ k : Nat, k ≤ n.length ∧ i = .int .i64 (k : Int) ∧ Own wr w.heap.size 3 v (i64s ((n.map fun b => b.toNat / 32) ++ 0 :: (n.take k).map fun b => b.toNat % 32)) ∧ Below w.heap.size w wr)
        (fun _ i _ => n.length - (intOf i).toNat)
      case atStart => exact ⟨0, Nat.zero_le _, rfl, by simpa [i64s] using hown1, hb1⟩
      case round =>
        obtain ⟨k, hk, rfl, hown, hbel⟩ := hrel
        have hsz := hbel.size
        by_cases hlt : k < n.length
        · have hw : wrap64 (n[k].toNat : Int) = (n[k].toNat : Int) := by have := UInt8.toNat_lt n[k]; unfold wrap64; omega
          have e1 : bits BinOp.and IntKind.i64 ((n[k].toNat : Int)) 31 = ((n[k].toNat % 32 : Nat) : Int) := by
            have := UInt8.toNat_lt n[k]
            rw [show (31 : Int) = ((31 : Nat) : Int) from rfl, i64_and_nat _ 31 (by omega) (by omega), Nat.and_two_pow_sub_one_eq_mod _ 5]
          push_cast at e1
          go_wp2_with (at_builtin; refine wpList_append1 sty64 rfl _ _ rfl w.heap.size _ _ rfl hown _ _ rfl rfl ?c1 ?c2 hsz ?_)
          case c1 => simp; omega
          case c2 => simp [maxLen]; omega
          intro v' w1 hown' hgr
          have hb1 := below_grown hbel hown hgr (Nat.le_refl _) hsz
          clear hown hgr hbel
          go_wp2
          go_roundw
          case rel =>
            refine ⟨k + 1, by omega, by go_num, ?_, hb1⟩
            rw [List.take_succ_eq_append_getElem hlt, List.map_append, ← List.cons_append, ← List.append_assoc, i64s_append]
            simpa [i64s] using hown'
          case measure => simp [intOf]; omega
        · have hkn : k = n.length := by omega
          subst hkn
          rw [List.take_length] at hown
          clear hlt hown1 hb1
          have hl1 : i64s (n.map (fun b => b.toNat / 32) ++ 0 :: n.map fun b => b.toNat % 32) = i64s ((expand8 n).map UInt8.toNat) := by
            unfold expand8; rw [List.map_append, List.map_cons, List.map_map, List.map_map]; simp [i64s, Function.comp_def]
          rw [hl1] at hown
          have hel : ((expand8 n).map UInt8.toNat).length ≤ 8589934593 := by rw [List.length_map, expand8_length]; omega
          have hfl : (Bp.fives (b.map UInt8.toNat)).length ≤ 8589934593 := by rw [Bp.fives_length, List.length_map]; unfold Bp.fiveCount; omega
          have HF := Lib.hid (fives8_nat b)
          have HS6 := Lib.hid (six8_nat (Bp.pm 1 (sumOver n (fives8 b) ++ [0, 0, 0, 0, 0, 0]) ^^^ 1))
          generalize hee : (expand8 n).map UInt8.toNat = ee at *
          have HEE := Lib.hid hee; clear hee hl1
          have hexl : ee.length + (Bp.fives (b.map UInt8.toNat)).length + 6 ≤ 17592186044416 := by omega
          obtain ⟨a5, cap5, rfl, _, hat5, _⟩ := hown.at
          rw [i64s_length]
          clear hown
          go_wp2_with (first
            | (go_at_call 20; refine (sfives_any _ a cap b (by omega) (ha.below hbel)).mono ?_; rintro e w2 ⟨v2, rfl, hown2, hb2⟩; obtain ⟨a2, cap2, rfl, hnil2, hat2, hlt2⟩ := hown2.at; rw [i64s_length] at hown2 ⊢; have hsz2 := hb2.size; have hat5' := (hat5.below hb2).below (Below.alloc (Below.refl _ _) (Nat.le_refl _) (.cells #[] 3)); have hat2' := hat2.below (Below.alloc (Below.refl _ _) (Nat.le_refl _) (.cells #[] 3)))
            | (at_builtin; refine wpList_appendN sty64 rfl (.tmp 48) (.tmp 49) rfl w2.heap.size _ _ rfl (Own.empty w2 w2.heap.size _ (Nat.le_refl _)) _ (i64s ee) _ _ rfl (i64s_length _) hat5' (i64s_oneCell _) ?e3 ?e4 ?e5 ?_; rotate_right; intro v3 w3 hown3 hgr3; have hb3 := below_grown (Below.alloc (Below.refl _ _) (Nat.le_refl _) (.cells #[] 3)) (Own.empty w2 w2.heap.size 3 (Nat.le_refl _)) hgr3 (Nat.le_refl _) (by simp))
            | (at_builtin; refine wpList_appendN sty64 rfl (.tmp 50) (.tmp 51) rfl w2.heap.size _ _ rfl hown3 _ (i64s (Bp.fives (b.map UInt8.toNat))) _ _ rfl (i64s_length _) (hat2.below hb3) (i64s_oneCell _) ?f3 ?f4 hb3.size ?_; rotate_right; intro v4 w4 hown4 hgr4; have hb4 := below_grown hb3 hown3 hgr4 (Nat.le_refl _) hb3.size)
            | (at_builtin; refine wpList_appendL sty64 rfl (.tmp 52) (.tmp 53) rfl w2.heap.size _ _ rfl hown4 _ _ _ rfl rfl ?g3 ?g4 ?g5 hb4.size ?_; rotate_right; intro v6 w6 hown6 hgr6; have hb6 := below_grown hb4 hown4 hgr6 (Nat.le_refl _) hb4.size))
          case e3 => simp; omega
          case e4 => simp [maxLen]; omega
          case e5 => simp
          case f3 => simp; omega
          case f4 => simp [maxLen]; omega
          case g3 => intro u hu; simp at hu; rw [hu]; rfl
          case g4 => simp; omega
          case g5 => simp [maxLen]; omega
          obtain ⟨a6, cap6, rfl, _, hat6, _⟩ := hown6.at
          have e0 : [] ++ i64s ee ++ i64s (Bp.fives (b.map UInt8.toNat)) ++ [Value.int .i64 0, .int .i64 0, .int .i64 0, .int .i64 0, .int .i64 0, .int .i64 0] = i64s (sumOver n (fives8 b) ++ [0, 0, 0, 0, 0, 0]) := by
            unfold sumOver
            rw [HEE.out, HF.out, i64s_append, i64s_append, List.nil_append]; rfl
          rw [e0] at hat6 ⊢
          rw [i64s_length]
          have hlt6 : ∀ x ∈ sumOver n (fives8 b) ++ [0, 0, 0, 0, 0, 0], x < 1073741824 := fun x hx => by
            rcases List.mem_append.1 hx with h | h
            · exact sumOver_lt _ _ x h
            · simp at h; omega
          refine (spolymod_any _ _ _ _ (by unfold sumOver; simp [expand8_length, fives8_length]; unfold Bp.fiveCount; omega) hlt6 hat6).mono ?_
          rintro e w7 ⟨rfl, rfl⟩
          have hM := Bp.pm_lt _ 1 (by decide) hlt6
          generalize hqe : Bp.pm 1 (sumOver n (fives8 b) ++ [0, 0, 0, 0, 0, 0]) = q at *
          have HQ := Lib.hid hqe; clear hqe
          have hq1 : q ^^^ 1 < 1073741824 := Bp.xor_lt30 hM (by omega)
          have ex : bits BinOp.xor IntKind.i64 (q : Int) 1 = ((q ^^^ 1 : Nat) : Int) := i64_xor_nat q 1 (by omega) (by omega)
          generalize hme : q ^^^ 1 = M at *
          have HME := Lib.hid hme; clear hme
          have hat2 := hat2.below hb6
          have hbw : Below w.heap.size w w7 := (hbel.trans (hb2.mono hsz)).trans (hb6.mono (by omega))
          have hszw : w.heap.size ≤ w7.heap.size := hbw.size
          clear e0 hown3 hown4 hown6 hgr3 hgr4 hgr6 hat6 hat5' hat2' hlt6 hb3 hb4 hb6 hb2 hbel hown2 hat5
          have hcat : ByteArray.mk n.toArray ++ ByteArray.mk #[49] = ⟨(n ++ [49]).toArray⟩ := by
            apply ByteArray.ext; rw [ByteArray.data_append]; simp
          have hn1 : (n ++ [49]).length ≤ maxLen := by simp [maxLen]; omega
          have HCAT := Lib.hid hcat; clear hcat
          have HN1 := Lib.hid hn1; clear hn1
          go_wp2_with (refine wpList_toBytes rfl (.tmp 58) rfl Tryz.underlying9 Tryz.underlying38 Tryz.underlying5 w7.heap.size (n ++ [49]) (congrArg Value.string HCAT.out) HN1.out (Nat.le_refl _) ?_; intro g8 cap8 w8 hown8 hgr8)
          have hb8 : Below w7.heap.size w7 w8 := (Below.refl _ _).grown hgr8 (Nat.le_refl _) (fun k h => by cases h)
          rw [← HF.out] at hat2 hfl hexl ⊢
          rw [List.length_map] at hfl hexl ⊢
          have hF32 : ∀ j (hj : j < (fives8 b).length), (fives8 b)[j].toNat < 32 := fun j hj => by
            have h1 : (fives8 b)[j].toNat ∈ (fives8 b).map UInt8.toNat := List.mem_map_of_mem (List.getElem_mem hj)
            rw [HF.out] at h1
            exact Bp.fives_lt _ _ h1
          have HF32 := Lib.hid hF32; clear hF32
          have HTX : Hid (text n b = n ++ [49] ++ (fives8 b).map ltr ++ (six8 M).map ltr) := by
            unfold Hid text digits sum6
            rw [HQ.out, HME.out, List.map_append]; simp
          generalize fives8 b = F at *
          clear hgr8 HCAT ex
          go_loopw [10, 12, 62] (fun v _ i wr => ∃ k : Nat, k ≤ F.length ∧ i = .int .i64 (k : Int) ∧ Own wr w7.heap.size 5 v (u8s (n ++ [49] ++ (F.take k).map ltr)) ∧ Below w7.heap.size w7 wr)
            (fun _ _ i _ => F.length - (intOf i).toNat)
          case atStart => exact ⟨0, Nat.zero_le _, rfl, by simpa using hown8, hb8⟩
          case round =>
            obtain ⟨k, hk, rfl, hown, hbel7⟩ := hrel
            have hsz7 := hbel7.size
            by_cases hlt : k < F.length
            · obtain ⟨bb, oo, rfl, hcl⟩ := (hat2.below hbel7).i64 k (by rw [List.length_map]; exact hlt)
              rw [List.getElem_map] at hcl
              have h32 := HF32.out k hlt
              have hg := letter_at F[k] h32
              have hgl : n.length + k ≤ 17592186044416 := by omega
              generalize hxe : F[k].toNat = x at *
              have HGL := Lib.hid hg; clear hg
              have HXE := Lib.hid hxe; clear hxe
              have htk : u8s (n ++ [49] ++ (F.take (k + 1)).map ltr) = u8s (n ++ [49] ++ (F.take k).map ltr) ++ [Value.int .u8 ((ltr F[k]).toNat : Int)] := by
                rw [List.take_succ_eq_append_getElem hlt, List.map_append, ← List.append_assoc, u8s_append]; rfl
              have HTK := Lib.hid htk; clear htk
              go_wp2_with (at_builtin; refine wpList_append1 sty8 rfl _ _ rfl w7.heap.size _ _ rfl hown _ _ rfl rfl ?k1 ?k2 hsz7 ?_; rotate_right; intro v9 w9 hown9 hgr9)
              case k1 => simp; omega
              case k2 => simp [maxLen]; omega
              have hb9 := below_grown hbel7 hown hgr9 (Nat.le_refl _) hsz7
              clear hown hgr9 hbel7 
              go_roundw
              case rel => 
                refine ⟨k + 1, by omega, by go_num, ?_, hb9⟩
                rw [HTK.out, ← HGL.out]
                exact hown9
              case measure => simp [intOf]; omega
            · have hkn : k = F.length := by omega
              subst hkn
              rw [List.take_length] at hown
              clear hlt
              have H8 := Lib.hid hat2; clear hat2
              go_wp2
              go_loopw [10, 13] (fun v i wr => ∃ k : Nat, k ≤ 6 ∧ i = .int .i64 (k : Int) ∧ Own wr w7.heap.size 5 v (u8s (n ++ [49] ++ F.map ltr ++ ((six8 M).take k).map ltr)) ∧ Below w7.heap.size w7 wr)
                (fun _ i _ => 6 - (intOf i).toNat)
              case atStart => exact ⟨0, by omega, rfl, by simpa using hown, hbel7⟩
              case round =>
                clear hown hbel7
                obtain ⟨k, hk, rfl, hown, hbel7⟩ := hrel
                have hsz7 := hbel7.size
                by_cases hlt : k < 6
                · obtain ⟨x, dd, hx, hbx, hdd, hdx⟩ := six_at M k hlt hq1
                  have hgl := letter_at dd (by rw [hdx]; exact hx)
                  subst hdx
                  have HGL := Lib.hid hgl; clear hgl
                  have htk : u8s (n ++ [49] ++ F.map ltr ++ ((six8 M).take (k + 1)).map ltr) = u8s (n ++ [49] ++ F.map ltr ++ ((six8 M).take k).map ltr) ++ [Value.int .u8 ((ltr dd).toNat : Int)] := by
                    rw [List.take_add_one, hdd, List.map_append, ← List.append_assoc, u8s_append]; rfl
                  have HTK := Lib.hid htk; clear htk hdd
                  go_wp2_with (at_builtin; refine wpList_append1 sty8 rfl _ _ rfl w7.heap.size _ _ rfl hown _ _ rfl rfl ?k1 ?k2 hsz7 ?_; rotate_right; intro v9 w9 hown9 hgr9)
                  case k1 => simp; omega
                  case k2 => simp [maxLen]; omega
                  have hb9 := below_grown hbel7 hown hgr9 (Nat.le_refl _) hsz7
                  clear hown hgr9 hbel7
                  go_roundw
                  case rel =>
                    refine ⟨k + 1, by omega, by go_num, ?_, hb9⟩
                    rw [HTK.out, ← HGL.out]
                    exact hown9
                  case measure => simp [intOf]; omega
                · have hkn : k = 6 := by omega
                  subst hkn
                  have e6 : (six8 M).take 6 = six8 M := List.take_of_length_le (Nat.le_refl 6)
                  rw [e6, ← HTX.out] at hown
                  obtain ⟨a9, cap9, rfl, _, hat9, _⟩ := hown.at
                  rw [u8s_length] at *
                  clear hlt e6
                  go_wp2_with (refine wpList_toString rfl (.tmp 86) rfl Tryz.underlying38 Tryz.underlying9 Tryz.underlying5 a9 cap9 (text n b) rfl hat9 ?_)
                  go_ret
                  exact ⟨rfl, hbw.trans (hbel7.mono hszw)⟩
end Go.Proofs.YthjminkkmljjhaaGreatDoor

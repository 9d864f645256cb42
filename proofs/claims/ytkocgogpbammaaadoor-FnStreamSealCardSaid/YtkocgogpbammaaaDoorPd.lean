/- The reference's digits: bytes as digits, with a one behind them. Condition: at most 16 bytes. -/
import Derived.Test.YtkocgogpbammaaaDoorPs
import Derived.Test.YtkocgogpbammaaaDoorPw
import Derived.Test.YtkocgogpbammaaaDoorOw
import Derived.StillTailTactics
set_option linter.unusedVariables false
set_option linter.unusedSimpArgs false
namespace Go.Proofs.YtkocgogpbammaaaDoor
open Go.RowKit

set_option maxRecDepth 100000 in
set_option maxHeartbeats 2000000 in
theorem digits_any (w : World) (a : Option Addr) (cap : Nat) (l : List UInt8) (hl : l.length ≤ 16) (ha : At w a (u8s l)) :
    Calls Tryd.prog 33 #[.slice a l.length cap] w fun e w' => e = .returned (dv (dig 9 (blkN l))) ∧ Below w.heap.size w w' := by
  have hR0 : DAt (w.alloc (objD zer9)) w.heap.size zer9 := arr_new w _ _
  have hO1 : DAt ((w.alloc (objD zer9)).alloc (objD zer9)) (w.heap.size + 1) zer9 := arr_new2 w _ _ _
  have hR1 := hR0.below (below_alloc _ (objD zer9))
  have hb1 : Below w.heap.size w ((w.alloc (objD zer9)).alloc (objD zer9)) := Below.alloc (below_alloc _ _) (below_alloc _ _).size _
  have hs1 : ((w.alloc (objD zer9)).alloc (objD zer9)).heap.size = w.heap.size + 2 := by simp
  go_enter Tryd.func33, Tryd.ntmps33
  go_wp2_with (refine wpList_storeV d9_size rfl (.tmp 3) (.tmp 6) rfl (w.heap.size + 1) (u64s zer9) (u64s zer9) rfl rfl (u64s_oneCell _) rfl rfl hO1 ?_; intro w3 hO3 hg3; refine Hid.out ?_)
  have hR3 := hR1.kept hg3 (by omega)
  have hb3 := bkept hb1 hg3 (by omega) hb1.size
  have hz3 : w.heap.size + 2 ≤ w3.heap.size := by rw [← hs1]; exact hg3.size
  have hE := Own.empty w3 (w.heap.size + 2) 5 hz3
  have hb4 := Below.alloc hb3 hb3.size (.cells #[] 5)
  have ha4 := ha.below hb4
  refine Lib.hid ?_
  have q1 : (([] : List Value).length + (u8s l).length) * 1 ≤ 140737488355328 := by simp; omega
  have q2 : ([] : List Value).length + (u8s l).length ≤ maxLen := by simp [maxLen]; omega
  have q3 : w.heap.size + 2 ≤ (w3.alloc (.cells #[] 5)).heap.size := by simp; omega
  go_wp2_with (at_builtin; refine wpList_appendN sty8 rfl _ _ rfl (w.heap.size + 2) _ _ rfl hE _ _ _ _ rfl (u8s_length l) ha4 (u8s_oneCell _) q1 q2 q3 ?_; intro v5 w5 hE5 hg5; refine Hid.out ?_)
  rw [List.nil_append] at hE5
  have hb5 := below_grown hb4 hE hg5 (by omega) hb4.size
  have hR5 : DAt w5 w.heap.size zer9 := (hg5.block _ ((hR3.below (below_alloc _ _)).lt) (fun h => by have := (hE.lt _ h.symm).1; omega)).trans (hR3.below (below_alloc _ _))
  have hO5 : DAt w5 (w.heap.size + 1) zer9 := (hg5.block _ ((hO3.below (below_alloc _ _)).lt) (fun h => by have := (hE.lt _ h.symm).1; omega)).trans (hO3.below (below_alloc _ _))
  have hs5 : w.heap.size + 3 ≤ w5.heap.size := by have := hg5.size; simp at this; omega
  clear hE hg5 hb4 ha4 q1 q2 q3 hR3 hb3 hz3 hO3 hg3 hR0 hO1 hR1 hb1 hs1
  have q1 : ((u8s l).length + 1) * 1 ≤ 140737488355328 := by simp; omega
  have q2 : (u8s l).length + 1 ≤ maxLen := by simp [maxLen]; omega
  have q3 : w.heap.size + 2 ≤ w5.heap.size := by omega
  refine Lib.hid ?_
  go_wp2_with (at_builtin; refine wpList_append1 sty8 rfl _ _ rfl (w.heap.size + 2) _ _ rfl hE5 _ _ rfl rfl q1 q2 q3 ?_; intro v6 w6 hE6 hg6; refine Hid.out ?_)
  have e6 : u8s l ++ [Value.int .u8 1] = u8s (l ++ [1]) := by simp [u8s]
  rw [e6] at hE6
  have hb6 := below_grown hb5 hE5 hg6 (by omega) hb5.size
  have hn5 := hE5.lt
  have hR6 : DAt w6 w.heap.size zer9 := (hg6.block _ hR5.lt (fun h => by have := (hn5 _ h.symm).1; omega)).trans hR5
  have hO6 : DAt w6 (w.heap.size + 1) zer9 := (hg6.block _ hO5.lt (fun h => by have := (hn5 _ h.symm).1; omega)).trans hO5
  clear q1 q2 q3 hg6 hn5 e6 hR5 hO5 hb5 hE5
  obtain ⟨B, hB⟩ : ∃ B, B = l ++ [1] := ⟨_, rfl⟩
  have hBl : B.length = l.length + 1 := by rw [hB]; simp
  have HB := Lib.hid (show blkN l = Lib.leNat B by rw [hB, blkN_eq])
  rw [← hB] at hE6
  clear hB
  obtain ⟨g, cp, rfl, hg, hgs, hnc, hcm, hrg⟩ := hE6.row (by simp; omega)
  clear hE6
  rw [u8s_length]
  have hn : B.length ≤ 17 := by omega
  clear hBl ha
  refine Lib.hid ?_
  go_wp2_with fail
  go_loopw [13] (fun iv wr => ∃ k : Nat, k ≤ B.length ∧ iv = .int .i64 k ∧ DAt wr (w.heap.size + 1) (dig 9 (Lib.leNat (B.take k))) ∧ DAt wr w.heap.size zer9 ∧ wr.rangeAt g 0 (u8s B) ∧ Below w.heap.size w wr) (fun iv _ => B.length - (intOf iv).toNat)
  case atStart => exact ⟨0, Nat.zero_le _, rfl, (show DAt _ _ (dig 9 (Lib.leNat (B.take 0))) by rw [List.take_zero]; exact hO6), hR6, hrg, hb6⟩
  case round =>
    clear hO6 hR6 hrg hb6
    obtain ⟨k, hk, rfl, hO, hR, hrg, hb⟩ := hrel
    by_cases hlt : k < B.length
    · have hdk : decide (k < B.length) = true := by simp; omega
      have hck := range_u8 hrg k (B[k]) (List.getElem?_eq_getElem hlt)
      rw [Nat.zero_add] at hck
      have hN := leNat_lt (B.take k)
      rw [List.length_take, Nat.min_eq_left hk] at hN
      have hx : (B[k]).toNat < 256 := UInt8.toNat_lt _
      have hput := dig_put (Lib.leNat (B.take k)) (B[k]).toNat k hN hx (by omega)
      rw [← leNat_take B k hlt] at hput
      have ca := hO.cell (k / 2) (by simp; omega)
      rw [u64s_get] at ca
      have hcd : (dig 9 (Lib.leNat (B.take k)))[k / 2]'(by simp; omega) = Lib.leNat (B.take k) / 65536 ^ (k / 2) % 65536 := by rw [dig_get]
      rw [hcd] at ca
      obtain ⟨hd, hst⟩ := hput
      generalize (B[k]).toNat = x at *
      generalize Lib.leNat (B.take k) / 65536 ^ (k / 2) % 65536 = d at *
      obtain ⟨q, hq⟩ : ∃ q, q = k / 2 := ⟨_, rfl⟩
      obtain ⟨m, hm⟩ : ∃ m, m = k % 2 := ⟨_, rfl⟩
      obtain ⟨sh, hsh⟩ : ∃ sh, sh = 8 * m := ⟨_, rfl⟩
      obtain ⟨y, hy⟩ : ∃ y, y = x * 256 ^ m := ⟨_, rfl⟩
      have hyy : y < 65536 ∧ y = x * 2 ^ sh := by
        rw [hy, hsh]
        rcases (show m = 0 ∨ m = 1 by omega) with e | e <;> rw [e] <;> simp <;> omega
      rw [← hq, ← hm, ← hy] at hst
      rw [← hq] at ca
      have hq9 : q < 9 := by omega
      have hm2 : m < 2 := by omega
      have eq1 : IntKind.i64.wrap ((k : Int) / 2) = (q : Int) := (IntWalk.i64_in _ (by omega)).trans (by omega)
      have em1 : (k : Int).tmod 2 = (m : Int) := by rw [Int.tmod_eq_emod_of_nonneg (by omega)]; omega
      have es1 : IntKind.i64.wrap (8 * (m : Int)) = (sh : Int) := (IntWalk.i64_in _ (by omega)).trans (by omega)
      have lsh : sh < 64 := by omega
      have ey1 : IntKind.u64.wrap ((x : Int) * 2 ^ sh) = (y : Int) := by
        rw [show ((x : Int) * 2 ^ sh) = ((x * 2 ^ sh : Nat) : Int) by simp, ← hyy.2]
        exact IntWalk.u64_in _ (by omega)
      have ex1 : IntKind.u64.wrap (x : Int) = (x : Int) := IntWalk.u64_in _ (by omega)
      obtain ⟨z, hz⟩ : ∃ z, z = d + y := ⟨_, rfl⟩
      have ez1 : IntKind.u64.wrap ((d : Int) + (y : Int)) = (z : Int) := (IntWalk.u64_in _ (by omega)).trans (by omega)
      rw [← hz] at hst
      clear hz
      have i1 : (q : Int) < 9 := by omega
      have i3 : (k : Int) < (B.length : Int) := by omega
      have ly := hyy.1
      have fz := hO.fr q
      have HST := Lib.hid hst
      clear hq hm hsh hy hyy hst hN hcd
      go_wp2_with fail
      refine wp_region_still_tail 14 (by kernel_rfl) (by kernel_rfl) ?_
      change wpStill _ _ wr.drew (fun a' => wpList _ _ _ _ a' wr.drew) _ _
      have ca2 : wr.drew.cell? _ = _ := ca
      have fz2 : wr.drew.frozen? _ = _ := fz
      have kO : DAt wr.drew (w.heap.size + 1) _ := hO
      have kR : DAt wr.drew w.heap.size zer9 := hR
      have krg : wr.drew.rangeAt g 0 (u8s B) := hrg
      have kb : Below w.heap.size w wr.drew := ⟨hb.os, hb.tape, hb.output, hb.size, hb.block⟩
      clear ca fz hO hR hrg hb
      generalize wr.drew = w2 at *
      simp only [List.take_succ_cons, List.take_zero, List.drop_succ_cons, List.drop_zero]
      repeat still_step
      refine wpStill_nil ?_
      have hst2 := dat_set kO q z (by simp; omega)
      rw [HST.out] at hst2
      go_wp2_with fail
      go_roundw
      case rel => exact ⟨k + 1, by omega, by go_num, hst2, kR.other (by omega), fun j v hj => by rw [← krg j v hj]; exact World.cell?_of_block (a := ⟨g, 0 + j, none⟩) (Below.heap_setCell _ _ _ _ (by show g ≠ w.heap.size + 1; omega)), kb.setCell (p := ⟨w.heap.size + 1, q, none⟩) (by show w.heap.size ≤ w.heap.size + 1; omega) _⟩
      case measure => simp [intOf]; omega
    · have hdk : decide (k < B.length) = false := by simp; omega
      have hkl : k = B.length := by omega
      rw [hkl, List.take_of_length_le (Nat.le_refl _), ← HB.out] at hO
      clear hkl
      obtain ⟨F, hF⟩ : ∃ F, F = dig 9 (blkN l) := ⟨_, rfl⟩
      have hFl : F.length = 9 := by rw [hF]; simp
      rw [← hF] at hO
      have HF := Lib.hid hF
      clear hF hlt hk hrg
      go_wp2_with (first | (refine wpList_loadV d9_und d9_size rfl (.tmp 3) rfl (w.heap.size + 1) (u64s F) (by simpa using hFl) rfl hO ?_) | (refine wpList_storeV d9_size rfl (.tmp 2) (.tmp 33) rfl w.heap.size (u64s F) (u64s zer9) (by simpa using hFl) rfl (u64s_oneCell _) rfl rfl hR ?_; intro w9 hN9 hg9))
      rw [← HF.out]
      exact ret_V d9_und d9_size rfl w.heap.size _ (by simpa using hFl) rfl hN9 rfl ⟨rfl, bkept hb hg9 (Nat.le_refl _) hb.size⟩
end Go.Proofs.YtkocgogpbammaaaDoor

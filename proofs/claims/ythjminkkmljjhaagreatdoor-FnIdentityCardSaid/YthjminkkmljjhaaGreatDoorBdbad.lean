/- The walk of bech32.Decode over a name, a one, and signs behind it, one of which is no sign of the table. Conditions: ASCII, small letters. -/
import Derived.Test.YthjminkkmljjhaaGreatDoorBdec
namespace Go.Proofs.YthjminkkmljjhaaGreatDoor
open Go.RowKit

set_option maxRecDepth 100000 in
set_option maxHeartbeats 1000000 in
theorem decode_bad (w : World) (name tail d : List UInt8) (q : Nat) (hl : (name ++ 49 :: tail).length ≤ 4294967296) (hascii : ∀ b ∈ name ++ 49 :: tail, b.toNat < 128)
    (hlo : Lib.toLowerA (name ++ 49 :: tail) = name ++ 49 :: tail) (hsm : ∀ b ∈ tail, ¬ (65 ≤ b.toNat ∧ b.toNat ≤ 90))
    (hn : 0 < name.length) (hname : ∀ b ∈ name, 33 ≤ b.toNat ∧ b.toNat ≤ 126) (h6 : 6 ≤ tail.length) (h49 : ∀ b ∈ tail, b ≠ 49)
    (hq : q < tail.length) (hd : ∀ j (hj : j < tail.length), j < q → ixOf letters tail[j].toNat = ((d.getD j 0).toNat : Int)) (hbad : ixOf letters tail[q].toNat = -1) :
    Calls Tryz.prog 15 #[.string ⟨(name ++ 49 :: tail).toArray⟩] w fun e w' => IsErr e ∧ Below w.heap.size w w' := by
  have hsz : (ByteArray.mk (name ++ 49 :: tail).toArray).size ≤ 140737488355328 := by simp [ByteArray.size] at hl ⊢; omega
  have hasc : ∀ (j : Nat) (b : UInt8), (ByteArray.mk (name ++ 49 :: tail).toArray).data.toList[j]? = some b → b.toNat < 128 := by
    intro j b hb
    exact hascii b (List.mem_of_getElem? hb)
  have HA := Lib.hid hasc; clear hasc
  have HD := Lib.hid hd; clear hd
  have HBAD := Lib.hid hbad; clear hbad
  have HSM := Lib.hid hsm; clear hsm
  have hl1 : (name ++ 49 :: tail).length = name.length + tail.length + 1 := by simp; omega
  have hlast := fun w => lastOne_any w (name ++ 49 :: tail) hl name.length (by omega) (by simp) (by
    intro j hj hp
    rw [List.getElem_append_right (by omega), List.getElem_cons]
    split
    · omega
    · exact h49 _ (List.getElem_mem _))
  have HL := Lib.hid hlast; clear hlast
  have hle1 : name.length + tail.length + 1 ≤ (name ++ 49 :: tail).length := by omega
  have hle2 : (name ++ 49 :: tail).length ≤ name.length + tail.length + 1 := by omega
  clear hl1
  have H49 := Lib.hid h49; clear h49
  have HNM := Lib.hid hname; clear hname
  have HAS := Lib.hid hascii; clear hascii
  have hx1 := ext_head name (49 :: tail)
  have hx2 : (ByteArray.mk (name ++ 49 :: tail).toArray).extract (name.length + 1) (name ++ 49 :: tail).length = ⟨tail.toArray⟩ := by
    have := ext_tail (name ++ [49]) tail (name ++ 49 :: tail).length (name.length + 1) (by simp) (by simp)
    simpa using this
  generalize hs : name ++ 49 :: tail = l at *
  have HS := Lib.hid hs; clear hs
  go_enter Tryz.func15, Tryz.ntmps15
  have d1 : decide ((name.length : Int) < 1) = false := by simp; omega
  have d2 : decide ((l.length : Int) < (name.length : Int) + 7) = false := by simp; omega
  go_wp2_with (first
    | (go_at_call 30; refine (Tryz.strings_ToLower_ascii _ _ hsz HA.out).mono ?_; rintro e w1 ⟨rfl, hb1⟩)
    | (go_at_call 31; refine (HL.out _).mono ?_; rintro e w1 ⟨rfl, rfl⟩))
  go_loopw [2, 3, 4] (fun s2 s3 s4 wr => ∃ pos : Nat, pos ≤ name.length ∧ s2 = .string ⟨name.toArray⟩ ∧ s3 = .slice none 0 0 ∧ s4 = .nilIface ∧ wr = w1.iter ⟨name.toArray⟩ pos) (fun _ _ _ wr => name.length - wr.iterPos w1.heap.size)
  case atStart => exact ⟨0, Nat.zero_le _, rfl, rfl, rfl, rfl⟩
  case round =>
    obtain ⟨pos, hp, rfl, rfl, rfl, rfl⟩ := hrel
    by_cases hlt : pos < name.length
    · have hnr := HNM.out name[pos] (List.getElem_mem hlt)
      have hnx : ∀ ty, (Instr.next (.pointer (some ⟨w1.heap.size, 0, none⟩)) true ty).run Tryz.prog (w1.iter ⟨name.toArray⟩ pos) = _ := fun ty => next_ascii w1 name pos ty hlt (by omega)
      go_wp2
      go_roundw
      case rel => exact ⟨pos + 1, by omega, rfl, rfl, rfl, rfl⟩
      case measure => simp; omega
    · have hnx : ∀ ty, (Instr.next (.pointer (some ⟨w1.heap.size, 0, none⟩)) true ty).run Tryz.prog (w1.iter ⟨name.toArray⟩ pos) = _ := fun ty => next_end w1 name pos ty (by omega)
      go_wp2
      have hb2 : Below w.heap.size w (w1.iter ⟨name.toArray⟩ pos) := hb1.trans ((below_iter _ _ _).mono hb1.size)
      generalize w1.iter ⟨name.toArray⟩ pos = w2 at *
      have hsz2 : w.heap.size ≤ w2.heap.size := hb2.size
      clear hnx
      go_loopw [2, 3, 4] (fun s2 s3 s4 wr => ∃ pos : Nat, ∃ vs, pos ≤ q ∧ vs.length = pos ∧ s2 = .string ⟨name.toArray⟩ ∧ s4 = .nilIface ∧ wr.heap[w2.heap.size]? = some (.stringIter ⟨tail.toArray⟩ pos) ∧
          Own wr (w2.heap.size + 1) 5 s3 vs ∧ Below w2.heap.size w2 wr ∧ w2.heap.size < wr.heap.size) (fun _ _ _ wr => tail.length - wr.iterPos w2.heap.size)
      case atStart => exact ⟨0, [], Nat.zero_le _, rfl, rfl, rfl, World.iter_heap _ _ _, Own.nil _ _ _, below_iter _ _ _, by simp [World.iter]⟩
      case round =>
        obtain ⟨pos, vs, hp, hvs, rfl, rfl, hit, hown, hbel, hszr⟩ := hrel
        have hlt : pos < tail.length := by omega
        have hta : tail[pos].toNat < 128 := HAS.out _ (by rw [← HS.out]; simp)
        have hnx : ∀ ty, (Instr.next (.pointer (some ⟨w2.heap.size, 0, none⟩)) true ty).run Tryz.prog wr = _ := fun ty => Lib.run_next_ascii_at wr w2.heap.size ⟨tail.toArray⟩ pos ty hit (by simpa [ByteArray.size] using hlt) hta
        have hitI := Lib.iterAt_heap wr w2.heap.size ⟨tail.toArray⟩ pos (pos + 1) hit
        have hownI : Own (wr.iterAt w2.heap.size ⟨tail.toArray⟩ (pos + 1)) (w2.heap.size + 1) 5 u3 vs := hown.of_block fun k hk => Lib.iterAt_other _ _ _ _ _ (by have := (hown.lt k hk).1; omega)
        have hbelI : Below w2.heap.size w2 (wr.iterAt w2.heap.size ⟨tail.toArray⟩ (pos + 1)) := Lib.below_iterAt hbel (Nat.le_refl _) _ _
        have hszI : (wr.iterAt w2.heap.size ⟨tail.toArray⟩ (pos + 1)).heap.size = wr.heap.size := Lib.iterAt_size _ _ _ _
        have hszJ : w2.heap.size < (wr.iterAt w2.heap.size ⟨tail.toArray⟩ (pos + 1)).heap.size := by omega
        clear hszI
        have HP1 := Lib.hid (iterPos_at hit)
        have hup : ¬ (65 ≤ tail[pos].toNat ∧ tail[pos].toNat ≤ 90) := HSM.out tail[pos] (List.getElem_mem hlt)
        have hdec : (decide (65 ≤ (tail[pos].toNat : Int)) && decide ((tail[pos].toNat : Int) ≤ 90)) = false := by
          rw [Bool.and_eq_false_iff, decide_eq_false_iff_not, decide_eq_false_iff_not]; omega
        by_cases hpq : pos < q
        · have HE := Lib.hid (HD.out pos hlt hpq)
          have hx : (d.getD pos 0).toNat < 256 := UInt8.toNat_lt _
          generalize hxe : (d.getD pos 0).toNat = x at *
          have t5 : ((x : Int) == -1) = false := by rw [beq_eq_false_iff_ne]; omega
          clear hown hbel hszr hxe
          by_cases hu1 : 65 ≤ tail[pos].toNat
          all_goals
            go_wp2_with (first
              | (go_at_call 32; refine (indexRune_any _ letters letters_ascii (by decide) _ (by omega)).mono ?_; rintro e w4 ⟨rfl, hb4⟩; rw [HE.out])
              | (at_builtin; refine wpList_append1 sty8 rfl _ _ rfl (w2.heap.size + 1) _ _ rfl (hownI.below hb4) _ _ rfl rfl ?e1 ?e2 (by have := hb4.size; omega) ?_; rotate_right; intro v5 w5 hown5 hgr5))
            case e1 => omega
            case e2 => simp [maxLen]; omega
            have hk4 : w2.heap.size + 1 ≤ w4.heap.size := by have := hb4.size; omega
            have hit5 := block_grown ((hb4.block _ hszJ).trans hitI) (hownI.below hb4) hgr5 (Nat.lt_succ_self _)
            have hb5 := below_grown (hbelI.trans (hb4.mono (by omega))) (hownI.below hb4) hgr5 (Nat.le_succ _) (by omega)
            have hs5 : w2.heap.size < w5.heap.size := by have := hgr5.size; omega
            clear hit hitI hownI hbelI hszJ hgr5
            go_roundw
            case rel => exact ⟨pos + 1, _, by omega, by simp; omega, rfl, rfl, hit5, hown5, hb5, hs5⟩
            case measure => rw [HP1.out, iterPos_at hit5]; omega
        · have hpe : pos = q := by omega
          have HE : Hid (ixOf letters tail[pos].toNat = -1) := by unfold Hid; subst hpe; exact HBAD.out
          have HPE := Lib.hid hpe; clear hpe
          have hs2 : w.heap.size ≤ (wr.iterAt w2.heap.size ⟨tail.toArray⟩ (pos + 1)).heap.size := by omega
          have hb3 : Below w.heap.size w (wr.iterAt w2.heap.size ⟨tail.toArray⟩ (pos + 1)) := hb2.trans (hbelI.mono hsz2)
          clear hown hbel hszr hpq
          by_cases hu1 : 65 ≤ tail[pos].toNat
          all_goals
            go_wp2_with (first
              | (go_at_call 32; refine (indexRune_any _ letters letters_ascii (by decide) _ (by omega)).mono ?_; rintro e w4 ⟨rfl, hb4⟩; rw [HE.out])
              | (go_at_call 16; go_in))
            go_ret3
            exact ⟨⟨_, rfl⟩, (hb3.trans (hb4.mono hs2)).alloc (by have := hb4.size; omega) _⟩
end Go.Proofs.YthjminkkmljjhaaGreatDoor

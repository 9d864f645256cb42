/- The walk of bech32.Decode over a name, a one, and signs behind it. Conditions: ASCII, one case, the table as laid. -/
import Derived.Test.YthjminkkmljjhaaGreatDoorBcs
import Derived.Test.YthjminkkmljjhaaGreatDoorBix
import Derived.Lib.OthersKept
namespace Go.Proofs.YthjminkkmljjhaaGreatDoor
open Go.RowKit

/-- A large letter as a small one. -/
def low (c : UInt8) : Nat := if 65 ≤ c.toNat ∧ c.toNat ≤ 90 then c.toNat + 32 else c.toNat
def letters : List UInt8 := [113, 112, 122, 114, 121, 57, 120, 56, 103, 102, 50, 116, 118, 100, 119, 48, 115, 51, 106, 110, 53, 52, 107, 104, 99, 101, 54, 109, 117, 97, 55, 108]

theorem letters_ascii : ∀ j (hj : j < letters.length), letters[j].toNat < 128 := by decide

def IsErr (e : Ending) : Prop := ∃ v, e = .returned (.tuple #[.string ⟨#[]⟩, .slice none 0 0, .iface 70 v])

def DecPost (ok : Bool) (name b : List UInt8) (B : Nat) (e : Ending) (w' : World) : Prop :=
  match ok with
  | true => ∃ v, e = .returned (.tuple #[.string ⟨name.toArray⟩, v, .nilIface]) ∧ Own w' B 5 v (u8s b)
  | false => IsErr e

theorem block_grown {w w' : World} {k B : Nat} {e : TypeId} {v : Value} {vs : List Value} {x : Obj} (hk : w.heap[k]? = some x) (hown : Own w B e v vs) (hg : w.grownBy w' v.ownBlock) (hB : k < B) : w'.heap[k]? = some x := by
  have hlt := (Array.getElem?_eq_some_iff.1 hk).1
  rw [hg.block k hlt (fun h => by have := (hown.lt k h.symm).1; omega), hk]

theorem Own.cap_le {w : World} {B : Nat} {e : TypeId} {a : Option Addr} {n cap : Nat} {vs : List Value} (h : Own w B e (.slice a n cap) vs) : vs.length ≤ cap := by
  rcases h with ⟨h, rfl⟩ | ⟨g, c, cur, fz, hv, _, _, _, hn, _⟩
  · exact Nat.zero_le _
  · injection hv with h1 h2 h3
    omega

theorem iterPos_at {w : World} {k p : Nat} {s : ByteArray} (h : w.heap[k]? = some (.stringIter s p)) : w.iterPos k = p := by simp [World.iterPos, h]

theorem ext_head (a b : List UInt8) : (ByteArray.mk (a ++ b).toArray).extract 0 a.length = ⟨a.toArray⟩ := by
  rw [ByteArray.extract_mk, show ((a ++ b).drop 0).take (a.length - 0) = a from by simp]
theorem ext_tail (a b : List UInt8) (n m : Nat) (hm : m = a.length) (hn : n = (a ++ b).length) : (ByteArray.mk (a ++ b).toArray).extract m n = ⟨b.toArray⟩ := by
  subst hn hm
  rw [ByteArray.extract_mk, show ((a ++ b).drop a.length).take ((a ++ b).length - a.length) = b from by simp]

set_option maxRecDepth 100000 in
set_option maxHeartbeats 1000000 in
theorem decode_sum (w : World) (name tail d b : List UInt8) (ok : Bool) (hl : (name ++ 49 :: tail).length ≤ 4294967296) (hascii : ∀ b ∈ name ++ 49 :: tail, b.toNat < 128)
    (hcase : Lib.toLowerA (name ++ 49 :: tail) = name ++ 49 :: tail ∨ Lib.toUpperA (name ++ 49 :: tail) = name ++ 49 :: tail)
    (hn : 0 < name.length) (hname : ∀ b ∈ name, 33 ≤ b.toNat ∧ b.toNat ≤ 126) (h6 : 6 ≤ tail.length) (h49 : ∀ b ∈ tail, b ≠ 49)
    (hdl : d.length = tail.length) (hd : ∀ j (hj : j < tail.length), ixOf letters (low tail[j]) = ((d.getD j 0).toNat : Int))
    (hok : ((Bp.pm 1 (sumOver (Lib.toLowerA name) d) : Int) == 1) = ok) (hb : ok = true → ∃ c6, d = fives8 b ++ c6 ∧ c6.length = 6)
    (hg : Gens w) (h0 : 0 < w.heap.size) :
    Calls Tryz.prog 15 #[.string ⟨(name ++ 49 :: tail).toArray⟩] w fun e w' => DecPost ok name b w.heap.size e w' ∧ Below w.heap.size w w' := by
  have hsz : (ByteArray.mk (name ++ 49 :: tail).toArray).size ≤ 140737488355328 := by simp [ByteArray.size] at hl ⊢; omega
  have hasc : ∀ (j : Nat) (b : UInt8), (ByteArray.mk (name ++ 49 :: tail).toArray).data.toList[j]? = some b → b.toNat < 128 := by
    intro j b hb
    exact hascii b (List.mem_of_getElem? hb)
  have HA := Lib.hid hasc; clear hasc
  have HD := Lib.hid hd; clear hd
  have HOK := Lib.hid hok; clear hok
  have HB := Lib.hid hb; clear hb
  have hl1 : (name ++ 49 :: tail).length = name.length + tail.length + 1 := by simp; omega
  have hlast := fun w => lastOne_any w (name ++ 49 :: tail) hl name.length (by omega) (by simp) (by
    intro j hj hp
    rw [List.getElem_append_right (by omega), List.getElem_cons]
    split
    · omega
    · exact h49 _ (List.getElem_mem _))
  have HL := Lib.hid hlast; clear hlast
  have hle1 : name.length + tail.length + 1 ≤ (name ++ 49 :: tail).length := by omega
  have hle2 : (name ++ 49 :: tail).length ≤ name.length + tail.length + 1 := by omega
  clear hl1
  have HG := Lib.hid hg; clear hg
  have HX := Lib.hid hdl; clear hdl
  have H49 := Lib.hid h49; clear h49
  have HNM := Lib.hid hname; clear hname
  have HAS := Lib.hid hascii; clear hascii
  have HC := Lib.hid hcase; clear hcase
  have hx1 := ext_head name (49 :: tail)
  have hx2 : (ByteArray.mk (name ++ 49 :: tail).toArray).extract (name.length + 1) (name ++ 49 :: tail).length = ⟨tail.toArray⟩ := by
    have := ext_tail (name ++ [49]) tail (name ++ 49 :: tail).length (name.length + 1) (by simp) (by simp)
    simpa using this
  generalize hs : name ++ 49 :: tail = l at *
  have HS := Lib.hid hs; clear hs
  go_enter Tryz.func15, Tryz.ntmps15
  have d1 : decide ((name.length : Int) < 1) = false := by simp; omega
  have d2 : decide ((l.length : Int) < (name.length : Int) + 7) = false := by simp; omega
  have hcs : Lib.toLowerA l = l ∨ (¬ Lib.toLowerA l = l ∧ Lib.toUpperA l = l) := by
    by_cases h : Lib.toLowerA l = l
    · exact .inl h
    · exact .inr ⟨h, HC.out.resolve_left h⟩
  rcases hcs with hlo | ⟨hlo, hUP⟩
  all_goals
    go_wp2_with (first
      | (go_at_call 30; refine (Tryz.strings_ToLower_ascii _ _ hsz HA.out).mono ?_; rintro e w1 ⟨rfl, hb1⟩)
      | (go_at_call 19; refine (Tryz.strings_ToUpper_ascii _ _ hsz HA.out).mono ?_; rintro e w1 ⟨rfl, hbu⟩; have hb1 := hb1.trans (hbu.mono hb1.size))
      | (go_at_call 31; refine (HL.out _).mono ?_; rintro e w1 ⟨rfl, rfl⟩))
    go_loopw [2, 3, 4] (fun s2 s3 s4 wr => ∃ pos : Nat, pos ≤ name.length ∧ s2 = .string ⟨name.toArray⟩ ∧ s3 = .slice none 0 0 ∧ s4 = .nilIface ∧ wr = w1.iter ⟨name.toArray⟩ pos) (fun _ _ _ wr => name.length - wr.iterPos w1.heap.size)
    case atStart => exact ⟨0, Nat.zero_le _, rfl, rfl, rfl, rfl⟩
    case round =>
      obtain ⟨pos, hp, rfl, rfl, rfl, rfl⟩ := hrel
      by_cases hlt : pos < name.length
      · have hnr := HNM.out name[pos] (List.getElem_mem hlt)
        have hnx : ∀ ty, (Instr.next (.pointer (some ⟨w1.heap.size, 0, none⟩)) true ty).run Tryz.prog (w1.iter ⟨name.toArray⟩ pos) = _ := fun ty => next_ascii w1 name pos ty hlt (by omega)
        go_wp2
        go_roundw
        case rel => exact ⟨pos + 1, by omega, rfl, rfl, rfl, rfl⟩
        case measure => simp; omega
      · have hnx : ∀ ty, (Instr.next (.pointer (some ⟨w1.heap.size, 0, none⟩)) true ty).run Tryz.prog (w1.iter ⟨name.toArray⟩ pos) = _ := fun ty => next_end w1 name pos ty (by omega)
        go_wp2
        have hb2 : Below w.heap.size w (w1.iter ⟨name.toArray⟩ pos) := hb1.trans ((below_iter _ _ _).mono hb1.size)
        generalize w1.iter ⟨name.toArray⟩ pos = w2 at *
        have hsz2 : w.heap.size ≤ w2.heap.size := hb2.size
        clear hnx
        go_loopw [2, 3, 4] (fun s2 s3 s4 wr => ∃ pos : Nat, pos ≤ tail.length ∧ s2 = .string ⟨name.toArray⟩ ∧ s4 = .nilIface ∧ wr.heap[w2.heap.size]? = some (.stringIter ⟨tail.toArray⟩ pos) ∧
            Own wr (w2.heap.size + 1) 5 s3 (u8s (d.take pos)) ∧ Below w2.heap.size w2 wr ∧ w2.heap.size < wr.heap.size) (fun _ _ _ wr => tail.length - wr.iterPos w2.heap.size)
        case atStart => exact ⟨0, Nat.zero_le _, rfl, rfl, World.iter_heap _ _ _, Own.nil _ _ _, below_iter _ _ _, by simp [World.iter]⟩
        case round =>
          obtain ⟨pos, hp, rfl, rfl, hit, hown, hbel, hszr⟩ := hrel
          by_cases hlt : pos < tail.length
          · have hta : tail[pos].toNat < 128 := HAS.out _ (by rw [← HS.out]; simp)
            have hnx : ∀ ty, (Instr.next (.pointer (some ⟨w2.heap.size, 0, none⟩)) true ty).run Tryz.prog wr = _ := fun ty => Lib.run_next_ascii_at wr w2.heap.size ⟨tail.toArray⟩ pos ty hit (by simpa [ByteArray.size] using hlt) hta
            have hitI := Lib.iterAt_heap wr w2.heap.size ⟨tail.toArray⟩ pos (pos + 1) hit
            have hownI : Own (wr.iterAt w2.heap.size ⟨tail.toArray⟩ (pos + 1)) (w2.heap.size + 1) 5 u3 (u8s (d.take pos)) := hown.of_block fun k hk => Lib.iterAt_other _ _ _ _ _ (by have := (hown.lt k hk).1; omega)
            have hbelI : Below w2.heap.size w2 (wr.iterAt w2.heap.size ⟨tail.toArray⟩ (pos + 1)) := Lib.below_iterAt hbel (Nat.le_refl _) _ _
            have hszI : (wr.iterAt w2.heap.size ⟨tail.toArray⟩ (pos + 1)).heap.size = wr.heap.size := Lib.iterAt_size _ _ _ _
            have hszJ : w2.heap.size < (wr.iterAt w2.heap.size ⟨tail.toArray⟩ (pos + 1)).heap.size := by omega
            clear hszI
            have HP1 := Lib.hid (iterPos_at hit)
            have HE := Lib.hid (HD.out pos hlt)
            have hx : (d.getD pos 0).toNat < 256 := UInt8.toNat_lt _
            generalize hxe : (d.getD pos 0).toNat = x at *
            have HXE := Lib.hid hxe; clear hxe
            have t5 : ((x : Int) == -1) = false := by rw [beq_eq_false_iff_ne]; omega
            clear hown hbel hszr
            by_cases hup : 65 ≤ tail[pos].toNat ∧ tail[pos].toNat ≤ 90
            · obtain ⟨hu1, hu2⟩ := hup
              have HLw : Hid (low tail[pos] = tail[pos].toNat + 32) := by unfold Hid low; rw [if_pos ⟨hu1, hu2⟩]
              go_wp2_with (first
                | (go_at_call 32; rw [show ((tail[pos].toNat : Int) + 32) = ((tail[pos].toNat + 32 : Nat) : Int) from by omega, ← HLw.out]; refine (indexRune_any _ letters letters_ascii (by decide) _ (by rw [HLw.out]; omega)).mono ?_; rintro e w4 ⟨rfl, hb4⟩; rw [HE.out])
                | (at_builtin; refine wpList_append1 sty8 rfl _ _ rfl (w2.heap.size + 1) _ _ rfl (hownI.below hb4) _ _ rfl rfl ?c1 ?c2 (by have := hb4.size; omega) ?_; rotate_right; intro v5 w5 hown5 hgr5))
              case c1 => simp; omega
              case c2 => simp [maxLen]; omega
              have hk4 : w2.heap.size + 1 ≤ w4.heap.size := by have := hb4.size; omega
              have hit5 := block_grown ((hb4.block _ hszJ).trans hitI) (hownI.below hb4) hgr5 (Nat.lt_succ_self _)
              have hb5 := below_grown (hbelI.trans (hb4.mono (by omega))) (hownI.below hb4) hgr5 (Nat.le_succ _) (by omega)
              have hs5 : w2.heap.size < w5.heap.size := by have := hgr5.size; omega
              have hdp : pos < d.length := by rw [HX.out]; exact hlt
              have htk : u8s (d.take (pos + 1)) = u8s (d.take pos) ++ [Value.int .u8 (x : Int)] := by
                rw [List.take_succ_eq_append_getElem hdp, u8s_append, ← HXE.out]
                simp [u8s, List.getD_eq_getElem?_getD, List.getElem?_eq_getElem hdp]
              clear hit hitI hownI hbelI hszJ hgr5
              go_roundw
              case rel => exact ⟨pos + 1, by omega, rfl, rfl, hit5, by rw [htk]; exact hown5, hb5, hs5⟩
              case measure => rw [HP1.out, iterPos_at hit5]; omega
            · have HLw : Hid (low tail[pos] = tail[pos].toNat) := by unfold Hid low; rw [if_neg hup]
              have hdec : (decide (65 ≤ (tail[pos].toNat : Int)) && decide ((tail[pos].toNat : Int) ≤ 90)) = false := by
                rw [Bool.and_eq_false_iff, decide_eq_false_iff_not, decide_eq_false_iff_not]; omega
              by_cases hu1 : 65 ≤ tail[pos].toNat
              all_goals
                go_wp2_with (first
                  | (go_at_call 32; rw [← HLw.out]; refine (indexRune_any _ letters letters_ascii (by decide) _ (by rw [HLw.out]; omega)).mono ?_; rintro e w4 ⟨rfl, hb4⟩; rw [HE.out])
                  | (at_builtin; refine wpList_append1 sty8 rfl _ _ rfl (w2.heap.size + 1) _ _ rfl (hownI.below hb4) _ _ rfl rfl ?e1 ?e2 (by have := hb4.size; omega) ?_; rotate_right; intro v5 w5 hown5 hgr5))
                case e1 => simp; omega
                case e2 => simp [maxLen]; omega
                have hk4 : w2.heap.size + 1 ≤ w4.heap.size := by have := hb4.size; omega
                have hit5 := block_grown ((hb4.block _ hszJ).trans hitI) (hownI.below hb4) hgr5 (Nat.lt_succ_self _)
                have hb5 := below_grown (hbelI.trans (hb4.mono (by omega))) (hownI.below hb4) hgr5 (Nat.le_succ _) (by omega)
                have hs5 : w2.heap.size < w5.heap.size := by have := hgr5.size; omega
                have hdp : pos < d.length := by rw [HX.out]; exact hlt
                have htk : u8s (d.take (pos + 1)) = u8s (d.take pos) ++ [Value.int .u8 (x : Int)] := by
                  rw [List.take_succ_eq_append_getElem hdp, u8s_append, ← HXE.out]
                  simp [u8s, List.getD_eq_getElem?_getD, List.getElem?_eq_getElem hdp]
                clear hit hitI hownI hbelI hszJ hgr5
                go_roundw
                case rel => exact ⟨pos + 1, by omega, rfl, rfl, hit5, by rw [htk]; exact hown5, hb5, hs5⟩
                case measure => rw [HP1.out, iterPos_at hit5]; omega
          · have hnx : ∀ ty, (Instr.next (.pointer (some ⟨w2.heap.size, 0, none⟩)) true ty).run Tryz.prog wr = _ := fun ty => Lib.run_next_end_at wr w2.heap.size ⟨tail.toArray⟩ pos ty hit (by simp [ByteArray.size]; omega)
            rw [List.take_of_length_le (by rw [HX.out]; omega)] at hown
            have hdl : 6 ≤ d.length := by rw [HX.out]; exact h6
            have hdu : d.length ≤ 4294967296 := by rw [HX.out]; omega
            have hnl : name.length ≤ 4294967296 := by omega
            obtain ⟨a3, cap3, rfl, hnil3, hat3, _⟩ := hown.at
            have hcap := hown.cap_le
            rw [u8s_length] at hown hcap ⊢
            have hb3 : Below w.heap.size w wr := hb2.trans (hbel.mono hsz2)
            have HO := Lib.hid hown; clear hown
            have hgen : Gens wr := below_gens HG.out hb3 h0
            have HGr := Lib.hid hgen; clear hgen
            cases ok with
            | false =>
              go_wp2_with (first
                | (go_at_call 33; refine (verify_any _ ⟨name.toArray⟩ (by simpa [ByteArray.size] using hnl) (fun j b hb => HAS.out b (by rw [← HS.out]; exact List.mem_append_left _ (List.mem_of_getElem? hb))) a3 cap3 d (by omega) hat3 HGr.out (by have := hb3.size; omega)).mono ?_; rintro e w6 ⟨rfl, hb6⟩; rw [show ((Bp.pm 1 (sumOver (Lib.toLowerA (ByteArray.mk name.toArray).data.toList) d) : Int) == 1) = false from HOK.out])
                | (go_at_call 16; go_in))
              all_goals
                go_ret3
                exact ⟨⟨_, rfl⟩, (hb3.trans (hb6.mono hb3.size)).alloc (by have := hb6.size; have := hb3.size; omega) _⟩
            | true =>
              obtain ⟨c6, hdb, hc6⟩ := HB.out rfl
              have HDB := Lib.hid hdb; clear hdb
              have HC6 := Lib.hid hc6; clear hc6
              obtain ⟨b3, o3, ha3, _⟩ := hat3 (by simp; omega)
              subst ha3
              have hlb : (fives8 b).length = d.length - 6 := by rw [HDB.out]; simp [HC6.out]
              have hbb : b.length ≤ 4294967296 := by rw [fives8_length] at hlb; unfold Bp.fiveCount at hlb; omega
              have hatb : At wr (some ⟨b3, o3, none⟩) (u8s (fives8 b)) := by
                have := hat3.take (fives8 b).length
                rw [HDB.out, u8s_append, List.take_append_of_le_length (by simp), List.take_of_length_le (by simp)] at this
                exact this
              have HLB := Lib.hid hlb; clear hlb
              have HATB := Lib.hid hatb; clear hatb
              go_wp2_with (first
                | (go_at_call 33; refine (verify_any _ ⟨name.toArray⟩ (by simpa [ByteArray.size] using hnl) (fun j b hb => HAS.out b (by rw [← HS.out]; exact List.mem_append_left _ (List.mem_of_getElem? hb))) _ cap3 d (by omega) hat3 HGr.out (by have := hb3.size; omega)).mono ?_; rintro e w6 ⟨rfl, hb6⟩; rw [show ((Bp.pm 1 (sumOver (Lib.toLowerA (ByteArray.mk name.toArray).data.toList) d) : Int) == 1) = true from HOK.out])
                | (go_at_call 34; rw [← HLB.out]; refine (conv58_any _ _ cap3 b hbb (HATB.out.below hb6)).mono ?_; rintro e w7 ⟨v7, rfl, hown7, hb7⟩))
              go_ret3
              have h6 : w.heap.size ≤ w6.heap.size := by have := hb6.size; have := hb3.size; omega
              exact ⟨⟨v7, rfl, hown7.mono h6⟩, (hb3.trans (hb6.mono hb3.size)).trans (hb7.mono h6)⟩
end Go.Proofs.YthjminkkmljjhaaGreatDoor

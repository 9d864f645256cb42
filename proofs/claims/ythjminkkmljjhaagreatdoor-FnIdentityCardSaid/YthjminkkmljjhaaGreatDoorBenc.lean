/- The walk of bech32.Encode over a name of small letters and strokes, or of the same in large letters. Conditions: the table as laid; sizes. -/
import Derived.Test.YthjminkkmljjhaaGreatDoorBlaw
import Derived.Test.YthjminkkmljjhaaGreatDoorShelfk
namespace Go.Proofs.YthjminkkmljjhaaGreatDoor
open Go.RowKit

theorem builder_below {T e : TypeId} {B b : Nat} {p : Value} {bs : List Value} {w w' : World} (h : Lib.BuilderAt T e B b p bs w) (hb : Below w.heap.size w w') : Lib.BuilderAt T e B b p bs w' := by
  obtain ⟨hB, v, hh, hown, hne⟩ := id h
  exact ⟨hB, v, (hb.block b h.lt).trans hh, hown.kept (row := none) ⟨hb.os, hb.tape, hb.output, hb.size, fun j hj _ => hb.block j hj⟩ (by cases hv : v.ownBlock <;> simp), hne⟩

theorem own_cell {w : World} {B g : Nat} {e : TypeId} {v : Value} {xs : List Value} (h : Own w B e v xs) (hv : v.ownBlock = some g) (j : Nat) (hj : j < xs.length) : w.cell? ⟨g, j, none⟩ = some xs[j] := by
  rcases id h with ⟨rfl, _⟩ | ⟨g', cap, cur, fz, rfl, _⟩
  · simp [Value.ownBlock] at hv
  · simp only [Value.ownBlock, Option.some.injEq] at hv
    subst hv
    exact h.cellAt j hj

theorem up_tab : ∀ x : Fin 256, Lib.upperB (UInt8.ofNat x.1) = up (UInt8.ofNat x.1) := by decide +kernel
theorem toUpper_eq (l : List UInt8) : Lib.toUpperA l = upper l := by
  unfold Lib.toUpperA upper
  refine List.map_congr_left fun x _ => ?_
  have := up_tab ⟨x.toNat, UInt8.toNat_lt x⟩
  simpa only [UInt8.ofNat_toNat] using this

theorem text_ascii {n b : List UInt8} (hn : ∀ x ∈ n, nameByte x = true) : ∀ x ∈ text n b, x.toNat < 128 := by
  intro x hx
  unfold text at hx
  simp only [List.mem_append, List.mem_cons, List.mem_map] at hx
  rcases hx with hx | rfl | ⟨d, hd, rfl⟩
  · have := name_byte x (hn x hx); omega
  · decide
  · exact (ltr_at d (digits_lt n b d hd)).2.2.1

theorem bch (l : List UInt8) : Lib.byteCells l = u8s l := rfl

/-- What Encode writes under the name h, which is n in small or in large letters. -/
def encText (n h b : List UInt8) : List UInt8 := if n = h then text n b else upper (text n b)

set_option maxRecDepth 100000 in
set_option maxHeartbeats 1000000 in
theorem encode_any (w : World) (n h : List UInt8) (a : Option Addr) (cap : Nat) (b : List UInt8) (hnm : isNm n = true) (hh : h = n ∨ (h = upper n ∧ h ≠ n)) (hb : b.length ≤ 268435456) (ha : At w a (u8s b)) (hg : Gens w) (h0 : 0 < w.heap.size) :
    Calls Tryz.prog 18 #[.string ⟨h.toArray⟩, .slice a b.length cap] w fun e w' => e = .returned (.tuple #[.string ⟨(encText n h b).toArray⟩, .nilIface]) ∧ Below w.heap.size w w' := by
  obtain ⟨n1, n2, n3⟩ := isNm_parts hnm
  have hlow : Lib.toLowerA h = n := by
    rcases hh with rfl | ⟨rfl, _⟩
    · exact lower_name n3
    · exact lower_upper_name n3
  have hmem : ∀ x ∈ h, ∃ y ∈ n, x = y ∨ x = up y := by
    rcases hh with rfl | ⟨rfl, _⟩
    · intro x hx; exact ⟨x, hx, .inl rfl⟩
    · intro x hx
      simp only [upper, List.mem_map] at hx
      obtain ⟨y, hy, rfl⟩ := hx
      exact ⟨y, hy, .inr rfl⟩
  have hrange : ∀ x ∈ h, 33 ≤ x.toNat ∧ x.toNat ≤ 126 := by
    intro x hx
    obtain ⟨y, hy, h1⟩ := hmem x hx
    have := name_byte y (n3 y hy)
    rcases h1 with rfl | rfl <;> omega
  have hlen : h.length = n.length := by rcases hh with rfl | ⟨rfl, _⟩ <;> simp [upper]
  have hcase : Lib.toUpperA h = h ∨ (Lib.toUpperA h ≠ h ∧ h = n) := by
    by_cases hu : Lib.toUpperA h = h
    · exact .inl hu
    · refine .inr ⟨hu, ?_⟩
      rcases hh with rfl | ⟨rfl, _⟩
      · rfl
      · refine absurd ?_ hu
        unfold Lib.toUpperA upper
        rw [List.map_map]
        exact List.map_congr_left fun x hx => (name_byte x (n3 x hx)).2.2.1
  have HLOW := Lib.hid hlow; clear hlow
  have HRG := Lib.hid hrange; clear hrange hmem
  have HNM := Lib.hid hnm; clear hnm
  have HN3 := Lib.hid n3; clear n3
  have hsz : (ByteArray.mk h.toArray).size ≤ 140737488355328 := by simp [ByteArray.size]; omega
  have hasc : ∀ (j : Nat) (b : UInt8), (ByteArray.mk h.toArray).data.toList[j]? = some b → b.toNat < 128 := by
    intro j b hb
    have := HRG.out b (List.mem_of_getElem? hb); omega
  have HA := Lib.hid hasc; clear hasc
  have HG := Lib.hid hg; clear hg
  have HH := Lib.hid hh; clear hh
  have hFc : Bp.fiveCount b.length ≤ 536870912 := by unfold Bp.fiveCount; omega
  have hFl : (fives8 b).length = Bp.fiveCount b.length := fives8_length b
  have d1 : decide ((h.length : Int) < 1) = false := by simp; omega
  go_enter Tryz.func18, Tryz.ntmps18
  go_wp2_with (go_at_call 34; refine (conv85_any _ a cap b (by omega) ha).mono ?_; rintro e w1 ⟨v1, rfl, hown1, hb1⟩; obtain ⟨a1, cap1, rfl, hnil1, hat1, hlt1⟩ := hown1.at; rw [u8s_length])
  go_loopw [4, 5] (fun s4 s5 wr => ∃ pos : Nat, pos ≤ h.length ∧ s4 = .string ⟨#[]⟩ ∧ s5 = .nilIface ∧ wr = w1.iter ⟨h.toArray⟩ pos) (fun _ _ wr => h.length - wr.iterPos w1.heap.size)
  case atStart => exact ⟨0, Nat.zero_le _, rfl, rfl, rfl⟩
  case round =>
    obtain ⟨pos, hp, rfl, rfl, rfl⟩ := hrel
    by_cases hlt : pos < h.length
    · have hnr := HRG.out h[pos] (List.getElem_mem hlt)
      have hnx : ∀ ty, (Instr.next (.pointer (some ⟨w1.heap.size, 0, none⟩)) true ty).run Tryz.prog (w1.iter ⟨h.toArray⟩ pos) = _ := fun ty => next_ascii w1 h pos ty hlt (by omega)
      go_wp2
      go_roundw
      case rel => exact ⟨pos + 1, by omega, rfl, rfl, rfl⟩
      case measure => simp; omega
    · have hnx : ∀ ty, (Instr.next (.pointer (some ⟨w1.heap.size, 0, none⟩)) true ty).run Tryz.prog (w1.iter ⟨h.toArray⟩ pos) = _ := fun ty => next_end w1 h pos ty (by omega)
      go_wp2_with fail
      have hb2 : Below w1.heap.size w1 (w1.iter ⟨h.toArray⟩ pos) := below_iter _ _ _
      generalize w1.iter ⟨h.toArray⟩ pos = w2 at *
      have hat2 := hat1.below hb2
      have hbw2 : Below w.heap.size w w2 := hb1.trans (hb2.mono hb1.size)
      clear hnx hown1 hlt1 hat1
      have hcs : (Lib.toUpperA h = h ∧ ((n = h) = True) ∧ (n == h) = true) ∨ (Lib.toUpperA h = h ∧ ((n = h) = False) ∧ (n == h) = false) ∨ (¬ Lib.toUpperA h = h ∧ ((n = h) = True) ∧ (n == h) = true) := by
        rcases hcase with h1 | ⟨h1, h2⟩
        · by_cases h2 : n = h
          · exact .inl ⟨h1, eq_true h2, by rw [h2]; exact beq_self_eq_true _⟩
          · exact .inr (.inl ⟨h1, eq_false h2, beq_eq_false_iff_ne.2 h2⟩)
        · exact .inr (.inr ⟨h1, eq_true h2.symm, by rw [h2]; exact beq_self_eq_true _⟩)
      clear hcase
      rcases hcs with ⟨hU, hE, hQ⟩ | ⟨hU, hE, hQ⟩ | ⟨hU, hE, hQ⟩
      all_goals
        go_wp2_with (first
          | (go_at_call 19; refine (Tryz.strings_ToUpper_ascii _ _ hsz HA.out).mono ?_; rintro e w3 ⟨rfl, hb3⟩; have hbw2 := hbw2.trans (hb3.mono hbw2.size); have hat2 := hat2.below hb3; clear hb3)
          | (go_at_call 30; refine (Tryz.strings_ToLower_ascii _ _ hsz HA.out).mono ?_; rintro e w3 ⟨rfl, hb3⟩; rw [show Lib.toLowerA (ByteArray.mk h.toArray).data.toList = n from HLOW.out]; have hbw2 := hbw2.trans (hb3.mono hbw2.size); have hat2 := hat2.below hb3; clear hb3))
        have hat1 : At w3 a1 (u8s (fives8 b)) := hat2
        have hbw1 : Below w.heap.size w w3 := hbw2
        clear hat2 hbw2 hb2
        have hB0 : Lib.IsBuilder 76 5 w3.heap.size w3.heap.size (u8s []) (w3.alloc (.cells #[.pointer none, .slice none 0 0] 76)) := Lib.fresh_isBuilder _ _ w3
        have hbb0 : Below w3.heap.size w3 (w3.alloc (.cells #[.pointer none, .slice none 0 0] 76)) := Below.alloc (Below.refl _ _) (Nat.le_refl _) _
        refine (writeString_any w3.heap.size w3.heap.size (u8s []) ⟨n.toArray⟩ _ hB0 (by simp [ByteArray.size]; omega) hbb0.size).mono ?_
        rintro e w4 ⟨rfl, hB4, hb4⟩
        have hbb4 := hbb0.trans hb4
        clear hB0 hbb0 hb4
        go_wp2_with (go_at_call 36; refine (writeString_at w3.heap.size w3.heap.size (u8s [] ++ Lib.strCells ⟨n.toArray⟩) ⟨#[49]⟩ _ hB4 ?s1 hbb4.size).mono ?_; rotate_right; rintro e w5 ⟨rfl, hB5, hb5⟩; have hbb5 := hbb4.trans hb5; clear hB4 hbb4 hb5)
        case s1 => simp [ByteArray.size, Lib.strCells]; omega
        have hB5 : Lib.BuilderAt 76 5 w3.heap.size w3.heap.size (.pointer (some ⟨w3.heap.size, 0, none⟩)) (u8s (n ++ [49])) w5 := by
          have e : u8s [] ++ Lib.strCells ⟨n.toArray⟩ ++ Lib.strCells ⟨#[49]⟩ = u8s (n ++ [49]) := by
            rw [u8s_append]; rfl
          rw [← e]; exact hB5
        have hF32 : ∀ j (hj : j < (fives8 b).length), (fives8 b)[j].toNat < 32 := fun j hj => digits_lt n b _ (List.mem_append_left _ (List.getElem_mem hj))
        have HF32 := Lib.hid hF32; clear hF32
        have HTX : Hid (text n b = n ++ [49] ++ (fives8 b).map ltr ++ (sum6 n b).map ltr) := by
          unfold Hid text digits
          rw [List.map_append]; simp
        have HS6 : Hid (sum6 n b = six8 (Bp.pm 1 (sumOver (Lib.toLowerA (ByteArray.mk n.toArray).data.toList) (fives8 b) ++ [0, 0, 0, 0, 0, 0]) ^^^ 1)) := by
          unfold Hid sum6
          rw [show Lib.toLowerA (ByteArray.mk n.toArray).data.toList = n from lower_name HN3.out]
        have hs6 : ∀ j (hj : j < (sum6 n b).length), (sum6 n b)[j].toNat < 32 := fun j hj => digits_lt n b _ (List.mem_append_right _ (List.getElem_mem hj))
        have HS32 := Lib.hid hs6; clear hs6
        have hs6l := sum6_length n b
        have hFl2 : (fives8 b).length ≤ 536870912 := by omega
        rw [← hFl] at *
        clear hFc hFl
        generalize fives8 b = F at *
        generalize sum6 n b = S at *
        have HB5 := Lib.hid hB5; clear hB5
        go_loopw [13, 62] (fun _ i wr => ∃ k : Nat, k ≤ F.length ∧ i = .int .i64 (k : Int) ∧ Hid (Lib.BuilderAt 76 5 w3.heap.size w3.heap.size (.pointer (some ⟨w3.heap.size, 0, none⟩)) (u8s (n ++ [49] ++ (F.take k).map ltr)) wr) ∧ Below w3.heap.size w3 wr)
          (fun _ i _ => F.length - (intOf i).toNat)
        case atStart => exact ⟨0, Nat.zero_le _, rfl, by unfold Hid; simpa using HB5.out, hbb5⟩
        case round =>
          clear HB5 hbb5
          obtain ⟨k, hk, rfl, HBU, hbb⟩ := hrel
          by_cases hlt : k < F.length
          · obtain ⟨bb, oo, rfl, hcl⟩ := (hat1.below hbb).u8 k hlt
            have h32 := HF32.out k hlt
            have hg := letter_at F[k] h32
            generalize hxe : F[k].toNat = x at *
            have HGL := Lib.hid hg; clear hg
            have HXE := Lib.hid hxe; clear hxe
            have htk : u8s (n ++ [49] ++ (F.take (k + 1)).map ltr) = u8s (n ++ [49] ++ (F.take k).map ltr) ++ [Value.int .u8 ((ltr F[k]).toNat : Int)] := by
              rw [List.take_succ_eq_append_getElem hlt, List.map_append, ← List.append_assoc, u8s_append]; rfl
            have HTK := Lib.hid htk; clear htk
            go_wp2_with (go_at_call 37; refine (writeByte_kept w3.heap.size w3.heap.size _ _ _ HBU.out ?s1 hbb.size).mono ?_; rotate_right; rintro e w6 ⟨rfl, hB6, hb6, -⟩; have hbb6 := hbb.trans hb6; clear HBU hbb hb6; have HB6 := Lib.hid hB6; clear hB6)
            case s1 => simp; omega
            go_roundw
            case rel =>
              refine ⟨k + 1, by omega, by go_num, ?_, hbb6⟩
              unfold Hid
              rw [HTK.out, ← HGL.out]
              exact HB6.out
            case measure => simp [intOf]; omega
          · have hkn : k = F.length := by omega
            subst hkn
            rw [List.take_length] at HBU
            have hat1 := hat1.below hbb
            have hgen : Gens _ := below_gens HG.out (hbw1.trans (hbb.mono hbw1.size)) h0
            have HGr := Lib.hid hgen; clear hgen
            clear hlt
            go_wp2_with (go_at_call 38; refine (create_any _ ⟨n.toArray⟩ (by simp [ByteArray.size]; omega) (fun j b hb => by have := name_byte b (HN3.out b (List.mem_of_getElem? hb)); omega) a1 cap1 F (by omega) hat1 HGr.out (by have := hbb.size; have := hbw1.size; omega)).mono ?_; rintro e w7 ⟨v7, rfl, hown7, hb7⟩; rw [← HS6.out] at hown7; obtain ⟨a7, cap7, rfl, _, hat7, _⟩ := hown7.at; rw [u8s_length])
            have HB7 : Hid (Lib.BuilderAt 76 5 w3.heap.size w3.heap.size (.pointer (some ⟨w3.heap.size, 0, none⟩)) (u8s (n ++ [49] ++ F.map ltr)) w7) := builder_below HBU.out hb7
            have hbb7 : Below w3.heap.size w3 w7 := hbb.trans (hb7.mono hbb.size)
            have hS6 : 0 < (u8s S).length := by rw [u8s_length]; omega
            obtain ⟨g7, rfl⟩ : ∃ g7, a7 = some ⟨g7, 0, none⟩ := by
              rcases hown7 with ⟨h, h2⟩ | ⟨g, cap, cur, fz, hv, _⟩
              · rw [h2] at hS6; exact absurd hS6 (by simp)
              · injection hv with h1 h2 h3
                exact ⟨g, h1⟩
            have hg7 := hown7.lt g7 rfl
            have hc7 : ∀ j (hj : j < S.length), w7.cell? ⟨g7, j, none⟩ = some (.int .u8 (S[j].toNat : Int)) := by
              intro j hj
              have := own_cell hown7 rfl j (by rw [u8s_length]; exact hj)
              rw [this, u8s_get]
            have HC7 := Lib.hid hc7; clear hc7
            have hBg : w3.heap.size < g7 := by
              have := HBU.out.lt; omega
            clear hown7 hbb HBU hb7 HGr hat1 hat7
            go_loopw [15, 74] (fun _ i wr => ∃ k : Nat, k ≤ S.length ∧ i = .int .i64 (k : Int) ∧ Hid (Lib.BuilderAt 76 5 w3.heap.size w3.heap.size (.pointer (some ⟨w3.heap.size, 0, none⟩)) (u8s (n ++ [49] ++ F.map ltr ++ (S.take k).map ltr)) wr) ∧ Hid (wr.heap[g7]? = w7.heap[g7]?) ∧ g7 < wr.heap.size ∧ Below w3.heap.size w3 wr)
              (fun _ i _ => S.length - (intOf i).toNat)
            case atStart => exact ⟨0, Nat.zero_le _, rfl, by unfold Hid; simpa using HB7.out, rfl, hg7.2, hbb7⟩
            case round =>
              clear HB7 hbb7
              obtain ⟨k, hk, rfl, HBU, HROW, hgl, hbb⟩ := hrel
              by_cases hlt : k < S.length
              · have hcl : wr.cell? ⟨g7, k, none⟩ = some (.int .u8 (S[k].toNat : Int)) := by
                  rw [← HC7.out k hlt]; simp only [World.cell?, HROW.out]
                have h32 := HS32.out k hlt
                have hg := letter_at S[k] h32
                generalize hxe : S[k].toNat = x at *
                have HGL := Lib.hid hg; clear hg
                have HXE := Lib.hid hxe; clear hxe
                have htk : u8s (n ++ [49] ++ F.map ltr ++ (S.take (k + 1)).map ltr) = u8s (n ++ [49] ++ F.map ltr ++ (S.take k).map ltr) ++ [Value.int .u8 ((ltr S[k]).toNat : Int)] := by
                  rw [List.take_succ_eq_append_getElem hlt, List.map_append, ← List.append_assoc, u8s_append]; rfl
                have HTK := Lib.hid htk; clear htk
                have hkeep : ∀ v, wr.ownsRow w3.heap.size 5 1 v (u8s (n ++ [49] ++ F.map ltr ++ (S.take k).map ltr)).length (u8s (n ++ [49] ++ F.map ltr ++ (S.take k).map ltr)) → v.ownBlock ≠ some g7 := by
                  intro v hv hvb
                  have h1 := own_cell (Own.of hv) hvb 0 (by simp; omega)
                  have h2 : wr.cell? ⟨g7, 0, none⟩ = some (.int .u8 (S[0].toNat : Int)) := by
                    rw [← HC7.out 0 (by omega)]; simp only [World.cell?, HROW.out]
                  rw [h2, u8s_get] at h1
                  have h3 := HS32.out 0 (by omega)
                  have h4 := name_byte _ (HN3.out n[0] (List.getElem_mem n1))
                  have h5 : (n ++ [49] ++ F.map ltr ++ (S.take k).map ltr)[0]'(by simp; omega) = n[0] := by
                    rw [List.getElem_append_left (by simp; omega), List.getElem_append_left (by simp), List.getElem_append_left n1]
                  rw [h5] at h1
                  injection h1 with h1
                  injection h1 with _ h1
                  omega
                have HKEEP := Lib.hid hkeep; clear hkeep
                go_wp2_with (go_at_call 37; refine (writeByte_kept w3.heap.size w3.heap.size _ _ _ HBU.out ?s1 hbb.size).mono ?_; rotate_right; rintro e w6 ⟨rfl, hB6, hb6, v6, _, hv6, hk6⟩; have HR6 : Hid (w6.heap[g7]? = w7.heap[g7]?) := (hk6 g7 hgl (by omega) (HKEEP.out _ hv6)).trans HROW.out; have hgl6 : g7 < w6.heap.size := by have := hb6.size; omega)
                case s1 => simp; omega
                have hbb6 := hbb.trans hb6
                have HB6 := Lib.hid hB6; clear hB6
                clear HBU hbb hb6 hk6 hv6
                go_roundw
                case rel =>
                  refine ⟨k + 1, by omega, by go_num, ?_, HR6, hgl6, hbb6⟩
                  unfold Hid
                  rw [HTK.out, ← HGL.out]
                  exact HB6.out
                case measure => simp [intOf]; omega
              · have hkn : k = S.length := by omega
                subst hkn
                rw [List.take_length, ← HTX.out] at HBU
                have hta : ∀ (j : Nat) (c : UInt8), (ByteArray.mk (text n b).toArray).data.toList[j]? = some c → c.toNat < 128 := fun j c hc => text_ascii HN3.out c (List.mem_of_getElem? hc)
                have HTA := Lib.hid hta; clear hta
                have htl : (ByteArray.mk (text n b).toArray).size ≤ 140737488355328 := by
                  have h1 := text_length n b
                  have h2 : Bp.fiveCount b.length ≤ 536870912 := by unfold Bp.fiveCount; omega
                  simp [ByteArray.size]; omega
                clear hlt
                go_wp2_with (first
                  | (go_at_call 39; refine (Tryz.Builder_String_any w3.heap.size w3.heap.size (text n b) _ (Or.inr HBU.out) hbb.size).mono ?_; rintro e w8 ⟨rfl, hb8⟩; have hbb8 : Below w.heap.size w w8 := hbw1.trans ((hbb.trans hb8).mono hbw1.size))
                  | (go_at_call 19; refine (Tryz.strings_ToUpper_ascii _ _ htl HTA.out).mono ?_; rintro e w9 ⟨rfl, hb9⟩; have hbb8 := hbb8.trans (hb9.mono hbb8.size)))
                go_ret2
                refine ⟨?_, hbb8⟩
                unfold encText
                simp only [hE, if_true, if_false]
                first | rfl | (rw [← toUpper_eq]; rfl)
end Go.Proofs.YthjminkkmljjhaaGreatDoor

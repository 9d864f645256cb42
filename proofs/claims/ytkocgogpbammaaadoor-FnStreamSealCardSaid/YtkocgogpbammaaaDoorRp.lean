/- The reference's Poly1305. Conditions: a key of 32 bytes, sizes. -/
import Derived.Test.YtkocgogpbammaaaDoorPd
import Derived.Test.YtkocgogpbammaaaDoorPl
import Derived.Test.YtkocgogpbammaaaDoorSj
import Derived.Test.YtkocgogpbammaaaDoorGc
import Derived.Laws.BitsAllLaws
set_option linter.unusedVariables false
set_option linter.unusedSimpArgs false
namespace Go.Proofs.YtkocgogpbammaaaDoor
open Go.RowKit

abbrev EAt (w : World) (g : Nat) (l : List Nat) : Prop := Arr w g 87 (u64s l)
abbrev objE (l : List Nat) : Obj := .cells (u64s l).toArray 87

/-- What the product holds within its rounds. -/
structure PIn (A B L : List Nat) (i k : Nat) : Prop where
  len : L.length = 18
  le : ∀ d ∈ L, d ≤ (9 * i + k) * 4294836225
  val : valN L = valN (A.take i) * valN B + 65536 ^ i * (A.getD i 0) * valN (B.take k)
theorem zer18_val : valN zer18 = 0 := (valN_dig 18 0).trans (Nat.zero_mod _)
theorem PIn.start (A B : List Nat) : PIn A B zer18 0 0 := by
  constructor
  · rfl
  · intro d hd
    rw [List.eq_of_mem_replicate (show d ∈ List.replicate 18 0 from hd)]; exact Nat.zero_le _
  · rw [zer18_val, List.take_zero, List.take_zero]; simp only [valN, Nat.zero_mul, Nat.mul_zero, Nat.add_zero]
theorem PIn.step {A B L : List Nat} {i k x y : Nat} (h : PIn A B L i k) (hx : A[i]? = some x) (hy : B[k]? = some y) (hx2 : x < 65536) (hy2 : y < 65536) (hj : i + k < L.length) : PIn A B (L.set (i + k) (L[i + k] + x * y)) i (k + 1) := by
  obtain ⟨h1, h2, h3⟩ := h
  have hxy : x * y ≤ 65535 * 65535 := Nat.mul_le_mul (by omega) (by omega)
  have hd := h2 L[i + k] (List.getElem_mem _)
  obtain ⟨hxl, hxe⟩ := List.getElem?_eq_some_iff.1 hx
  obtain ⟨hyl, hye⟩ := List.getElem?_eq_some_iff.1 hy
  have hgx : A.getD i 0 = x := by simp [List.getD, hx]
  refine ⟨by simpa using h1, ?_, ?_⟩
  · intro u hu
    rcases List.mem_or_eq_of_mem_set hu with h | h
    · exact Nat.le_trans (h2 u h) (Nat.mul_le_mul_right _ (by omega))
    · rw [h, show (9 * i + (k + 1)) * 4294836225 = (9 * i + k) * 4294836225 + 65535 * 65535 from by omega]
      exact Nat.add_le_add hd hxy
  · rw [valN_set L (i + k) (x * y) hj, h3, valN_take_succ B k hyl, hye, hgx, Nat.pow_add]
    grind
theorem PIn.next {A B L : List Nat} {i : Nat} (h : PIn A B L i 9) (hi : i < A.length) (hB : B.length = 9) : PIn A B L (i + 1) 0 := by
  obtain ⟨h1, h2, h3⟩ := h
  have hgx : A.getD i 0 = A[i] := by simp [List.getD, hi]
  refine ⟨h1, fun d hd => by have := h2 d hd; omega, ?_⟩
  rw [h3, valN_take_succ A i hi, hgx, show B.take 9 = B from List.take_of_length_le (by omega)]
  simp only [List.take_zero, valN]
  grind

/-- The carry into the digit k of a sum. -/
def crr (a s k : Nat) : Nat := (a % 65536 ^ k + s % 65536 ^ k) / 65536 ^ k
theorem crr_le (a s k : Nat) : crr a s k ≤ 1 := by
  unfold crr
  have hp : 0 < 65536 ^ k := Nat.pow_pos (by decide)
  have h1 := Nat.mod_lt a hp
  have h2 := Nat.mod_lt s hp
  exact Nat.le_of_lt_succ (Nat.div_lt_of_lt_mul (by omega))
theorem sum_digit (a s k : Nat) : (a + s) / 65536 ^ k % 65536 = (crr a s k + a / 65536 ^ k % 65536 + s / 65536 ^ k % 65536) % 65536 := by
  unfold crr
  have hp : 0 < 65536 ^ k := Nat.pow_pos (by decide)
  generalize 65536 ^ k = P at *
  have h1 := Nat.div_add_mod a P
  have h2 := Nat.div_add_mod s P
  have h3 : (a + s) / P = (a % P + s % P) / P + (a / P + s / P) := by
    rw [show a + s = a % P + s % P + P * (a / P + s / P) by rw [Nat.mul_add]; omega, Nat.add_mul_div_left _ _ hp]
  rw [h3]
  omega
theorem sum_carry (a s k : Nat) : crr a s (k + 1) = (crr a s k + a / 65536 ^ k % 65536 + s / 65536 ^ k % 65536) / 65536 := by
  unfold crr
  have hp : 0 < 65536 ^ k := Nat.pow_pos (by decide)
  rw [Nat.pow_succ]
  generalize 65536 ^ k = P at *
  have h1 : a % (P * 65536) = a % P + P * (a / P % 65536) := Nat.mod_mul
  have h2 : s % (P * 65536) = s % P + P * (s / P % 65536) := Nat.mod_mul
  rw [h1, h2, ← Nat.div_div_eq_div_mul]
  congr 1
  rw [show a % P + P * (a / P % 65536) + (s % P + P * (s / P % 65536)) = a % P + s % P + P * (a / P % 65536 + s / P % 65536) by rw [Nat.mul_add]; omega, Nat.add_mul_div_left _ _ hp]
  omega
theorem two_bytes (S : List UInt8) (k : Nat) (h : 2 * k + 1 < S.length) : Lib.leNat S / 65536 ^ k % 65536 = (S[2 * k]).toNat + 256 * (S[2 * k + 1]).toNat := by
  have e : S = S.take (2 * k) ++ (S[2 * k] :: S[2 * k + 1] :: S.drop (2 * k + 2)) := by
    rw [← List.drop_eq_getElem_cons, ← List.drop_eq_getElem_cons, List.take_append_drop]
  have h1 : Lib.leNat S = Lib.leNat (S.take (2 * k)) + 65536 ^ k * ((S[2 * k]).toNat + 256 * ((S[2 * k + 1]).toNat + 256 * Lib.leNat (S.drop (2 * k + 2)))) := by
    conv => lhs; rw [e]
    rw [Lib.leNat_append, List.length_take, Nat.min_eq_left (by omega), show (65536 : Nat) = 256 ^ 2 from rfl, ← Nat.pow_mul]
    rfl
  have h2 := leNat_lt (S.take (2 * k))
  rw [List.length_take, Nat.min_eq_left (by omega), Nat.pow_mul, show (256 : Nat) ^ 2 = 65536 from rfl] at h2
  rw [h1, Nat.add_mul_div_left _ _ (Nat.pow_pos (by decide)), Nat.div_eq_of_lt h2]
  have h3 := UInt8.toNat_lt (S[2 * k])
  have h4 := UInt8.toNat_lt (S[2 * k + 1])
  omega
theorem leB_step (T k c : Nat) (h : T / 65536 ^ k % 65536 = c % 65536) : Lib.leBytes (2 * (k + 1)) T = Lib.leBytes (2 * k) T ++ [UInt8.ofNat c, UInt8.ofNat (c / 256)] := by
  have e1 : 256 ^ (2 * k) = 65536 ^ k := by rw [Nat.pow_mul]
  rw [show 2 * (k + 1) = 2 * k + 2 by omega, leBytes_snoc2, Nat.pow_succ, e1, ← Nat.div_div_eq_div_mul]
  congr 1
  have f1 : (T / 65536 ^ k % 256).toUInt8 = UInt8.ofNat c := by
    rw [show T / 65536 ^ k % 256 = c % 256 by omega]
    apply UInt8.toNat_inj.1
    rw [Lib.toUInt8_mod, UInt8.toNat_ofNat']
  have f2 : (T / 65536 ^ k / 256 % 256).toUInt8 = UInt8.ofNat (c / 256) := by
    rw [show T / 65536 ^ k / 256 % 256 = c / 256 % 256 by omega]
    apply UInt8.toNat_inj.1
    rw [Lib.toUInt8_mod, UInt8.toNat_ofNat']
  rw [f1, f2]

set_option maxRecDepth 100000 in
set_option maxHeartbeats 16000000 in
theorem poly_any (w : World) (gk ok ck gm om cm n0 : Nat) (key m0 : List UInt8) (hk : key.length = 32) (hck : 32 ≤ ck) (hn : n0 = m0.length) (hcm : n0 ≤ cm) (hbig : n0 ≤ 1099511627776) (hKR : w.rangeAt gk ok (u8s key)) (hMR : w.rangeAt gm om (u8s m0)) :
    Calls Tryd.prog 24 #[.slice (some ⟨gk, ok, none⟩) 32 ck, .slice (some ⟨gm, om, none⟩) n0 cm] w fun e w' => ∃ v, e = .returned v ∧ Own w' w.heap.size 5 v (u8s (polyT key m0)) ∧ Below w.heap.size w w' := by
  have hR0 : DAt (w.alloc (objD zer9)) w.heap.size zer9 := arr_new w _ _
  have hb0 := below_alloc w (objD zer9)
  have HKR := Lib.hid hKR
  have HMR := Lib.hid hMR
  have HK := Lib.hid hk
  have HN := Lib.hid hn
  clear hKR hMR hk hn
  go_enter Tryd.func24, Tryd.ntmps24
  go_wp2_with (refine wpList_storeV d9_size rfl (.tmp 5) (.tmp 20) rfl w.heap.size (u64s zer9) (u64s zer9) rfl rfl (u64s_oneCell _) rfl rfl hR0 ?_; intro w3 hR3 hg3; refine Hid.out ?_)
  have hb3 := bkept hb0 hg3 (Nat.le_refl _) hb0.size
  clear hR0 hb0 hg3
  refine Lib.hid ?_
  go_wp2_with fail
  go_loopw [6] (fun iv wr => ∃ k : Nat, k ≤ 16 ∧ iv = .int .i64 k ∧ DAt wr w.heap.size (dig 9 (Lib.leNat ((clamped key).take k))) ∧ Below w.heap.size w wr) (fun iv _ => 16 - (intOf iv).toNat)
  case atStart => exact ⟨0, Nat.zero_le _, rfl, (show DAt _ _ (dig 9 (Lib.leNat ((clamped key).take 0))) by rw [List.take_zero]; exact hR3), hb3⟩
  case round =>
    clear hR3 hb3
    obtain ⟨k, hk16, rfl, hR, hb⟩ := hrel
    by_cases hlt : k < 16
    · have hkl : k < key.length := by rw [HK.out]; omega
      have hck2 := range_u8 (range_below HKR.out hb) k (key[k]) (List.getElem?_eq_getElem hkl)
      have hcg := clamped_get key k hlt hkl
      have hcl : (clamped key).length = 16 := clamped_length key
      have hN := leNat_lt ((clamped key).take k)
      rw [List.length_take, Nat.min_eq_left (by omega)] at hN
      have hput := dig_put (Lib.leNat ((clamped key).take k)) (clampB k key[k]).toNat k hN (UInt8.toNat_lt _) (by omega)
      rw [← hcg, ← leNat_take (clamped key) k (by omega), hcg] at hput
      have ca := hR.cell (k / 2) (by simp; omega)
      rw [u64s_get] at ca
      have hcd : (dig 9 (Lib.leNat ((clamped key).take k)))[k / 2]'(by simp; omega) = Lib.leNat ((clamped key).take k) / 65536 ^ (k / 2) % 65536 := by rw [dig_get]
      rw [hcd] at ca
      obtain ⟨hd, hst⟩ := hput
      obtain ⟨x, hx⟩ : ∃ x, x = key[k].toNat := ⟨_, rfl⟩
      obtain ⟨y, hy⟩ : ∃ y, y = (clampB k key[k]).toNat := ⟨_, rfl⟩
      have hy256 : y < 256 := by rw [hy]; exact UInt8.toNat_lt _
      have hx256 : x < 256 := by rw [hx]; exact UInt8.toNat_lt _
      have hclamp : Hid (y = if k % 4 = 3 then x &&& 15 else if 0 < k ∧ k % 4 = 0 then x &&& 252 else x) := by
        refine Lib.hid ?_
        rw [hy, hx]
        unfold clampB
        split
        · rw [UInt8.toNat_and]; rfl
        · split
          · rw [UInt8.toNat_and]; rfl
          · rfl
      rw [← hy] at hst
      rw [← hx] at hck2
      generalize Lib.leNat ((clamped key).take k) / 65536 ^ (k / 2) % 65536 = d at *
      obtain ⟨q, hq⟩ : ∃ q, q = k / 2 := ⟨_, rfl⟩
      obtain ⟨m, hm⟩ : ∃ m, m = k % 2 := ⟨_, rfl⟩
      obtain ⟨sh, hsh⟩ : ∃ sh, sh = 8 * m := ⟨_, rfl⟩
      obtain ⟨z, hz⟩ : ∃ z, z = y * 256 ^ m := ⟨_, rfl⟩
      have hyy : z < 65536 ∧ z = y * 2 ^ sh := by
        rw [hz, hsh]
        rcases (show m = 0 ∨ m = 1 by omega) with e | e <;> rw [e] <;> simp <;> omega
      rw [← hq, ← hm, ← hz] at hst
      rw [← hq] at ca
      have hq9 : q < 9 := by omega
      have hm2 : m < 2 := by omega
      obtain ⟨q4, hq4⟩ : ∃ q4, q4 = k % 4 := ⟨_, rfl⟩
      rw [← hq4] at hclamp
      have em4 : (k : Int).tmod 4 = (q4 : Int) := by rw [Int.tmod_eq_emod_of_nonneg (by omega)]; omega
      have eq1 : IntKind.i64.wrap ((k : Int) / 2) = (q : Int) := (IntWalk.i64_in _ (by omega)).trans (by omega)
      have em1 : (k : Int).tmod 2 = (m : Int) := by rw [Int.tmod_eq_emod_of_nonneg (by omega)]; omega
      have es1 : IntKind.i64.wrap (8 * (m : Int)) = (sh : Int) := (IntWalk.i64_in _ (by omega)).trans (by omega)
      have lsh : sh < 64 := by omega
      have ey1 : IntKind.u64.wrap ((y : Int) * 2 ^ sh) = (z : Int) := by
        rw [show ((y : Int) * 2 ^ sh) = ((y * 2 ^ sh : Nat) : Int) by simp, ← hyy.2]
        exact IntWalk.u64_in _ (by omega)
      have ex1 : IntKind.u64.wrap (y : Int) = (y : Int) := IntWalk.u64_in _ (by omega)
      obtain ⟨s, hs⟩ : ∃ s, s = d + z := ⟨_, rfl⟩
      have ez1 : IntKind.u64.wrap ((d : Int) + (z : Int)) = (s : Int) := (IntWalk.u64_in _ (by omega)).trans (by omega)
      rw [← hs] at hst
      have i1 : (q : Int) < 9 := by omega
      have fz := hR.fr q
      have HST := Lib.hid hst
      have ha15 : bits .and .u8 (x : Int) 15 = ((x &&& 15 : Nat) : Int) := u8_and_nat x 15 hx256 (by decide)
      have ha252 : bits .and .u8 (x : Int) 252 = ((x &&& 252 : Nat) : Int) := u8_and_nat x 252 hx256 (by decide)
      have HQ4 := Lib.hid hq4
      clear hs hx hy hst hcg hcl hN hcd hz hsh hyy hm hq hq4
      have hways : (((q4 : Int) == 3) = true ∧ decide ((k : Int) > 0) = true ∧ ((q4 : Int) == 0) = false ∧ bits .and .u8 (x : Int) 15 = (y : Int)) ∨ (((q4 : Int) == 3) = false ∧ decide ((k : Int) > 0) = true ∧ ((q4 : Int) == 0) = true ∧ bits .and .u8 (x : Int) 252 = (y : Int)) ∨ (((q4 : Int) == 3) = false ∧ decide ((k : Int) > 0) = true ∧ ((q4 : Int) == 0) = false ∧ x = y) ∨ (((q4 : Int) == 3) = false ∧ decide ((k : Int) > 0) = false ∧ x = y) := by
        have hc := hclamp.out
        by_cases h3 : q4 = 3
        · refine Or.inl ⟨by rw [h3]; rfl, decide_eq_true (by have h := HQ4.out; omega), by rw [h3]; rfl, ?_⟩
          rw [ha15, hc, if_pos h3]
        · have b3 : ((q4 : Int) == 3) = false := by rw [beq_eq_false_iff_ne]; omega
          rw [if_neg h3] at hc
          by_cases hk0 : 0 < k
          · have dk : decide ((k : Int) > 0) = true := decide_eq_true (by omega)
            by_cases h0 : q4 = 0
            · refine Or.inr (Or.inl ⟨b3, dk, by rw [h0]; rfl, ?_⟩)
              rw [ha252, hc, if_pos ⟨hk0, h0⟩]
            · rw [if_neg (fun h => h0 h.2)] at hc
              exact Or.inr (Or.inr (Or.inl ⟨b3, dk, by rw [beq_eq_false_iff_ne]; omega, hc.symm⟩))
          · rw [if_neg (fun h => hk0 h.1)] at hc
            exact Or.inr (Or.inr (Or.inr ⟨b3, decide_eq_false (by omega), hc.symm⟩))
      clear ha15 ha252 hclamp
      have i3 : (k : Int) < 32 := by omega
      rcases hways with ⟨b1, b2, b3, b4⟩ | ⟨b1, b2, b3, b4⟩ | ⟨b1, b2, b3, rfl⟩ | ⟨b1, b2, rfl⟩
      all_goals (
        have c2 : decide (0 < k) = decide ((k : Int) > 0) := by rw [decide_eq_decide]; omega
        rw [b2] at c2
        go_wp2_with fail
        refine wp_region_still_tail 14 (by as_aux_lemma => kernel_rfl) (by as_aux_lemma => kernel_rfl) ?_
        change wpStill _ _ wr.drew (fun a' => wpList _ _ _ _ a' wr.drew) _ _
        have ca2 : wr.drew.cell? _ = _ := ca
        have fz2 : wr.drew.frozen? _ = _ := fz
        have kR : DAt wr.drew w.heap.size _ := hR
        have kb : Below w.heap.size w wr.drew := ⟨hb.os, hb.tape, hb.output, hb.size, hb.block⟩
        clear ca fz hR hb hck2
        generalize wr.drew = w2 at *
        simp only [List.take_succ_cons, List.take_zero, List.drop_succ_cons, List.drop_zero]
        repeat still_step
        refine wpStill_nil ?_
        have hst2 := dat_set kR q s (by simp; omega)
        rw [HST.out] at hst2
        go_wp2_with fail
        go_roundw
        case rel => exact ⟨k + 1, by omega, by go_num, hst2, kb.setCell (p := ⟨w.heap.size, q, none⟩) (Nat.le_refl _) _⟩
        case measure => simp [intOf]; omega)
    · have hdk : decide ((k : Int) < 16) = false := by simp; omega
      have hkl : k = 16 := by omega
      rw [hkl, List.take_of_length_le (by rw [clamped_length]; exact Nat.le_refl _)] at hR
      clear hkl hlt hk16
      obtain ⟨R9, hR9⟩ : ∃ R, R = dig 9 (rN key) := ⟨_, rfl⟩
      have hR : DAt wr w.heap.size R9 := by rw [hR9]; exact hR
      have hRl : R9.length = 9 := by rw [hR9]; simp
      have HR9 := Lib.hid hR9
      clear hR9
      have hltr := hR.lt
      have hZ : DAt (wr.alloc (objD zer9)) wr.heap.size zer9 := arr_new wr _ _
      have hR1 := hR.below (below_alloc wr (objD zer9))
      have hb1 := Below.alloc hb hb.size (objD zer9)
      have hs1 := size_alloc wr (objD zer9)
      clear hR hb
      go_wp2_with (refine wpList_storeV d9_size rfl (.tmp 8) (.tmp 57) rfl wr.heap.size (u64s zer9) (u64s zer9) rfl rfl (u64s_oneCell _) rfl rfl hZ ?_; intro w5 hA5 hg5; refine Hid.out ?_)
      have hR5 := hR1.kept hg5 (by omega)
      have hb5 := bkept hb1 hg5 (by omega) hb1.size
      obtain ⟨ga, hga⟩ : ∃ g, g = wr.heap.size := ⟨_, rfl⟩
      rw [← hga] at hA5 hltr ⊢
      have hA5 : DAt w5 ga (dig 9 0) := hA5
      clear hg5 hR1 hb1 hZ hs1 hga
      refine Lib.hid ?_
      go_wp2_with fail
      go_loopw [1] (fun pv wr => ∃ (p : List UInt8) (acc o n c : Nat), pv = .slice (some ⟨gm, o, none⟩) n c ∧ n = p.length ∧ n ≤ c ∧ n ≤ n0 ∧ acc < p5 ∧ Hid (polyA (rN key) acc p = polyA (rN key) 0 m0) ∧ w.rangeAt gm o (u8s p) ∧ DAt wr ga (dig 9 acc) ∧ DAt wr w.heap.size R9 ∧ Below w.heap.size w wr) (fun pv _ => match pv with | .slice _ n _ => n | _ => 0)
      case atStart => exact ⟨m0, 0, om, n0, cm, rfl, HN.out, hcm, Nat.le_refl _, by decide, Lib.hid rfl, HMR.out, hA5, hR5, hb5⟩
      case round =>
        clear hA5 hR5 hb5
        obtain ⟨p, acc, o, n, c, rfl, hn, hnc, hnn0, hacc, HP, hMR, hA, hR, hb⟩ := hrel
        rcases Nat.eq_zero_or_pos n with h0 | h0
        · have dn : decide ((n : Int) > 0) = false := decide_eq_false (by omega)
          have dn2 : decide (0 < n) = false := decide_eq_false (by omega)
          have hp0 : p = [] := List.eq_nil_of_length_eq_zero (by omega)
          have HACC : Hid (acc = polyA (rN key) 0 m0) := Lib.hid (by rw [← HP.out, hp0, polyA_nil])
          obtain ⟨g6, hg6⟩ : ∃ g, g = wr.heap.size := ⟨_, rfl⟩
          have hE6 := Own.empty wr wr.heap.size 5 (Nat.le_refl _)
          rw [← hg6] at hE6
          have hA6 := hA.below (below_alloc wr (.cells #[] 5))
          have hb6 := Below.alloc hb hb.size (.cells #[] 5)
          have hlt6 : ga < g6 := by rw [hg6]; exact hA.lt
          have hT0 : Own (wr.alloc (.cells #[] 5)) g6 5 (.slice (some ⟨g6, 0, none⟩) 0 0) (u8s (Lib.leBytes (2 * 0) (acc + sN key))) := hE6
          have HG6 := Lib.hid hg6
          have HLT6 := Lib.hid hlt6
          have HG6L : Hid (w.heap.size ≤ g6) := Lib.hid (by rw [hg6]; exact hb.size)
          rw [hg6] at hT0
          have HH0 := Lib.hid h0
          clear hE6 hA hR hb HP hMR hp0 hn hnc hnn0 hg6 h0
          go_wp2_with fail
          rw [← HG6.out] at hT0 ⊢
          go_loopw [17, 18, 19] (fun v cv iv wr2 => ∃ k : Nat, k ≤ 8 ∧ iv = .int .i64 k ∧ cv = .int .u64 (crr acc (sN key) k : Int) ∧ Own wr2 g6 5 v (u8s (Lib.leBytes (2 * k) (acc + sN key))) ∧ DAt wr2 ga (dig 9 acc) ∧ Below w.heap.size w wr2 ∧ g6 ≤ wr2.heap.size) (fun _ _ iv _ => 8 - (intOf iv).toNat)
          case atStart => exact ⟨0, Nat.zero_le _, rfl, (by unfold crr; simp), hT0, hA6, hb6, (by rw [size_alloc, HG6.out]; omega)⟩
          case round =>
            clear hT0 hA6 hb6
            obtain ⟨k, hk8, rfl, rfl, hO, hA, hb, hg6w⟩ := hrel
            by_cases hlt : k < 8
            · have hS : sN key = Lib.leNat ((key.drop 16).take 16) := rfl
              have hSl : ((key.drop 16).take 16).length = 16 := by rw [List.length_take, List.length_drop, HK.out]; rfl
              have htb := two_bytes ((key.drop 16).take 16) k (by omega)
              have hb0e : ((key.drop 16).take 16)[2 * k]'(by omega) = key[16 + 2 * k]'(by rw [HK.out]; omega) := by rw [List.getElem_take, List.getElem_drop]
              have hb1e : ((key.drop 16).take 16)[2 * k + 1]'(by omega) = key[17 + 2 * k]'(by rw [HK.out]; omega) := by rw [List.getElem_take, List.getElem_drop]; congr 1; omega
              rw [hb0e, hb1e, ← hS] at htb
              have hkr := range_below HKR.out hb
              have cx := range_u8 hkr (16 + 2 * k) (key[16 + 2 * k]'(by rw [HK.out]; omega)) (List.getElem?_eq_getElem _)
              have cy := range_u8 hkr (17 + 2 * k) (key[17 + 2 * k]'(by rw [HK.out]; omega)) (List.getElem?_eq_getElem _)
              have hx2 := UInt8.toNat_lt (key[16 + 2 * k]'(by rw [HK.out]; omega))
              have hy2 := UInt8.toNat_lt (key[17 + 2 * k]'(by rw [HK.out]; omega))
              have ca := hA.cell k (by simp; omega)
              rw [u64s_get, dig_get] at ca
              have hdg := sum_digit acc (sN key) k
              have hcy := sum_carry acc (sN key) k
              have hcl := crr_le acc (sN key) k
              have hal : acc / 65536 ^ k % 65536 < 65536 := Nat.mod_lt _ (by decide)
              rw [htb] at hdg hcy
              generalize (key[16 + 2 * k]'(by rw [HK.out]; omega)).toNat = x at *
              generalize (key[17 + 2 * k]'(by rw [HK.out]; omega)).toNat = y at *
              generalize acc / 65536 ^ k % 65536 = d at *
              obtain ⟨cc, hcc⟩ : ∃ c, c = crr acc (sN key) k := ⟨_, rfl⟩
              rw [← hcc] at hdg hcy hcl ⊢
              obtain ⟨c, hc⟩ : ∃ c, c = cc + d + (x + 256 * y) := ⟨_, rfl⟩
              rw [← hc] at hdg hcy
              have hbs := leB_step (acc + sN key) k c hdg
              have HBS := Lib.hid hbs
              have HCY := Lib.hid hcy
              obtain ⟨i16, hi16⟩ : ∃ i, i = 16 + 2 * k := ⟨_, rfl⟩
              obtain ⟨i17, hi17⟩ : ∃ i, i = 17 + 2 * k := ⟨_, rfl⟩
              obtain ⟨k2, hk2⟩ : ∃ i, i = 2 * k := ⟨_, rfl⟩
              rw [← hi16] at cx
              rw [← hi17] at cy
              have w1 : IntKind.i64.wrap (2 * (k : Int)) = (k2 : Int) := (IntWalk.i64_in _ (by omega)).trans (by omega)
              have w2 : IntKind.i64.wrap (16 + (k2 : Int)) = (i16 : Int) := (IntWalk.i64_in _ (by omega)).trans (by omega)
              have w3' : IntKind.i64.wrap (17 + (k2 : Int)) = (i17 : Int) := (IntWalk.i64_in _ (by omega)).trans (by omega)
              obtain ⟨s1, hs1⟩ : ∃ i, i = cc + d := ⟨_, rfl⟩
              obtain ⟨s2, hs2⟩ : ∃ i, i = cc + d + x := ⟨_, rfl⟩
              obtain ⟨y8, hy8⟩ : ∃ i, i = 256 * y := ⟨_, rfl⟩
              have u1 : IntKind.u64.wrap ((cc : Int) + (d : Int)) = (s1 : Int) := (IntWalk.u64_in _ (by omega)).trans (by omega)
              have u2 : IntKind.u64.wrap (x : Int) = (x : Int) := IntWalk.u64_in _ (by omega)
              have u3 : IntKind.u64.wrap ((s1 : Int) + (x : Int)) = (s2 : Int) := (IntWalk.u64_in _ (by omega)).trans (by omega)
              have u4 : IntKind.u64.wrap (y : Int) = (y : Int) := IntWalk.u64_in _ (by omega)
              have u5 : IntKind.u64.wrap ((y : Int) * 256) = (y8 : Int) := (IntWalk.u64_in _ (by omega)).trans (by omega)
              have u6 : IntKind.u64.wrap ((s2 : Int) + (y8 : Int)) = (c : Int) := (IntWalk.u64_in _ (by omega)).trans (by omega)
              have j1 : (i16 : Int) < 32 := by omega
              have j2 : (i17 : Int) < 32 := by omega
              have j3 : (k : Int) < 9 := by omega
              have j4 : (k : Int) < 8 := by omega
              have n1' : i16 < 32 := by omega
              have n2' : i17 < 32 := by omega
              have hcb : c ≤ 200000 := by omega
              obtain ⟨b0, hb0⟩ : ∃ b, b = (UInt8.ofNat c).toNat := ⟨_, rfl⟩
              obtain ⟨b1, hb1⟩ : ∃ b, b = (UInt8.ofNat (c / 256)).toNat := ⟨_, rfl⟩
              have v0 : (c : Int) % 256 = (b0 : Int) := by rw [hb0, UInt8.toNat_ofNat']; omega
              have v1 : (c : Int) / 256 % 256 = (b1 : Int) := by rw [hb1, UInt8.toNat_ofNat']; omega
              have v2 : (c : Int) / 65536 = (crr acc (sN key) (k + 1) : Int) := by rw [hcy]; omega
              obtain ⟨cr, hcr⟩ : ∃ x, x = crr acc (sN key) (k + 1) := ⟨_, rfl⟩
              rw [← hcr] at v2
              have HCR := Lib.hid hcr
              have HU : Hid (u8s [UInt8.ofNat c, UInt8.ofNat (c / 256)] = [.int .u8 (b0 : Int), .int .u8 (b1 : Int)]) := Lib.hid (by rw [hb0, hb1]; rfl)
              have hkk : Lib.leBytes (2 * k) (acc + sN key) = Lib.leBytes (2 * k) (acc + sN key) := rfl
              have hl2k : (Lib.leBytes (2 * k) (acc + sN key)).length = 2 * k := Lib.leBytes_length _ _
              obtain ⟨O, hOO⟩ : ∃ O, O = u8s (Lib.leBytes (2 * k) (acc + sN key)) := ⟨_, rfl⟩
              have hOl : O.length = 2 * k := by rw [hOO, u8s_length, hl2k]
              rw [← hOO] at hO
              have HOO := Lib.hid hOO
              have hltA := hA.lt
              clear hdg hcy hbs htb hb0e hb1e hS hSl hkr hi16 hi17 hk2 hs1 hs2 hy8 hcc hc hb0 hb1 hcr hkk hl2k hOO
              go_wp2_with fail
              go_quiet (fail)
              clear w1 w2 w3' u1 u2 u3 u4 u5 u6 j1 j2 cx cy ca
              have kO : Own ((wr.drewN nq).alloc (.cells #[.int .u8 (b0 : Int), .int .u8 (b1 : Int)] 5)) g6 5 _ O := Own.alloc (show Own (wr.drewN nq) _ _ _ _ from hO) _
              have kat : At ((wr.drewN nq).alloc (.cells #[.int .u8 (b0 : Int), .int .u8 (b1 : Int)] 5)) (some ⟨wr.heap.size, 0, none⟩) [.int .u8 (b0 : Int), .int .u8 (b1 : Int)] := (arr_new (wr.drewN nq) [.int .u8 (b0 : Int), .int .u8 (b1 : Int)] 5).at
              have kA : DAt ((wr.drewN nq).alloc (.cells #[.int .u8 (b0 : Int), .int .u8 (b1 : Int)] 5)) ga (dig 9 acc) := Arr.below (w := wr.drewN nq) hA (below_alloc _ _)
              have kb : Below w.heap.size w ((wr.drewN nq).alloc (.cells #[.int .u8 (b0 : Int), .int .u8 (b1 : Int)] 5)) := Below.alloc (below_drewN hb nq) hb.size _
              have hgs : g6 ≤ ((wr.drewN nq).alloc (.cells #[.int .u8 (b0 : Int), .int .u8 (b1 : Int)] 5)).heap.size := by
                rw [size_alloc]
                show g6 ≤ wr.heap.size + 1
                omega
              have q1 : (O.length + ([.int .u8 (b0 : Int), .int .u8 (b1 : Int)] : List Value).length) * 1 ≤ 140737488355328 := by rw [hOl]; simp; omega
              have q2 : O.length + ([.int .u8 (b0 : Int), .int .u8 (b1 : Int)] : List Value).length ≤ maxLen := by rw [hOl]; simp [maxLen]; omega
              clear hO hA hb
              refine Lib.hid ?_
              go_wp2_with (at_builtin; refine wpList_appendN sty8 rfl (.tmp 141) (.tmp 147) rfl g6 _ _ rfl kO _ [.int .u8 (b0 : Int), .int .u8 (b1 : Int)] _ _ rfl rfl kat (by intro u hu; simp only [List.mem_cons, List.not_mem_nil, or_false] at hu; rcases hu with rfl | rfl <;> rfl) q1 q2 hgs ?_; intro v6 w6 hO6 hg6; refine Hid.out ?_)
              have hA6' : DAt w6 ga (dig 9 acc) := (hg6.block _ kA.lt (fun h => by have := (kO.lt _ h.symm).1; have h2 := HLT6.out; omega)).trans kA
              have hg6s := hg6.size
              have hb6' := below_grown kb kO hg6 (by have h2 := HLT6.out; have h3 := HG6L.out; omega) kb.size
              have hO7 : Own w6 g6 5 v6 (u8s (Lib.leBytes (2 * (k + 1)) (acc + sN key))) := by
                rw [HBS.out, u8s_append, ← HOO.out, HU.out]; exact hO6
              clear kO kat kA kb q1 q2 hg6 hO6
              refine Lib.hid ?_
              go_wp2_with fail
              go_roundw
              case rel => exact ⟨k + 1, by omega, by go_num, (by rw [HCR.out]), hO7, hA6', hb6', Nat.le_trans hgs hg6s⟩
              case measure => simp [intOf]; omega
            · have hdk : decide ((k : Int) < 8) = false := by simp; omega
              have hk8' : k = 8 := by omega
              rw [hk8'] at hO
              clear hk8' hlt hk8
              go_wp2_with fail
              go_ret
              refine ⟨_, rfl, ?_, hb⟩
              rw [HACC.out] at hO
              exact hO.mono HG6L.out
        · have dn : decide ((n : Int) > 0) = true := decide_eq_true (by omega)
          have dn2 : decide (0 < n) = true := decide_eq_true h0
          obtain ⟨n1, hn1⟩ : ∃ x, x = min n 16 := ⟨_, rfl⟩
          have hmin : ∀ W, (Builtin.min_ #[3, 3] 3 #[.int .i64 (n : Int), .int .i64 16]).run Tryd.prog W = .ok (.int .i64 (n1 : Int)) W := fun W => run_min_nat n 16 n1 hn1
          have l16 : n1 ≤ 16 := by omega
          have ln1 : n1 ≤ n := by omega
          have pn1 : 0 < n1 := by omega
          have sl1 : ∀ W, (Instr.sliceAt 23 (.slice (some ⟨gm, o, none⟩) n c) none (some (.int .i64 (n1 : Int))) none).run Tryd.prog W = .ok (.slice (some ⟨gm, o, none⟩) n1 c) W := fun W => run_upto W .i64 gm o n c n1 (by omega)
          obtain ⟨o2, ho2⟩ : ∃ x, x = fromO o c n1 := ⟨_, rfl⟩
          obtain ⟨n2, hn2⟩ : ∃ x, x = n - n1 := ⟨_, rfl⟩
          obtain ⟨c2, hc2⟩ : ∃ x, x = c - n1 := ⟨_, rfl⟩
          have sl2 : ∀ W, (Instr.sliceAt 23 (.slice (some ⟨gm, o, none⟩) n c) (some (.int .i64 (n1 : Int))) none none).run Tryd.prog W = .ok (.slice (some ⟨gm, o2, none⟩) n2 c2) W := fun W => by
            have h := run_from W .i64 gm o n c n1 ln1 hnc
            rw [← ho2, ← hn2, ← hc2] at h
            exact h
          have hpne : p ≠ [] := fun h => by rw [h] at hn; simp at hn; omega
          have hstep := polyA_step (rN key) acc p hpne
          have hB16 : p.take 16 = p.take n1 := by
            rcases Nat.le_total n 16 with h | h
            · rw [List.take_of_length_le (by omega), List.take_of_length_le (by omega)]
            · rw [show n1 = 16 by omega]
          have hD16 : p.drop 16 = p.drop n1 := by
            rcases Nat.le_total n 16 with h | h
            · rw [List.drop_of_length_le (by omega), List.drop_of_length_le (by omega)]
            · rw [show n1 = 16 by omega]
          obtain ⟨B, hB⟩ : ∃ B, B = p.take n1 := ⟨_, rfl⟩
          have hBl : B.length = n1 := by rw [hB, List.length_take, ← hn]; omega
          rw [hB16, hD16, ← hB] at hstep
          have hMR2 : w.rangeAt gm o2 (u8s (p.drop n1)) := by rw [ho2]; exact from_range hMR hn hnc ln1
          have hMRB : w.rangeAt gm o (u8s B) := by rw [hB]; exact range_u8_take hMR n1
          have HN2 : Hid (n2 = (p.drop n1).length) := Lib.hid (by rw [List.length_drop, ← hn, hn2])
          have HSTEP : Hid (polyA (rN key) ((acc + blkN B) * rN key % p5) (p.drop n1) = polyA (rN key) 0 m0) := Lib.hid (by rw [← hstep]; exact HP.out)
          have hn2c : n2 ≤ c2 := by omega
          have hn2l : n2 < n := by omega
          have hbB := blkN_lt B (by omega)
          obtain ⟨D, hD⟩ : ∃ D, D = dig 9 (blkN B) := ⟨_, rfl⟩
          have hDl : D.length = 9 := by rw [hD]; simp
          have HD := Lib.hid hD
          obtain ⟨A9, hA9⟩ : ∃ D, D = dig 9 acc := ⟨_, rfl⟩
          have hAl : A9.length = 9 := by rw [hA9]; simp
          have HA9 := Lib.hid hA9
          rw [← hA9] at hA
          have HACC := Lib.hid hacc
          have hDIG := digits_any wr (some ⟨gm, o, none⟩) c B (by omega) (range_at (range_below hMRB hb))
          rw [hBl, ← hD] at hDIG
          have HDIG := Lib.hid hDIG
          have hltA := hA.lt
          have HBB := Lib.hid hbB
          clear hDIG hD hA9 hstep hB16 hD16 hB hBl hpne hn ho2 hn2 hc2 hn1 hMR hMRB HP hacc hbB
          go_wp2_with fail
          refine HDIG.out.mono ?_
          rintro e w6 ⟨rfl, hb6⟩
          have hA6 := (hA.below hb6).below (below_alloc w6 (objD zer9))
          have hR6 := (hR.below hb6).below (below_alloc w6 (objD zer9))
          have hbb6 := Below.alloc (hb.trans (hb6.mono hb.size)) (hb.trans (hb6.mono hb.size)).size (objD zer9)
          have hZ6 : DAt (w6.alloc (objD zer9)) w6.heap.size zer9 := arr_new w6 _ _
          have hltA6 : ga < w6.heap.size := Nat.lt_of_lt_of_le hltA hb6.size
          clear hA hR hb hb6 HDIG hltA
          go_wp2_with (refine wpList_storeV d9_size rfl (.tmp 10) (.tmp 67) rfl w6.heap.size (u64s D) (u64s zer9) (by simpa using hDl) rfl (u64s_oneCell _) rfl rfl hZ6 ?_; intro w7 hD7 hg7; refine Hid.out ?_)
          have hA7 := hA6.kept hg7 (by omega)
          have hR7 := hR6.kept hg7 (by omega)
          have hb7 := bkept hbb6 hg7 (by omega) hbb6.size
          obtain ⟨gd, hgd⟩ : ∃ g, g = w6.heap.size := ⟨_, rfl⟩
          rw [← hgd] at hD7 hltA6 ⊢
          clear hA6 hR6 hbb6 hZ6 hg7 hgd
          refine Lib.hid ?_
          go_wp2_with fail
          go_loopw [68] (fun iv wr2 => ∃ k : Nat, k ≤ 9 ∧ iv = .int .i64 k ∧ DAt wr2 ga (mix (addC 1 A9 D) A9 k) ∧ DAt wr2 gd D ∧ DAt wr2 w.heap.size R9 ∧ Below w.heap.size w wr2) (fun iv _ => 9 - (intOf iv).toNat)
          case atStart => exact ⟨0, Nat.zero_le _, rfl, by rw [mix_zero]; exact hA7, hD7, hR7, hb7⟩
          case round =>
            clear hA7 hD7 hR7 hb7
            obtain ⟨k, hk9, rfl, hA, hD, hR, hb⟩ := hrel
            have hZl : (addC 1 A9 D).length = 9 := by rw [addC_length _ _ _ (by omega)]; omega
            by_cases hlt : k < 9
            · have hml : (mix (addC 1 A9 D) A9 k).length = 9 := by rw [mix_length _ _ _ (by omega) (by omega)]; omega
              have cb : wr.cell? ⟨ga, k, none⟩ = some (.int .u64 ((A9[k]'(by omega) : Nat) : Int)) := by
                have h := hA.cell k (by simp; omega)
                rw [u64s_get] at h
                have h2 := mix_get (addC 1 A9 D) A9 k (by omega) (by omega)
                rw [List.getElem?_eq_getElem (by omega)] at h2
                rw [Option.some.inj h2] at h
                exact h
              have ca := hD.cell k (by simp; omega)
              rw [u64s_get] at ca
              have hz := addC_get 1 A9 D (by omega) k (by omega)
              have hx : A9[k]'(by omega) < 65536 := by have := dig_lt 9 acc; rw [← HA9.out] at this; exact this _ (List.getElem_mem _)
              have hy : D[k]'(by omega) < 65536 := by have := dig_lt 9 (blkN B); rw [← HD.out] at this; exact this _ (List.getElem_mem _)
              generalize A9[k]'(by omega) = x at *
              generalize D[k]'(by omega) = y at *
              obtain ⟨z, hzz⟩ : ∃ z, z = x + 1 * y := ⟨_, rfl⟩
              rw [← hzz] at hz
              have e2 : IntKind.u64.wrap ((x : Int) + (y : Int)) = (z : Int) := (IntWalk.u64_in _ (by omega)).trans (by omega)
              have hst := dat_set hA k z (by omega)
              rw [mix_set (addC 1 A9 D) A9 k (by omega) (by omega) z hz] at hst
              have fk := hA.fr k
              have i1 : (k : Int) < 9 := by omega
              have HZ := Lib.hid hz
              clear hz hzz
              go_wp2_with fail
              refine wp_region_still_tail 9 (by as_aux_lemma => kernel_rfl) (by as_aux_lemma => kernel_rfl) ?_
              change wpStill _ _ wr.drew (fun a' => wpList _ _ _ _ a' wr.drew) _ _
              have ca2 : wr.drew.cell? _ = _ := ca
              have cb2 : wr.drew.cell? _ = _ := cb
              have fk2 : wr.drew.frozen? _ = _ := fk
              have hst2 : Arr (wr.drew.setCell ⟨ga, k, none⟩ (.int .u64 (z : Int))) ga 84 (u64s (mix (addC 1 A9 D) A9 (k + 1))) := hst
              have kD : DAt wr.drew gd D := hD
              have kR : DAt wr.drew w.heap.size R9 := hR
              have kb : Below w.heap.size w wr.drew := ⟨hb.os, hb.tape, hb.output, hb.size, hb.block⟩
              clear ca cb fk hst hA hD hR hb
              generalize wr.drew = w2 at *
              simp only [List.take_succ_cons, List.take_zero, List.drop_succ_cons, List.drop_zero]
              repeat still_step
              refine wpStill_nil ?_
              go_wp2_with fail
              go_roundw
              case rel => exact ⟨k + 1, by omega, by go_num, hst2, kD.other (by omega), kR.other (by omega), kb.setCell (p := ⟨ga, k, none⟩) (by show w.heap.size ≤ ga; omega) _⟩
              case measure => simp [intOf]; omega
            · have hdk : decide ((k : Int) < 9) = false := by simp; omega
              have h9 : k = 9 := by omega
              rw [h9, mix_all (addC 1 A9 D) A9 9 hZl hAl] at hA
              clear hlt h9 hk9 hD
              obtain ⟨S, hS⟩ : ∃ S, S = addC 1 A9 D := ⟨_, rfl⟩
              rw [← hS] at hA hZl
              have HSV : Hid (valN S = acc + blkN B) := by
                refine Lib.hid ?_
                have h1 := HACC.out
                have h2 := HBB.out
                rw [hS, addC_val 1 A9 D (by omega), HA9.out, HD.out, valN_dig, valN_dig, pow2_144, Nat.one_mul, Nat.mod_eq_of_lt (by unfold p5 at h1; omega), Nat.mod_eq_of_lt (by omega)]
              have HSD : Hid (∀ d ∈ S, d ≤ 1048575) := by
                refine Lib.hid ?_
                intro d hd
                rw [hS] at hd
                have h := addC_le 1 A9 D (by rw [HA9.out]; exact dig_lt _ _) (by rw [HD.out]; exact dig_lt _ _) d hd
                omega
              clear hS
              go_wp2_with (refine wpList_loadV d9_und d9_size rfl (.tmp 8) rfl ga (u64s S) (by simpa using hZl) rfl hA ?_)
              refine (settled_any wr S hZl HSD.out).mono ?_
              rintro e w8 ⟨rfl, hb8⟩
              obtain ⟨A1, hA1⟩ : ∃ x, x = valN S % p5 := ⟨_, rfl⟩
              have hA1p : A1 < p5 := by rw [hA1]; exact Nat.mod_lt _ p5_pos
              obtain ⟨A1D, hA1D⟩ : ∃ x, x = dig 9 A1 := ⟨_, rfl⟩
              have hA1l : A1D.length = 9 := by rw [hA1D]; simp
              rw [← hA1, ← hA1D]
              have HA1 : Hid (A1 = (acc + blkN B) % p5) := Lib.hid (by rw [hA1, HSV.out])
              have HA1D := Lib.hid hA1D
              have hA8 := hA.below hb8
              have hR8 := hR.below hb8
              have hbb8 := hb.trans (hb8.mono hb.size)
              clear hA hR hb hb8 hA1 hA1D HSV HSD
              go_wp2_with (refine wpList_storeV d9_size rfl (.tmp 8) (.tmp 82) rfl ga (u64s A1D) (u64s S) (by simpa using hA1l) (by simpa using hZl) (u64s_oneCell _) rfl rfl hA8 ?_; intro w9 hA9' hg9; refine Hid.out ?_)
              have hR9' := hR8.kept hg9 (by omega)
              have hb9 := bkept hbb8 hg9 (by omega) hbb8.size
              clear hA8 hR8 hbb8 hg9
              have hZ9 : EAt (w9.alloc (obj18 zer18)) w9.heap.size zer18 := arr_new w9 _ _
              have hA10 := hA9'.below (below_alloc w9 (obj18 zer18))
              have hR10 := hR9'.below (below_alloc w9 (obj18 zer18))
              have hb10 := Below.alloc hb9 hb9.size (obj18 zer18)
              have hltP : ga < w9.heap.size := hA9'.lt
              clear hA9' hR9' hb9
              refine Lib.hid ?_
              go_wp2_with (first
                | (refine wpList_storeV d18_size rfl (.tmp 12) (.tmp 83) rfl w9.heap.size (u64s zer18) (u64s zer18) rfl rfl (u64s_oneCell _) rfl rfl hZ9 ?_; intro w11 hP11 hg11)
                | (refine wpList_loadV d9_und d9_size rfl (.tmp 8) rfl ga (u64s A1D) (by simpa using hA1l) rfl (hA10.kept hg11 (by omega)) ?_; refine Hid.out ?_))
              have hA11 := hA10.kept hg11 (by omega)
              have hR11 := hR10.kept hg11 (by omega)
              have hb11 := bkept hb10 hg11 (by omega) hb10.size
              obtain ⟨gp, hgp⟩ : ∃ g, g = w9.heap.size := ⟨_, rfl⟩
              rw [← hgp] at hP11 hltP ⊢
              clear hA10 hR10 hb10 hZ9 hg11 hgp
              refine Lib.hid ?_
              go_wp2_with fail
              go_loopw [85] (fun iv wr2 => ∃ (i : Nat) (L : List Nat), i ≤ 9 ∧ iv = .int .i64 i ∧ Hid (PIn A1D R9 L i 0) ∧ EAt wr2 gp L ∧ DAt wr2 ga A1D ∧ DAt wr2 w.heap.size R9 ∧ Below w.heap.size w wr2) (fun iv _ => 9 - (intOf iv).toNat)
              case atStart => exact ⟨0, zer18, Nat.zero_le _, rfl, PIn.start A1D R9, hP11, hA11, hR11, hb11⟩
              case round =>
                clear hP11 hA11 hR11 hb11
                obtain ⟨i, L, hi9, rfl, HPI, hP, hA, hR, hb⟩ := hrel
                by_cases hlt : i < 9
                · have hix : ∀ W : World, (Instr.index 84 (.agg (u64s A1D).toArray) (.int .i64 (i : Int))).run Tryd.prog W = .ok (.int .u64 ((A1D[i]'(by omega) : Nat) : Int)) W := fun W => by
                    have h := run_index_V (T := 84) (e := 83) (n := 9) d9_und (by kernel_rfl) (by kernel_rfl) (by kernel_rfl) (w := W) (u64s A1D) (by simpa using hA1l) .i64 i (by simp; omega)
                    rw [u64s_get] at h
                    exact h
                  have hx2 : A1D[i]'(by omega) < 65536 := by have := dig_lt 9 A1; rw [← HA1D.out] at this; exact this _ (List.getElem_mem _)
                  have hxe : A1D[i]? = some (A1D[i]'(by omega)) := List.getElem?_eq_getElem _
                  generalize A1D[i]'(by omega) = x at *
                  have HXE := Lib.hid hxe
                  clear hxe
                  go_wp2_with (refine wpList_loadV d9_und d9_size rfl (.tmp 5) rfl w.heap.size (u64s R9) (by simpa using hRl) rfl hR ?_)
                  clear hix
                  go_loopw [90] (fun kv wq => ∃ (k : Nat) (L : List Nat), k ≤ 9 ∧ kv = .int .i64 k ∧ Hid (PIn A1D R9 L i k) ∧ EAt wq gp L ∧ DAt wq ga A1D ∧ DAt wq w.heap.size R9 ∧ Below w.heap.size w wq) (fun kv _ => 9 - (intOf kv).toNat)
                  case atStart => exact ⟨0, L, Nat.zero_le _, rfl, HPI, hP, hA, hR, hb⟩
                  case round =>
                    clear hP hA hR hb HPI
                    obtain ⟨k, L, hk9, rfl, HPI, hP, hA, hR, hb⟩ := hrel
                    by_cases hlt2 : k < 9
                    · have hix : ∀ W : World, (Instr.index 84 (.agg (u64s R9).toArray) (.int .i64 (k : Int))).run Tryd.prog W = .ok (.int .u64 ((R9[k]'(by omega) : Nat) : Int)) W := fun W => by
                        have h := run_index_V (T := 84) (e := 83) (n := 9) d9_und (by kernel_rfl) (by kernel_rfl) (by kernel_rfl) (w := W) (u64s R9) (by simpa using hRl) .i64 k (by simp; omega)
                        rw [u64s_get] at h
                        exact h
                      have hy2 : R9[k]'(by omega) < 65536 := by have := dig_lt 9 (rN key); rw [← HR9.out] at this; exact this _ (List.getElem_mem _)
                      have hye : R9[k]? = some (R9[k]'(by omega)) := List.getElem?_eq_getElem _
                      have hll := HPI.out.len
                      have cl := hP.cell (i + k) (by simp; omega)
                      rw [u64s_get] at cl
                      have fl := hP.fr (i + k)
                      have hst : PIn A1D R9 (L.set (i + k) (L[i + k]'(by omega) + x * R9[k]'(by omega))) i (k + 1) := HPI.out.step HXE.out hye hx2 hy2 (by omega)
                      have hle := HPI.out.le (L[i + k]'(by omega)) (List.getElem_mem _)
                      have hxy : x * R9[k]'(by omega) ≤ 65535 * 65535 := Nat.mul_le_mul (by omega) (by omega)
                      generalize R9[k]'(by omega) = y at *
                      generalize L[i + k]'(by omega) = z at *
                      have HST := Lib.hid hst
                      clear hst
                      obtain ⟨p', hp'⟩ : ∃ p, p = x * y := ⟨_, rfl⟩
                      rw [← hp'] at hxy HST
                      have e1 : IntKind.u64.wrap ((x : Int) * (y : Int)) = (p' : Int) := by
                        rw [← Int.natCast_mul, ← hp']; exact IntWalk.u64_in _ (by omega)
                      have HPP := Lib.hid hp'
                      clear hp'
                      have e2 : IntKind.u64.wrap ((z : Int) + (p' : Int)) = ((z + p' : Nat) : Int) := (IntWalk.u64_in _ (by omega)).trans (by omega)
                      have e3 : IntKind.i64.wrap ((i : Int) + (k : Int)) = ((i + k : Nat) : Int) := (IntWalk.i64_in _ (by omega)).trans (by omega)
                      clear hye
                      go_wp2
                      go_roundw
                      case rel => exact ⟨k + 1, L.set (i + k) (z + p'), by omega, by go_num, HST, dat_set hP (i + k) (z + p') (by omega), hA.other (by omega), hR.other (by omega), hb.setCell (by show w.heap.size ≤ gp; omega) _⟩
                      case measure => simp [intOf]; omega
                    · have hk9' : k = 9 := by omega
                      subst hk9'
                      clear hlt2
                      go_wp2
                      go_roundw
                      case rel => exact ⟨i + 1, L, by omega, by go_num, HPI.out.next (by omega) hRl, hP, hA, hR, hb⟩
                      case measure => simp [intOf]; omega
                · have hi9' : i = 9 := by omega
                  subst hi9'
                  clear hlt
                  have hll := HPI.out.len
                  have hle : ∀ d ∈ L, d ≤ 1125899906842623 := fun d hd => by have h := HPI.out.le d hd; omega
                  have hv : valN L = A1 * rN key := by
                    have h1 := rN_lt key
                    have h2 := hA1p
                    rw [HPI.out.val, show A1D.take 9 = A1D from List.take_of_length_le (by omega), HA1D.out, HR9.out, valN_dig, valN_dig, pow2_144, Nat.mod_eq_of_lt (by unfold p5 at h2; omega), Nat.mod_eq_of_lt (by omega)]
                    simp [valN]
                  have hvl : valN L < 115792089237316195423570985008687907853269984665640564039457584007913129639936 := by
                    rw [hv]
                    have h1 := rN_lt key
                    have h2 := hA1p
                    have h3 : A1 * rN key ≤ 1361129467683753853853498429727072845819 * 21267647932558653966460912964485513216 := Nat.mul_le_mul (by unfold p5 at h2; omega) (by omega)
                    exact Nat.lt_of_le_of_lt h3 (by decide)
                  have HV : Hid (valN L % p5 = (acc + blkN B) * rN key % p5) := Lib.hid (by rw [hv, HA1.out, Nat.mod_mul_mod])
                  have HLOW := Lib.hid (fun W => lowered_any W L hll hle hvl)
                  clear hle hv hvl
                  go_wp2_with (refine wpList_loadV d18_und d18_size rfl (.tmp 12) rfl gp (u64s L) (by simpa using hll) rfl hP ?_)
                  refine (HLOW.out wr).mono ?_
                  rintro e w12 ⟨rfl, hb12⟩
                  rw [HV.out]
                  obtain ⟨acc2, hacc2⟩ : ∃ x, x = (acc + blkN B) * rN key % p5 := ⟨_, rfl⟩
                  have hacc2p : acc2 < p5 := by rw [hacc2]; exact Nat.mod_lt _ p5_pos
                  rw [← hacc2]
                  have HS2 := HSTEP
                  rw [← hacc2] at HS2
                  have hA12 := hA.below hb12
                  have hR12 := hR.below hb12
                  have hb13 := hb.trans (hb12.mono hb.size)
                  clear hA hR hb hb12 hP hacc2 HLOW
                  go_wp2_with (refine wpList_storeV d9_size rfl (.tmp 8) (.tmp 110) rfl ga (u64s (dig 9 acc2)) (u64s A1D) (by simp) (by simpa using hA1l) (u64s_oneCell _) rfl rfl hA12 ?_; intro w13 hA13 hg13; refine Hid.out ?_)
                  have hR13 := hR12.kept hg13 (by omega)
                  have hb14 := bkept hb13 hg13 (by omega) hb13.size
                  clear hA12 hR12 hb13 hg13
                  refine Lib.hid ?_
                  go_wp2_with fail
                  go_roundw
                  case rel => exact ⟨p.drop n1, acc2, o2, n2, c2, rfl, HN2.out, hn2c, by omega, hacc2p, HS2, hMR2, hA13, hR13, hb14⟩
                  case measure => exact hn2l
end Go.Proofs.YtkocgogpbammaaaDoor

/- The reference's stream: a block of 64 bytes of a key, a number and a nonce. Conditions: 32 bytes of a key, 12 of a nonce; a number below 2^32. -/
import Derived.Test.YtkocgogpbammaaaDoorHarr
import Derived.Test.YtkocgogpbammaaaDoorHl
import Derived.StillTailTactics
set_option linter.unusedVariables false
set_option linter.unusedSimpArgs false
namespace Go.Proofs.YtkocgogpbammaaaDoor
open Go.RowKit

def leW (l : List UInt8) (i : Nat) : Nat := le4 (l.getD i 0) (l.getD (i + 1) 0) (l.getD (i + 2) 0) (l.getD (i + 3) 0)
/-- The state ahead of the rounds. -/
def st0 (key : List UInt8) (count : Nat) (nonce : List UInt8) : List Nat :=
  [1634760805, 857760878, 2036477234, 1797285236, leW key 0, leW key 4, leW key 8, leW key 12, leW key 16, leW key 20, leW key 24, leW key 28, count, leW nonce 0, leW nonce 4, leW nonce 8]
def colN (l : List Nat) : Nat → List Nat
  | 0 => l
  | k + 1 => qat (colN l k) k (4 + k) (8 + k) (12 + k)
def diaN (l : List Nat) : Nat → List Nat
  | 0 => l
  | k + 1 => qat (diaN l k) k (4 + (k + 1) % 4) (8 + (k + 2) % 4) (12 + (k + 3) % 4)
def dbl (l : List Nat) : List Nat := diaN (colN l 4) 4
def dblN : Nat → List Nat → List Nat
  | 0, l => l
  | k + 1, l => dbl (dblN k l)
/-- The block's bytes. -/
def ksb (s : List Nat) : List UInt8 := (List.range 64).map fun i => UInt8.ofNat (ad ((dblN 10 s).getD (i / 4) 0) (s.getD (i / 4) 0) / 2 ^ (8 * (i % 4)))
@[simp] theorem ksb_length (s : List Nat) : (ksb s).length = 64 := by simp [ksb]
@[simp] theorem st0_length (key : List UInt8) (count : Nat) (nonce : List UInt8) : (st0 key count nonce).length = 16 := rfl
theorem leW_lt (l : List UInt8) (i : Nat) : leW l i < 4294967296 := le4_lt _ _ _ _
theorem st0_lt (key : List UInt8) (count : Nat) (nonce : List UInt8) (hc : count < 4294967296) : ∀ x ∈ st0 key count nonce, x < 4294967296 := by
  intro x hx
  simp only [st0, List.mem_cons, List.not_mem_nil, or_false] at hx
  rcases hx with rfl | rfl | rfl | rfl | rfl | rfl | rfl | rfl | rfl | rfl | rfl | rfl | rfl | rfl | rfl | rfl <;> first | exact leW_lt _ _ | exact hc | decide
theorem qat_lt (l : List Nat) (a b c d : Nat) (h : ∀ x ∈ l, x < 4294967296) : ∀ x ∈ qat l a b c d, x < 4294967296 := by
  have hg : ∀ j, l.getD j 0 < 4294967296 := by
    intro j
    rcases Nat.lt_or_ge j l.length with hj | hj
    · rw [List.getD_eq_getElem?_getD, List.getElem?_eq_getElem hj]; exact h _ (List.getElem_mem _)
    · rw [List.getD_eq_getElem?_getD, List.getElem?_eq_none hj]; decide
  have hq := qr_lt (l.getD a 0) (l.getD b 0) (l.getD c 0) (l.getD d 0) (hg b) (hg d)
  intro x hx
  unfold qat put4 at hx
  simp only at hx
  rcases List.mem_or_eq_of_mem_set hx with hx | rfl
  · rcases List.mem_or_eq_of_mem_set hx with hx | rfl
    · rcases List.mem_or_eq_of_mem_set hx with hx | rfl
      · rcases List.mem_or_eq_of_mem_set hx with hx | rfl
        · exact h x hx
        · exact hq.1
      · exact hq.2.1
    · exact hq.2.2.1
  · exact hq.2.2.2
theorem colN_lt (l : List Nat) (h : ∀ x ∈ l, x < 4294967296) (k : Nat) : ∀ x ∈ colN l k, x < 4294967296 := by
  induction k with
  | zero => exact h
  | succ k ih => exact qat_lt _ _ _ _ _ ih
theorem diaN_lt (l : List Nat) (h : ∀ x ∈ l, x < 4294967296) (k : Nat) : ∀ x ∈ diaN l k, x < 4294967296 := by
  induction k with
  | zero => exact h
  | succ k ih => exact qat_lt _ _ _ _ _ ih
theorem dbl_lt (l : List Nat) (h : ∀ x ∈ l, x < 4294967296) : ∀ x ∈ dbl l, x < 4294967296 := diaN_lt _ (colN_lt _ h 4) 4
theorem dblN_lt (l : List Nat) (h : ∀ x ∈ l, x < 4294967296) (k : Nat) : ∀ x ∈ dblN k l, x < 4294967296 := by
  induction k with
  | zero => exact h
  | succ k ih => exact dbl_lt _ ih
@[simp] theorem colN_length (l : List Nat) (k : Nat) : (colN l k).length = l.length := by
  induction k with
  | zero => rfl
  | succ k ih => simp [colN, ih]
@[simp] theorem diaN_length (l : List Nat) (k : Nat) : (diaN l k).length = l.length := by
  induction k with
  | zero => rfl
  | succ k ih => simp [diaN, ih]
@[simp] theorem dbl_length (l : List Nat) : (dbl l).length = l.length := by simp [dbl]
@[simp] theorem dblN_length (l : List Nat) (k : Nat) : (dblN k l).length = l.length := by
  induction k with
  | zero => rfl
  | succ k ih => simp [dblN, ih]
theorem take_set_next {α : Type} (L S : List α) (m : Nat) (v : α) (hL : m < L.length) (hS : m < S.length) (h : L.take m = S.take m) (hv : S[m]? = some v) : (L.set m v).take (m + 1) = S.take (m + 1) := by
  rw [List.take_succ_eq_append_getElem (by simpa using hL), List.getElem_set_self, List.take_set_of_le (Nat.le_refl m), h, List.take_succ_eq_append_getElem hS]
  rw [List.getElem?_eq_getElem hS] at hv
  rw [Option.some.inj hv]
theorem st0_key (key : List UInt8) (count : Nat) (nonce : List UInt8) (k : Nat) (hk : k < 8) : (st0 key count nonce)[4 + k]? = some (leW key (4 * k)) := by
  rcases (show k = 0 ∨ k = 1 ∨ k = 2 ∨ k = 3 ∨ k = 4 ∨ k = 5 ∨ k = 6 ∨ k = 7 by omega) with rfl | rfl | rfl | rfl | rfl | rfl | rfl | rfl <;> rfl
theorem st0_nonce (key : List UInt8) (count : Nat) (nonce : List UInt8) (k : Nat) (hk : k < 3) : (st0 key count nonce)[13 + k]? = some (leW nonce (4 * k)) := by
  rcases (show k = 0 ∨ k = 1 ∨ k = 2 by omega) with rfl | rfl | rfl <;> rfl
theorem leW_get (l : List UInt8) (i : Nat) (h : i + 3 < l.length) : leW l i = le4 (l[i]'(by omega)) (l[i + 1]'(by omega)) (l[i + 2]'(by omega)) (l[i + 3]'(by omega)) := by
  unfold leW
  simp [List.getD_eq_getElem?_getD, List.getElem?_eq_getElem (show i < l.length by omega), List.getElem?_eq_getElem (show i + 1 < l.length by omega), List.getElem?_eq_getElem (show i + 2 < l.length by omega), List.getElem?_eq_getElem (show i + 3 < l.length by omega)]

theorem littleAt_any (w : World) (g o : Nat) (l : List UInt8) (h : w.rangeAt g o (u8s l)) (i n c : Nat) (hi : i + 4 ≤ l.length) (hn : 4 ≤ n) :
    Calls Tryd.prog 31 #[.slice (some ⟨g, o + i, none⟩) n c] w fun e w' => e = .returned (.int .u32 (leW l i : Int)) ∧ ∃ k, w' = w.drewN k := by
  rw [leW_get l i (by omega)]
  exact little_any w g (o + i) n c _ _ _ _ hn (rg_u8 h i (by omega)) (rg_u8 h (i + 1) (by omega)) (rg_u8 h (i + 2) (by omega)) (rg_u8 h (i + 3) (by omega))
theorem qcol_any (w : World) (g : Nat) (l : List Nat) (hl : l.length = 16) (hlt : ∀ x ∈ l, x < 4294967296) (k : Nat) (hk : k < 4) (hA : Arr w g 78 (u32s (colN l k))) :
    Calls Tryd.prog 32 #[.pointer (some ⟨g, 0, none⟩), .int .i64 (k : Int), .int .i64 (4 + (k : Int)), .int .i64 (8 + (k : Int)), .int .i64 (12 + (k : Int))] w fun e w' => e = .returned (.tuple #[]) ∧ Arr w' g 78 (u32s (colN l (k + 1))) ∧ w.grownBy w' (some g) :=
  quarter_any w g (colN l k) k (4 + k) (8 + k) (12 + k) (by simpa using hl) (colN_lt l hlt k) hA (by omega) (by omega) (by omega) (by omega) (by omega) (by omega) (by omega) (by omega) (by omega) (by omega)
theorem qdia_any (w : World) (g : Nat) (l : List Nat) (hl : l.length = 16) (hlt : ∀ x ∈ l, x < 4294967296) (k : Nat) (hk : k < 4) (hA : Arr w g 78 (u32s (diaN l k))) :
    Calls Tryd.prog 32 #[.pointer (some ⟨g, 0, none⟩), .int .i64 (k : Int), .int .i64 (4 + ((k : Int) + 1) % 4), .int .i64 (8 + ((k : Int) + 2) % 4), .int .i64 (12 + ((k : Int) + 3) % 4)] w fun e w' => e = .returned (.tuple #[]) ∧ Arr w' g 78 (u32s (diaN l (k + 1))) ∧ w.grownBy w' (some g) :=
  quarter_any w g (diaN l k) k (4 + (k + 1) % 4) (8 + (k + 2) % 4) (12 + (k + 3) % 4) (by simpa using hl) (diaN_lt l hlt k) hA (by omega) (by omega) (by omega) (by omega) (by omega) (by omega) (by omega) (by omega) (by omega) (by omega)

theorem s16_und : Tryd.prog.underlying 78 = some (.array 16 63) := by kernel_rfl
theorem s16_size : (Tryd.prog.info? 78).map (·.size) = some 16 := by kernel_rfl
theorem b64_und : Tryd.prog.underlying 61 = some (.array 64 5) := by kernel_rfl
theorem b64_size : (Tryd.prog.info? 61).map (·.size) = some 64 := by kernel_rfl
def zer64 : List UInt8 := [0, 0, 0, 0, 0, 0, 0, 0, 0, 0, 0, 0, 0, 0, 0, 0, 0, 0, 0, 0, 0, 0, 0, 0, 0, 0, 0, 0, 0, 0, 0, 0, 0, 0, 0, 0, 0, 0, 0, 0, 0, 0, 0, 0, 0, 0, 0, 0, 0, 0, 0, 0, 0, 0, 0, 0, 0, 0, 0, 0, 0, 0, 0, 0]
abbrev obj64 (l : List UInt8) : Obj := .cells (u8s l).toArray 61
abbrev obj16 (l : List Nat) : Obj := .cells (u32s l).toArray 78
def zer16 : List Nat := [0, 0, 0, 0, 0, 0, 0, 0, 0, 0, 0, 0, 0, 0, 0, 0]
def ini16 : List Nat := [1634760805, 857760878, 2036477234, 1797285236, 0, 0, 0, 0, 0, 0, 0, 0, 0, 0, 0, 0]
theorem b64_set {w : World} {g : Nat} {t : TypeId} {l : List UInt8} (h : Arr w g t (u8s l)) (k : Nat) (r : UInt8) (hk : k < l.length) : Arr (w.setCell ⟨g, k, none⟩ (.int .u8 (r.toNat : Int))) g t (u8s (l.set k r)) := by
  rw [u8s_set]; exact Arr.set h k _ (by simpa using hk)

set_option maxRecDepth 100000 in
set_option maxHeartbeats 2000000 in
theorem stream_any (w : World) (gk ok ck gn on cn : Nat) (key nonce : List UInt8) (count : Nat) (hk : key.length = 32) (hn : nonce.length = 12) (hc : count < 4294967296) (hck : 32 ≤ ck) (hcn : 12 ≤ cn)
    (hK : w.rangeAt gk ok (u8s key)) (hN : w.rangeAt gn on (u8s nonce)) :
    Calls Tryd.prog 20 #[.slice (some ⟨gk, ok, none⟩) 32 ck, .int .u32 (count : Int), .slice (some ⟨gn, on, none⟩) 12 cn] w fun e w' => e = .returned (.agg (u8s (ksb (st0 key count nonce))).toArray) ∧ Below w.heap.size w w' := by
  obtain ⟨S, hS⟩ : ∃ S, S = st0 key count nonce := ⟨_, rfl⟩
  have hSl : S.length = 16 := by rw [hS]; rfl
  have hSlt : ∀ x ∈ S, x < 4294967296 := by rw [hS]; exact st0_lt _ _ _ hc
  have hSk : ∀ k, k < 8 → S[4 + k]? = some (leW key (4 * k)) := by rw [hS]; exact st0_key _ _ _
  have hSn : ∀ k, k < 3 → S[13 + k]? = some (leW nonce (4 * k)) := by rw [hS]; exact st0_nonce _ _ _
  have hSc : S[12]? = some count := by rw [hS]; rfl
  have hS4 : ini16.take 4 = S.take 4 := by rw [hS]; rfl
  rw [← hS]
  clear hS
  have hR0 : Arr (w.alloc (obj64 zer64)) w.heap.size 61 (u8s zer64) := arr_new w _ _
  have hS0 : Arr ((w.alloc (obj64 zer64)).alloc (obj16 zer16)) (w.heap.size + 1) 78 (u32s zer16) := arr_new2 w _ _ _
  have hR1 := hR0.below (below_alloc _ (obj16 zer16))
  have hb1 : Below w.heap.size w ((w.alloc (obj64 zer64)).alloc (obj16 zer16)) := Below.alloc (below_alloc _ _) (below_alloc _ _).size _
  go_enter Tryd.func20, Tryd.ntmps20
  go_wp2_with (refine wpList_storeV s16_size rfl (.tmp 7) (.tmp 16) rfl (w.heap.size + 1) (u32s ini16) (u32s zer16) (by simp [ini16]) (by simp [zer16]) (u32s_oneCell _) rfl rfl hS0 ?_; intro w3 hA3 hg3)
  have hR3 := hR1.kept hg3 (by omega)
  have hb3 := bkept hb1 hg3 (by omega) hb1.size
  obtain ⟨H, hH⟩ : ∃ H, H = w.heap.size := ⟨_, rfl⟩
  have hz3 : H + 2 ≤ w3.heap.size := by rw [hH]; have := hg3.size; simpa using this
  rw [← hH] at hA3 hR3 hb3 ⊢
  have HH := Lib.hid hH
  have HS4 := Lib.hid hS4
  clear hS0 hR0 hR1 hb1 hg3 hH hS4
  go_loopw [8] (fun iv wr => ∃ (k : Nat) (l : List Nat), k ≤ 8 ∧ iv = .int .i64 k ∧ l.length = 16 ∧ Hid (l.take (4 + k) = S.take (4 + k)) ∧ Arr wr (H + 1) 78 (u32s l) ∧ Arr wr H 61 (u8s zer64) ∧ Below H w wr ∧ H + 2 ≤ wr.heap.size) (fun iv _ => 8 - (intOf iv).toNat)
  case atStart => exact ⟨0, ini16, Nat.zero_le _, rfl, rfl, HS4, hA3, hR3, hb3, hz3⟩
  case round =>
    clear hA3 hR3 hb3 hz3
    obtain ⟨k, l, hk, rfl, hll, HL, hA, hR, hb, hz⟩ := hrel
    by_cases hlt : k < 8
    · have hK2 := range_below hK (by rw [← HH.out]; exact hb)
      have t4 : (4 * (k : Int)).toNat = 4 * k := by omega
      have f4 := hA.fr (4 + k)
      have c4 := hA.cell (4 + k) (by simp; omega)
      have d1 : ¬ (ck = 4 * k) := by omega
      go_wp2_with fail
      refine (littleAt_any _ gk ok key hK2 (4 * k) _ _ (by omega) (by omega)).mono ?_
      rintro e w4 ⟨rfl, nd, hnd⟩
      have hA4 : Arr w4 (H + 1) 78 (u32s l) := by rw [hnd]; exact hA
      have hR4 : Arr w4 H 61 (u8s zer64) := by rw [hnd]; exact hR
      have hb4 : Below H w w4 := by rw [hnd]; exact below_drewN hb nd
      have hz4 : H + 2 ≤ w4.heap.size := by rw [hnd]; exact hz
      have hst := u32_arr_set hA4 (4 + k) (leW key (4 * k)) (by omega)
      have f4 := hA4.fr (4 + k)
      have c4 := hA4.cell (4 + k) (by simp; omega)
      have HND := Lib.hid hnd
      clear hnd
      have HN4 := Lib.hid (take_set_next l S (4 + k) _ (by omega) (by omega) HL.out (hSk k hlt))
      go_wp2_with fail
      go_roundw
      case rel => exact ⟨k + 1, _, by omega, by go_num, by simpa using hll, HN4, hst, hR4.other (by omega), hb4.setCell (p := ⟨H + 1, 4 + k, none⟩) (by show H ≤ H + 1; omega) _, by simpa [World.setCell] using hz4⟩
      case measure => simp [intOf]; omega
    · have hdk : decide ((k : Int) < 8) = false := by simp; omega
      have h8 : k = 8 := by omega
      rw [h8] at HL
      clear h8 hlt hk
      have hA5 := u32_arr_set hA 12 count (by omega)
      have f5 := hA.fr 12
      have c5 := hA.cell 12 (by simp; omega)
      have HL5 := Lib.hid (take_set_next l S 12 _ (by omega) (by omega) HL.out hSc)
      have hR5 := hR.other (k := H + 1) (i := 12) (u := .int .u32 (count : Int)) (by omega)
      have hb5 := hb.setCell (p := ⟨H + 1, 12, none⟩) (by show H ≤ H + 1; omega) (.int .u32 (count : Int))
      have hz5 : H + 2 ≤ (wr.setCell ⟨H + 1, 12, none⟩ (.int .u32 (count : Int))).heap.size := by simpa [World.setCell] using hz
      have hl5 : (l.set 12 count).length = 16 := by simpa using hll
      clear HL hA hR hb hz
      go_wp2_with fail
      go_loopw [9] (fun iv wr => ∃ (k : Nat) (l : List Nat), k ≤ 3 ∧ iv = .int .i64 k ∧ l.length = 16 ∧ Hid (l.take (13 + k) = S.take (13 + k)) ∧ Arr wr (H + 1) 78 (u32s l) ∧ Arr wr H 61 (u8s zer64) ∧ Below H w wr ∧ H + 2 ≤ wr.heap.size) (fun iv _ => 3 - (intOf iv).toNat)
      case atStart => exact ⟨0, _, Nat.zero_le _, rfl, hl5, HL5, hA5, hR5, hb5, hz5⟩
      case round =>
        clear c5 f5 hA5 hR5 hb5 hz5 HL5 hl5
        obtain ⟨k, l, hk, rfl, hll, HL, hA, hR, hb, hz⟩ := hrel
        by_cases hlt : k < 3
        · have hN2 := range_below hN (by rw [← HH.out]; exact hb)
          have t4 : (4 * (k : Int)).toNat = 4 * k := by omega
          have d1 : ¬ (cn = 4 * k) := by omega
          go_wp2_with fail
          refine (littleAt_any _ gn on nonce hN2 (4 * k) _ _ (by omega) (by omega)).mono ?_
          rintro e w4 ⟨rfl, nd, hnd⟩
          have hA4 : Arr w4 (H + 1) 78 (u32s l) := by rw [hnd]; exact hA
          have hR4 : Arr w4 H 61 (u8s zer64) := by rw [hnd]; exact hR
          have hb4 : Below H w w4 := by rw [hnd]; exact below_drewN hb nd
          have hz4 : H + 2 ≤ w4.heap.size := by rw [hnd]; exact hz
          have hst := u32_arr_set hA4 (13 + k) (leW nonce (4 * k)) (by omega)
          have f4 := hA4.fr (13 + k)
          have c4 := hA4.cell (13 + k) (by simp; omega)
          have HND := Lib.hid hnd
          clear hnd
          have HN4 := Lib.hid (take_set_next l S (13 + k) _ (by omega) (by omega) HL.out (hSn k hlt))
          go_wp2_with fail
          go_roundw
          case rel => exact ⟨k + 1, _, by omega, by go_num, by simpa using hll, HN4, hst, hR4.other (by omega), hb4.setCell (p := ⟨H + 1, 13 + k, none⟩) (by show H ≤ H + 1; omega) _, by simpa [World.setCell] using hz4⟩
          case measure => simp [intOf]; omega
        · have hdk3 : decide ((k : Int) < 3) = false := by simp; omega
          have h3 : k = 3 := by omega
          rw [h3] at HL
          clear h3 hlt hk
          obtain rfl : l = S := by
            have h := HL.out
            rwa [List.take_of_length_le (by omega), List.take_of_length_le (by omega)] at h
          clear HL hK hN hll
          have hT0 : Arr (wr.alloc (obj16 zer16)) wr.heap.size 78 (u32s zer16) := arr_new wr _ _
          have hA6 := hA.below (below_alloc _ (obj16 zer16))
          have hR6 := hR.below (below_alloc _ (obj16 zer16))
          have hb6 := Below.alloc hb (by omega) (obj16 zer16)
          go_wp2_with (first | (refine wpList_loadV s16_und s16_size rfl (.tmp 7) rfl (H + 1) (u32s l) (by simpa using hSl) rfl hA ?_) | (refine wpList_storeV s16_size rfl (.tmp 10) (.tmp 43) rfl wr.heap.size (u32s l) (u32s zer16) (by simpa using hSl) (by simp [zer16]) (u32s_oneCell _) rfl rfl hT0 ?_; intro w7 hT7 hg7))
          have hA7 := hA6.kept hg7 (by omega)
          have hR7 := hR6.kept hg7 (by omega)
          have hb7 := bkept hb6 hg7 (by omega) (by simp; omega)
          have hz7 := hT7.lt
          obtain ⟨gt, hgt⟩ : ∃ gt, gt = wr.heap.size := ⟨_, rfl⟩
          rw [← hgt] at hT7 hz hz7 ⊢
          have HSlt := Lib.hid hSlt
          clear hA hR hb hT0 hA6 hR6 hb6 hg7 hgt hSlt hSk hSn hSc hdk hdk3
          go_loopw [11] (fun iv wr => ∃ k : Nat, k ≤ 10 ∧ iv = .int .i64 k ∧ Arr wr gt 78 (u32s (dblN k l)) ∧ Arr wr (H + 1) 78 (u32s l) ∧ Arr wr H 61 (u8s zer64) ∧ Below H w wr ∧ gt < wr.heap.size) (fun iv _ => 10 - (intOf iv).toNat)
          case atStart => exact ⟨0, Nat.zero_le _, rfl, hT7, hA7, hR7, hb7, hz7⟩
          case round =>
            clear hT7 hA7 hR7 hb7 hz7
            obtain ⟨k, hk, rfl, hT, hA, hR, hb, hzr⟩ := hrel
            by_cases hlt : k < 10
            · obtain ⟨M, hM⟩ : ∃ M, M = dblN k l := ⟨_, rfl⟩
              have hMl : M.length = 16 := by rw [hM]; simpa using hSl
              have HMlt : Hid (∀ x ∈ M, x < 4294967296) := Lib.hid (by rw [hM]; exact dblN_lt _ HSlt.out k)
              have HM := Lib.hid hM
              rw [← hM] at hT
              clear hM
              have hdk10 : decide ((k : Int) < 10) = true := by simp; omega
              go_wp2_with fail
              go_loopw [12] (fun iv wr => ∃ j : Nat, j ≤ 4 ∧ iv = .int .i64 j ∧ Arr wr gt 78 (u32s (colN M j)) ∧ Arr wr (H + 1) 78 (u32s l) ∧ Arr wr H 61 (u8s zer64) ∧ Below H w wr ∧ gt < wr.heap.size) (fun iv _ => 4 - (intOf iv).toNat)
              case atStart => exact ⟨0, Nat.zero_le _, rfl, hT, hA, hR, hb, hzr⟩
              case round =>
                clear hT hA hR hb hzr
                obtain ⟨j, hj, rfl, hT, hA, hR, hb, hzr⟩ := hrel
                by_cases hlj : j < 4
                · go_wp2_with fail
                  refine (qcol_any _ gt M hMl HMlt.out j hlj hT).mono ?_
                  rintro e w8 ⟨rfl, hT8, hg8⟩
                  have hA8 := hA.kept hg8 (by omega)
                  have hR8 := hR.kept hg8 (by omega)
                  have hb8 := bkept hb hg8 (by omega) (by omega)
                  have hz8 := hT8.lt
                  clear hT hA hR hb hzr hg8
                  go_wp2_with fail
                  go_roundw
                  case rel => exact ⟨j + 1, by omega, by go_num, hT8, hA8, hR8, hb8, hz8⟩
                  case measure => simp [intOf]; omega
                · have hdj : decide ((j : Int) < 4) = false := by simp; omega
                  have H4 := Lib.hid (show j = 4 by omega)
                  clear hlj hj
                  obtain ⟨M2, hM2⟩ : ∃ M2, M2 = colN M j := ⟨_, rfl⟩
                  have hM2l : M2.length = 16 := by rw [hM2]; simpa using hMl
                  have HM2lt : Hid (∀ x ∈ M2, x < 4294967296) := Lib.hid (by rw [hM2]; exact colN_lt _ HMlt.out j)
                  rw [← hM2] at hT
                  have HM2 := Lib.hid hM2
                  obtain ⟨j4, hj4⟩ : ∃ x, x = j := ⟨_, rfl⟩
                  rw [← hj4] at H4 HM2
                  clear hM2 hMl HMlt hj4
                  go_wp2_with fail
                  go_loopw [13] (fun iv wr => ∃ j : Nat, j ≤ 4 ∧ iv = .int .i64 j ∧ Arr wr gt 78 (u32s (diaN M2 j)) ∧ Arr wr (H + 1) 78 (u32s l) ∧ Arr wr H 61 (u8s zer64) ∧ Below H w wr ∧ gt < wr.heap.size) (fun iv _ => 4 - (intOf iv).toNat)
                  case atStart => exact ⟨0, Nat.zero_le _, rfl, hT, hA, hR, hb, hzr⟩
                  case round =>
                    clear hT hA hR hb hzr hdj
                    obtain ⟨j, hj, rfl, hT, hA, hR, hb, hzr⟩ := hrel
                    by_cases hlj : j < 4
                    · go_wp2_with fail
                      refine (qdia_any _ gt M2 hM2l HM2lt.out j hlj hT).mono ?_
                      rintro e w8 ⟨rfl, hT8, hg8⟩
                      have hA8 := hA.kept hg8 (by omega)
                      have hR8 := hR.kept hg8 (by omega)
                      have hb8 := bkept hb hg8 (by omega) (by omega)
                      have hz8 := hT8.lt
                      clear hT hA hR hb hzr hg8
                      go_wp2_with fail
                      go_roundw
                      case rel => exact ⟨j + 1, by omega, by go_num, hT8, hA8, hR8, hb8, hz8⟩
                      case measure => simp [intOf]; omega
                    · have h4 : j = 4 := by omega
                      have e9 : diaN M2 j = dblN (k + 1) l := by rw [h4, HM2.out, H4.out, HM.out]; rfl
                      rw [e9] at hT
                      clear e9
                      have hdj : decide ((j : Int) < 4) = false := by simp; omega
                      clear h4 hlj hj
                      go_wp2_with fail
                      go_roundw
                      case rel => exact ⟨k + 1, by omega, by go_num, hT, hA, hR, hb, hzr⟩
                      case measure => simp [intOf]; omega
            · have hdk4 : decide ((k : Int) < 10) = false := by simp; omega
              have h10 : k = 10 := by omega
              rw [h10] at hT
              clear h10 hlt hk
              have hZ0 : Arr (wr.alloc (obj64 zer64)) wr.heap.size 61 (u8s zer64) := arr_new wr _ _
              have hT9 := hT.below (below_alloc _ (obj64 zer64))
              have hA9 := hA.below (below_alloc _ (obj64 zer64))
              have hR9 := hR.below (below_alloc _ (obj64 zer64))
              have hb9 := Below.alloc hb (by omega) (obj64 zer64)
              go_wp2_with (refine wpList_storeV b64_size rfl (.tmp 14) (.tmp 78) rfl wr.heap.size (u8s zer64) (u8s zer64) (by simp [zer64]) (by simp [zer64]) (u8s_oneCell _) rfl rfl hZ0 ?_; intro w10 hZ10 hg10)
              have hT10 := hT9.kept hg10 (by omega)
              have hA10 := hA9.kept hg10 (by omega)
              have hR10 := hR9.kept hg10 (by omega)
              have hb10 := bkept hb9 hg10 (by omega) (by simp; omega)
              obtain ⟨go, hgo⟩ : ∃ go, go = wr.heap.size := ⟨_, rfl⟩
              rw [← hgo] at hZ10 hzr ⊢
              obtain ⟨M, hM⟩ : ∃ M, M = dblN 10 l := ⟨_, rfl⟩
              have hMl : M.length = 16 := by rw [hM]; simpa using hSl
              have HMlt : Hid (∀ x ∈ M, x < 4294967296) := Lib.hid (by rw [hM]; exact dblN_lt _ HSlt.out 10)
              have HK : Hid (∀ i, i < 64 → (ksb l)[i]? = some (UInt8.ofNat (ad (M.getD (i / 4) 0) (l.getD (i / 4) 0) / 2 ^ (8 * (i % 4))))) := Lib.hid (by
                intro i hi
                rw [hM, ksb, List.getElem?_map, List.getElem?_range hi]; rfl)
              rw [← hM] at hT10
              clear hM hZ0 hT9 hA9 hR9 hb9 hg10 hgo hT hA hR hb
              go_loopw [79] (fun iv wr => ∃ (k : Nat) (r : List UInt8), k ≤ 64 ∧ iv = .int .i64 k ∧ r.length = 64 ∧ Hid (r.take k = (ksb l).take k) ∧ Arr wr go 61 (u8s r) ∧ Arr wr gt 78 (u32s M) ∧ Arr wr (H + 1) 78 (u32s l) ∧ Arr wr H 61 (u8s zer64) ∧ Below H w wr ∧ H ≤ wr.heap.size) (fun iv _ => 64 - (intOf iv).toNat)
              case atStart => exact ⟨0, zer64, Nat.zero_le _, rfl, rfl, (by simp [Hid]), hZ10, hT10, hA10, hR10, hb10, by have := hA10.lt; omega⟩
              case round =>
                clear hZ10 hT10 hA10 hR10 hb10
                obtain ⟨k, r, hk, rfl, hrl, HR, hZ, hT, hA, hR, hb, hz⟩ := hrel
                by_cases hlt : k < 64
                · have hdk64 : decide ((k : Int) < 64) = true := by simp; omega
                  have fz := hZ.fr k
                  have cz := hZ.cell k (by simp; omega)
                  obtain ⟨q, hq⟩ : ∃ q, q = k / 4 := ⟨_, rfl⟩
                  obtain ⟨m, hm⟩ : ∃ m, m = k % 4 := ⟨_, rfl⟩
                  have lq : q < 16 := by omega
                  have lm : m < 4 := by omega
                  have HKk := Lib.hid (HK.out k hlt)
                  rw [← hq, ← hm] at HKk
                  have eq1 : IntKind.i64.wrap ((k : Int) / 4) = (q : Int) := (IntWalk.i64_in _ (by omega)).trans (by omega)
                  have em1 : (k : Int).tmod 4 = (m : Int) := by rw [Int.tmod_eq_emod_of_nonneg (by omega)]; omega
                  obtain ⟨sh, hsh⟩ : ∃ sh, sh = 8 * m := ⟨_, rfl⟩
                  have lsh : sh < 32 := by omega
                  have es1 : IntKind.i64.wrap (8 * (m : Int)) = (sh : Int) := (IntWalk.i64_in _ (by omega)).trans (by omega)
                  rw [← hsh] at HKk
                  have ca := u32_cell hT (j := q) (v := M.getD q 0) (by rw [List.getD_eq_getElem?_getD, List.getElem?_eq_getElem (by omega)]; rfl)
                  have cb := u32_cell hA (j := q) (v := l.getD q 0) (by rw [List.getD_eq_getElem?_getD, List.getElem?_eq_getElem (by omega)]; rfl)
                  clear hq hm hsh
                  have i1 : (q : Int) < 16 := by omega
                  have i3 : (k : Int) < 64 := by omega
                  generalize M.getD q 0 = x at *
                  generalize l.getD q 0 = y at *
                  obtain ⟨z, hz2⟩ : ∃ z, z = ad x y := ⟨_, rfl⟩
                  have e1 : IntKind.u32.wrap ((x : Int) + (y : Int)) = (z : Int) := by rw [hz2]; rfl
                  have lz : z < 4294967296 := by rw [hz2]; exact ad_lt _ _
                  rw [← hz2] at HKk
                  clear hz2
                  obtain ⟨b, hbb⟩ : ∃ b, b = UInt8.ofNat (z / 2 ^ sh) := ⟨_, rfl⟩
                  have ev : IntKind.u8.wrap ((z : Int) / 2 ^ sh) = (b.toNat : Int) := by
                    rw [hbb, show ((z : Int) / 2 ^ sh) = ((z / 2 ^ sh : Nat) : Int) by simp, IntKind.wrap_u8, UInt8.toNat_ofNat']
                    omega
                  rw [← hbb] at HKk
                  clear hbb
                  have HR2 := Lib.hid (take_set_next r (ksb l) k _ (by omega) (by simp; omega) HR.out HKk.out)
                  go_wp2_with fail
                  refine wp_region_still_tail 16 (by kernel_rfl) (by kernel_rfl) ?_
                  change wpStill _ _ wr.drew (fun a' => wpList _ _ _ _ a' wr.drew) _ _
                  have ca2 : wr.drew.cell? _ = _ := ca
                  have cb2 : wr.drew.cell? _ = _ := cb
                  have fz2 : wr.drew.frozen? _ = _ := fz
                  have cz2 : wr.drew.cell? _ = _ := cz
                  have kZ : Arr wr.drew go 61 (u8s r) := hZ
                  have kT : Arr wr.drew gt 78 (u32s M) := hT
                  have kA : Arr wr.drew (H + 1) 78 (u32s l) := hA
                  have kR : Arr wr.drew H 61 (u8s zer64) := hR
                  have kb : Below H w wr.drew := ⟨hb.os, hb.tape, hb.output, hb.size, hb.block⟩
                  have kz : H ≤ wr.drew.heap.size := hz
                  clear ca cb fz cz hZ hT hA hR hb hz
                  generalize wr.drew = w2 at *
                  simp only [List.take_succ_cons, List.take_zero, List.drop_succ_cons, List.drop_zero]
                  repeat still_step
                  refine wpStill_nil ?_
                  have hst2 : Arr (w2.setCell ⟨go, k, none⟩ (.int .u8 (b.toNat : Int))) go 61 (u8s (r.set k b)) := b64_set kZ k b (by omega)
                  go_wp2_with fail
                  go_roundw
                  case rel => exact ⟨k + 1, r.set k b, by omega, by go_num, by simpa using hrl, HR2, hst2, kT.other (by omega), kA.other (by omega), kR.other (by omega), kb.setCell (p := ⟨go, k, none⟩) (by show H ≤ go; omega) _, by simpa [World.setCell] using kz⟩
                  case measure => simp [intOf]; omega
                · have hdk64 : decide ((k : Int) < 64) = false := by simp; omega
                  have h64 : k = 64 := by omega
                  have hr : r = ksb l := by
                    have h := HR.out
                    rwa [List.take_of_length_le (by omega), List.take_of_length_le (by simp; omega)] at h
                  rw [hr] at hZ
                  clear h64 hlt hk hr HR hrl hT hA
                  obtain ⟨B, hB⟩ : ∃ B, B = ksb l := ⟨_, rfl⟩
                  have hBl : B.length = 64 := by rw [hB]; simp
                  rw [← hB] at hZ
                  have HB := Lib.hid hB
                  clear hB HK
                  go_wp2_with (first | (refine wpList_loadV b64_und b64_size rfl (.tmp 14) rfl go (u8s B) (by simpa using hBl) rfl hZ ?_) | (refine wpList_storeV b64_size rfl (.tmp 6) (.tmp 99) rfl H (u8s B) (u8s zer64) (by simpa using hBl) (by simp [zer64]) (u8s_oneCell _) rfl rfl hR ?_; intro w12 hR12 hg12))
                  rw [← HB.out, ← HH.out]
                  exact ret_V b64_und b64_size rfl H _ (by simpa using hBl) rfl hR12 rfl ⟨rfl, bkept hb hg12 (Nat.le_refl _) hz⟩
end Go.Proofs.YtkocgogpbammaaaDoor

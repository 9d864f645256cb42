/- slices.Clone over bytes. Conditions: sizes. -/
import Derived.Test.YtkocgogpbammaaaDoorFacts
import Derived.Test.YtkocgogpbammaaaDoorGc
set_option linter.unusedVariables false
set_option linter.unusedSimpArgs false
namespace Go.Proofs.YtkocgogpbammaaaDoor
open Go.RowKit

set_option maxRecDepth 100000 in
set_option maxHeartbeats 400000 in
theorem clone_any (w : World) (a : Option Addr) (cap : Nat) (l : List UInt8) (hl : l.length ≤ 4294967296) (ha : At w a (u8s l)) :
    Calls Tryd.prog 9 #[.slice a l.length cap] w fun e w' => ∃ v, e = .returned v ∧ Own w' w.heap.size 5 v (u8s l) ∧ Below w.heap.size w w' := by
  have qT : ∀ (w : World) (a : Option Addr) (n c : Nat), (binOp .eql 23 (.slice a n c) (.slice none 0 0)).run Tryd.prog w = .ok (.bool a.isNone) w := fun w a n c => Lib.run_eql_slice_nil w _ _ a n c 0 0 Tryd.underlying23
  go_enter Tryd.func9, Tryd.ntmps9
  cases a with
  | none =>
    have h0 : l = [] := by
      cases l with
      | nil => rfl
      | cons y l => obtain ⟨b, off, e', _⟩ := ha (by simp); cases e'
    subst h0
    go_wp2
    go_ret
    exact ⟨_, rfl, Own.nil _ _ _, Below.refl _ _⟩
  | some p =>
    have ha' := ha.below (Below.alloc (Below.refl _ _) (Nat.le_refl _) (.cells #[] 5))
    go_wp2_with (at_builtin; refine wpList_appendN sty8 rfl (.tmp 5) (.tmp 6) rfl w.heap.size _ _ rfl (Own.empty w w.heap.size _ (Nat.le_refl _)) _ (u8s l) _ _ rfl (u8s_length _) ha' (u8s_oneCell _) ?e3 ?e4 ?e5 ?_; rotate_right; intro v3 w3 hown3 hgr3)
    case e3 => simp; omega
    case e4 => simp [maxLen]; omega
    case e5 => simp
    have hb3 := below_grown (Below.alloc (Below.refl _ _) (Nat.le_refl _) (.cells #[] 5)) (Own.empty w w.heap.size 5 (Nat.le_refl _)) hgr3 (Nat.le_refl _) (by simp)
    rw [List.nil_append] at hown3
    clear hgr3
    go_wp2
    go_ret
    exact ⟨_, rfl, hown3, hb3⟩
end Go.Proofs.YtkocgogpbammaaaDoor

/- impl.StreamSeal. Conditions: sizes. -/

namespace Go.Proofs.YtkocgogpbammaaaDoor
open Go.RowKit

def canon (T : List UInt8) (c : Nat) : Prop := 65536 * c < T.length ∨ (T = [] ∧ c = 0)
/-- A slice whose bytes are p, in block gl. -/
def LeftAt (w : World) (gl : Nat) (a : Option Addr) (m c : Nat) (p : List UInt8) : Prop := m = p.length ∧ m ≤ c ∧ (a = none → c = 0) ∧ ∀ g o s, a = some ⟨g, o, s⟩ → g = gl ∧ s = none ∧ w.rangeAt gl o (u8s p)

theorem ewWall_any (w : World) (b bd ga : Nat) (key T : List UInt8) (c : Nat) (row rowD : Option (Nat × Nat)) (gl m cp : Nat) (a : Option Addr) (p : List UInt8) (hW : WS w b bd ga key T c row rowD) (hc : canon T c) (hL : LeftAt w gl a m cp p)
    (hsl : gl < w.heap.size) (hsb : gl ≠ b) (hsd : gl ≠ bd) (hsr : ¬ rowIs row gl) (hsD : ¬ rowIs rowD gl) (hbig : T.length + m ≤ 140000) :
    Calls Tryd.prog 10 #[.pointer (some ⟨b, 0, none⟩), .slice a m cp] w fun e w' => e = .returned (.tuple #[.int .i64 (m : Int), .nilIface]) ∧
      ∃ c' row' rowD', WS w' b bd ga key (T ++ p) c' row' rowD' ∧ canon (T ++ p) c' ∧ rowNew w row row' ∧ rowNew w rowD rowD' ∧ Keeps w w' (esN w b bd row rowD) := by
  obtain ⟨hm, hmc, hn, hs⟩ := hL
  rcases Nat.eq_zero_or_pos m with h0 | h0
  · subst h0
    have hp : p = [] := List.eq_nil_of_length_eq_zero hm.symm
    subst hp
    refine (ewW0_any w b bd ga key T c row rowD a cp hW).mono ?_
    rintro e w' ⟨rfl, rfl⟩
    rw [List.append_nil]
    exact ⟨rfl, c, row, rowD, hW, hc, rowNew.refl _ _, rowNew.refl _ _, Keeps.refl _ _⟩
  · have hp : p ≠ [] := fun h => by rw [h] at hm; simp at hm; omega
    match a, hn, hs with
    | none, hn, _ => have h := hn rfl; omega
    | some ⟨g, o, s⟩, _, hs =>
      obtain ⟨rfl, rfl, hr⟩ := hs g o s rfl
      refine (ewW_any w b bd ga key T c row rowD g o cp m p hW hp hm hmc hr hsl hsb hsd hsr hsD hbig).mono ?_
      rintro e w' ⟨rfl, c', row', rowD', h1, h2, h3, h4, h5⟩
      exact ⟨rfl, c', row', rowD', h1, Or.inl h2, h3, h4, h5⟩

theorem LeftAt.keeps {w w' : World} {gl m c : Nat} {a : Option Addr} {p : List UInt8} {S : Nat → Prop} (h : LeftAt w gl a m c p) (hk : Keeps w w' S) (hg : ¬ S gl) : LeftAt w' gl a m c p :=
  ⟨h.1, h.2.1, h.2.2.1, fun g o s e => ⟨(h.2.2.2 g o s e).1, (h.2.2.2 g o s e).2.1, hk.range (h.2.2.2 g o s e).2.2 hg⟩⟩
/-- Where 'left[n:]' begins. -/
def fromA (a : Option Addr) (c n : Nat) : Option Addr := a.map fun x => { x with off := fromO x.off c n }
theorem LeftAt.take {w : World} {gl m c n : Nat} {a : Option Addr} {p : List UInt8} (h : LeftAt w gl a m c p) (hn : n ≤ m) : LeftAt w gl a n c (p.take n) :=
  ⟨by rw [List.length_take, ← h.1]; omega, Nat.le_trans hn h.2.1, h.2.2.1, fun g o s e => ⟨(h.2.2.2 g o s e).1, (h.2.2.2 g o s e).2.1, range_u8_take (h.2.2.2 g o s e).2.2 n⟩⟩
theorem LeftAt.from {w : World} {gl m c n : Nat} {a : Option Addr} {p : List UInt8} (h : LeftAt w gl a m c p) (hn : n ≤ m) : LeftAt w gl (fromA a c n) (m - n) (c - n) (p.drop n) := by
  refine ⟨by rw [List.length_drop, ← h.1], by have := h.2.1; omega, ?_, ?_⟩
  · intro e
    cases a with
    | none => rw [h.2.2.1 rfl]; exact Nat.zero_sub _
    | some x => cases e
  · intro g o s e
    cases a with
    | none => cases e
    | some x =>
      obtain ⟨g0, o0, s0⟩ := x
      obtain ⟨h1, h2, h3⟩ := h.2.2.2 g0 o0 s0 rfl
      cases e
      exact ⟨h1, h2, from_range h3 h.1 h.2.1 hn⟩
theorem run_uptoA (w : World) (gl m c n : Nat) (a : Option Addr) (p : List UInt8) (h : LeftAt w gl a m c p) (hn : n ≤ m) :
    ∀ W, (Instr.sliceAt 23 (.slice a m c) none (some (.int .i64 (n : Int))) none).run Tryd.prog W = .ok (.slice a n c) W := fun W => by
  obtain ⟨h1, h2, h3, h4⟩ := h
  match a, h3, h4 with
  | none, h3, _ =>
    rw [run_sliceAt_slice W _ _ _ _ _ bs_und, run_slice_h W _ _ _ _ bs_und .i64 (n : Int) (by omega) (by omega)]
    simp only [bs_one, Result.andThen, sliced, Int.toNat_natCast, Nat.sub_zero]
    split <;> rfl
  | some ⟨g, o, s⟩, _, h4 =>
    obtain ⟨rfl, rfl, -⟩ := h4 g o s rfl
    exact run_upto W .i64 g o m c n (by omega)
theorem run_fromA (w : World) (gl m c n : Nat) (a : Option Addr) (p : List UInt8) (h : LeftAt w gl a m c p) (hn : n ≤ m) :
    ∀ W, (Instr.sliceAt 23 (.slice a m c) (some (.int .i64 (n : Int))) none none).run Tryd.prog W = .ok (.slice (fromA a c n) (m - n) (c - n)) W := fun W => by
  obtain ⟨h1, h2, h3, h4⟩ := h
  match a, h3, h4 with
  | none, h3, _ =>
    rw [run_sliceAt_slice W _ _ _ _ _ bs_und, run_slice_l W _ _ _ _ bs_und .i64 (n : Int) (by omega) (by omega)]
    simp only [bs_one, Result.andThen, sliced, Int.toNat_natCast]
    split <;> rfl
  | some ⟨g, o, s⟩, _, h4 =>
    obtain ⟨rfl, rfl, -⟩ := h4 g o s rfl
    exact run_from W .i64 g o m c n hn h2

theorem none_new {w : World} {row : Option (Nat × Nat)} (h : rowNew w none row) (k : Nat) (hk : rowIs row k) : w.heap.size ≤ k := by
  rcases h k hk with ⟨c, h1⟩ | h1
  · cases h1
  · exact h1
theorem seal_below {w0 w w' : World} {b bd : Nat} (h0 : Below w0.heap.size w0 w) (h : Keeps w w' (esN w b bd none none)) (hb : w0.heap.size ≤ b) (hd : w0.heap.size ≤ bd) : Below w0.heap.size w0 w' := by
  have hs := h0.size
  refine ⟨h.os.trans h0.os, h.tape.trans h0.tape, h.output.trans h0.output, Nat.le_trans h0.size h.size, fun k hk => (h.block k (by omega) ?_).trans (h0.block k hk)⟩
  rintro ((h | h | ⟨c, h⟩ | ⟨c, h⟩) | h)
  · omega
  · omega
  · cases h
  · cases h
  · omega
theorem run_max0 {w : World} (x : Int) : (Builtin.max_ #[3, 3] 3 #[.int .i64 x, .int .i64 0]).run Tryd.prog w = .ok (.int .i64 ((x.toNat : Nat) : Int)) w := by
  rw [run_max_int2]
  congr 2
  split <;> omega

set_option maxRecDepth 100000 in
set_option maxHeartbeats 8000000 in
theorem implSeal_any (w : World) (key text : List UInt8) (cuts : List Int) (ta ca : Option Addr) (tc cc : Nat) (hk : key.length = 32) (hT : At w ta (u8s text)) (hC : At w ca (cuts.map fun x => Value.int .i64 x)) (hbig : text.length ≤ 131172) (hcl : cuts.length ≤ 1000) (hcr : ∀ x ∈ cuts, -9223372036854775808 ≤ x ∧ x ≤ 9223372036854775807) :
    Calls Tryd.prog 5 #[.agg (u8s key).toArray, .slice ta text.length tc, .slice ca cuts.length cc] w fun e w' => ∃ v c, e = .returned (.tuple #[v, .bool true]) ∧
      Own w' w.heap.size 5 v (u8s (outC key text c ++ sealedOf key ((nonceC c).set 11 1) (text.drop (65536 * c)))) ∧ canon text c ∧ text.length ≤ 65536 * (c + 1) ∧ Below w.heap.size w w' := by
  have hs2 : (u8s key).toArray.size = 32 := by simp [hk]
  have hn0 := arr_new w (u8s key) 22
  have hb0 := below_alloc w (.cells (u8s key).toArray 22)
  obtain ⟨w1, hw1⟩ : ∃ x, x = w.alloc (.cells (u8s key).toArray 22) := ⟨_, rfl⟩
  have hsz1 : w1.heap.size = w.heap.size + 1 := by rw [hw1]; exact size_alloc _ _
  rw [← hw1] at hn0 hb0
  have hbuf := arr_new w1 [Value.slice none 0 0, .int .i64 0, .int .i8 0] 34
  have hb1 := below_alloc w1 (.cells [Value.slice none 0 0, .int .i64 0, .int .i8 0].toArray 34)
  obtain ⟨w2, hw2⟩ : ∃ x, x = w1.alloc (.cells [Value.slice none 0 0, .int .i64 0, .int .i8 0].toArray 34) := ⟨_, rfl⟩
  have hsz2 : w2.heap.size = w.heap.size + 2 := by rw [hw2, size_alloc, hsz1]
  rw [← hw2] at hbuf hb1
  rw [hsz1] at hbuf
  have hk2 := hn0.below hb1
  have hb02 := hb0.trans (hb1.mono (by omega))
  have hD2 : BV w2 (w.heap.size + 1) 0 34 (fun _ => none) none [] := ⟨rfl, 0, LibA.three_whole hbuf⟩
  have hat2 : At w2 (some ⟨w.heap.size, 0, none⟩) (u8s key) := hk2.at
  have hW2 : w2 = (w.alloc (.cells (u8s key).toArray 22)).alloc (.cells [Value.slice none 0 0, .int .i64 0, .int .i8 0].toArray 34) := by rw [hw2, hw1]
  have HW2 := Lib.hid hW2
  have HSZ2 := Lib.hid hsz2
  have HT := Lib.hid hT
  have HC := Lib.hid hC
  have HK := Lib.hid hk
  clear hw1 hw2 hsz1 hn0 hb0 hbuf hb1 hk hT hC hW2 hsz2
  go_enter Tryd.func5, Tryd.ntmps5
  go_wp2_with fail
  have HCL := clone_any w2 (some ⟨w.heap.size, 0, none⟩) 32 key (by rw [HK.out]; decide) hat2
  rw [HK.out, HW2.out] at HCL
  refine HCL.mono ?_
  rw [← HW2.out]
  clear HCL
  rintro e w3 ⟨v3, rfl, hO3, hb3⟩
  have hgk : ∃ gk ck, v3 = .slice (some ⟨gk, 0, none⟩) 32 ck ∧ w3.rangeAt gk 0 (u8s key) := by
    obtain ⟨a3, c3, rfl, -, hat, -⟩ := hO3.at
    obtain ⟨gk, ok, rfl, hcell⟩ := hat (by rw [u8s_length, HK.out]; decide)
    rcases hO3 with ⟨h, -⟩ | ⟨g, cap, cur, fz, hv, -⟩
    · cases h
    · cases hv
      refine ⟨gk, c3, by rw [u8s_length, HK.out], fun j v hj => ?_⟩
      obtain ⟨hl, rfl⟩ := List.getElem?_eq_some_iff.1 hj
      exact hcell j hl
  obtain ⟨gk, ck, rfl, hr3⟩ := hgk
  have hD3 := hD2.kept (Keeps.of_below hb3 (fun _ => False)) id (fun _ _ => id)
  have hb03 := hb02.trans (hb3.mono (by have h := HSZ2.out; omega))
  have hs3 := hb3.size
  clear hO3 hD2 hb02 hb3 hat2
  go_wp2_with fail
  refine (newEW_any w3 gk 0 ck key (w.heap.size + 1) HK.out hr3).mono ?_
  rintro e w4 ⟨ga, b, rfl, hga, hbb, hgb, hKA4, hE4, hb4⟩
  have hD4 := hD3.kept (Keeps.of_below hb4 (fun _ => False)) id (fun _ _ => id)
  have hs4 := hb4.size
  have hb04 := hb03.trans (hb4.mono (by have h := HSZ2.out; omega))
  clear hD3 hb03 hr3
  go_wp2_with fail
  refine (clone_any w4 ta tc text (by omega) (HT.out.below hb04)).mono ?_
  rintro e w5 ⟨v5, rfl, hO5, hb5⟩
  have hD5 := hD4.kept (Keeps.of_below hb5 (fun _ => False)) id (fun _ _ => id)
  have hE5 : EW w5 b (ifA ga) (ifB (w.heap.size + 1)) zer12 .nilIface none [] := BV.kept hE4 (Keeps.of_below hb5 (fun _ => False)) id (fun _ _ => id)
  have hKA5 := hKA4.below hb5
  have hs5 := hb5.size
  have hb05 := hb04.trans (hb5.mono (by have h := HSZ2.out; omega))
  have hlb := hE4.lt
  have hS2 := HSZ2.out
  have hWS5 : WS w5 b (w.heap.size + 1) ga key [] 0 none none := ⟨⟨hE5, hD5, hKA5, HK.out, rfl, by omega, hgb, by omega, (fun k ⟨_, h⟩ => by cases h), (fun k ⟨_, h⟩ => by cases h)⟩, Nat.zero_le _, Nat.zero_le _⟩
  have hleft : ∃ gl a cp, v5 = .slice a text.length cp ∧ LeftAt w5 gl a text.length cp text ∧ gl < w5.heap.size ∧ gl ≠ b ∧ gl ≠ w.heap.size + 1 ∧ w.heap.size ≤ gl := by
    have hat := hO5.at
    rcases hO5 with ⟨rfl, h⟩ | ⟨g, cap, cur, fz, rfl, hg, hh, _, hlc, _, _, _⟩
    · have ht : text = [] := by simpa [u8s] using h
      subst ht
      exact ⟨w.heap.size, none, 0, rfl, ⟨rfl, Nat.zero_le _, fun _ => rfl, fun g o s e => by cases e⟩, by omega, by omega, by omega, Nat.le_refl _⟩
    · have hlt : g < w5.heap.size := (Array.getElem?_eq_some_iff.1 hh).1
      rw [u8s_length] at hlc
      refine ⟨g, some ⟨g, 0, none⟩, cap, by rw [u8s_length], ⟨rfl, hlc, (fun h => by cases h), ?_⟩, hlt, by omega, by omega, by omega⟩
      intro g1 o1 s1 e1
      cases e1
      refine ⟨rfl, rfl, fun j v hj => ?_⟩
      obtain ⟨hl, rfl⟩ := List.getElem?_eq_some_iff.1 hj
      obtain ⟨a5, c5, e5, -, hat5, -⟩ := hat
      cases e5
      obtain ⟨b6, o6, e6, hc6⟩ := hat5 (by omega)
      cases e6
      exact hc6 j hl
  obtain ⟨gl, al, cl, rfl, hL5, hll, hlb5, hld5, hlw⟩ := hleft
  obtain ⟨bd, hbd⟩ : ∃ bd, bd = w.heap.size + 1 := ⟨_, rfl⟩
  rw [← hbd] at hWS5 hld5
  have HBD := Lib.hid hbd
  have hbw : w.heap.size ≤ b := by omega
  have hdw : w.heap.size ≤ bd := by omega
  clear hD4 hE4 hKA4 hb4 hb5 hO5 hD5 hE5 hKA5 hb04 hga hbb hgb hs3 hs4 hs5 hlb hS2 hbd
  go_wp2_with fail
  go_loopw [11, 31] (fun lv iv wr => ∃ (k : Nat) (T1 p1 : List UInt8) (c1 m cp : Nat) (a : Option Addr) (row1 rowD1 : Option (Nat × Nat)), k ≤ cuts.length ∧ iv = .int .i64 k ∧ lv = .slice a m cp ∧ LeftAt wr gl a m cp p1 ∧ Hid (text = T1 ++ p1) ∧ WS wr b bd ga key T1 c1 row1 rowD1 ∧ canon T1 c1 ∧ rowNew w5 none row1 ∧ rowNew w5 none rowD1 ∧ Keeps w5 wr (esN w5 b bd none none)) (fun lv iv wr => cuts.length - (intOf iv).toNat)
  case atStart => exact ⟨0, [], text, 0, text.length, cl, al, none, none, Nat.zero_le _, rfl, rfl, hL5, Lib.hid rfl, hWS5, Or.inr ⟨rfl, rfl⟩, rowNew.refl _ _, rowNew.refl _ _, Keeps.refl _ _⟩
  case round =>
    clear hL5 hWS5
    obtain ⟨k, T1, p1, c1, m, cp, a, row1, rowD1, hkl, rfl, rfl, hL, HTX, hWS, hcn, hrn, hrD, hK⟩ := hrel
    have hlen : T1.length + m = text.length := by rw [hL.1, HTX.out, List.length_append]
    have hszr := hK.size
    have hglr : gl < wr.heap.size := by omega
    have hgr : ¬ rowIs row1 gl := fun h => by have := none_new hrn gl h; omega
    have hgD : ¬ rowIs rowD1 gl := fun h => by have := none_new hrD gl h; omega
    by_cases hlk : k < cuts.length
    · have hdk : decide ((k : Int) < (cuts.length : Int)) = true := decide_eq_true (by omega)
      have hB : Below w.heap.size w wr := seal_below hb05 hK hbw hdw
      obtain ⟨gc, oc, rfl, hcell⟩ := HC.out (by simp; omega)
      obtain ⟨x, hx⟩ : ∃ x, x = cuts[k] := ⟨_, rfl⟩
      have hcx := hcell k (by simpa using hlk)
      have hxk : wr.cell? ⟨gc, oc + k, none⟩ = some (.int .i64 x) := by
        have h1 : gc < w.heap.size := World.block_lt_of_cell? w _ hcx
        rw [World.cell?_of_block (a := ⟨gc, oc + k, none⟩) (hB.block gc h1), hcx]
        simp [hx]
      have hxb := hcr x (by rw [hx]; exact List.getElem_mem _)
      obtain ⟨xm, hxm⟩ : ∃ n : Nat, n = x.toNat := ⟨_, rfl⟩
      have hmax : ∀ W, (Builtin.max_ #[3, 3] 3 #[.int .i64 x, .int .i64 0]).run Tryd.prog W = .ok (.int .i64 (xm : Int)) W := fun W => by rw [hxm]; exact run_max0 x
      obtain ⟨n, hnn⟩ : ∃ n, n = min xm m := ⟨_, rfl⟩
      have hmin : ∀ W, (Builtin.min_ #[3, 3] 3 #[.int .i64 (xm : Int), .int .i64 (m : Int)]).run Tryd.prog W = .ok (.int .i64 (n : Int)) W := fun W => run_min_nat xm m n hnn
      have hnm : n ≤ m := by omega
      have sl1 := run_uptoA wr gl m cp n a p1 hL hnm
      have sl2 := run_fromA wr gl m cp n a p1 hL hnm
      have hL2 := hL.from hnm
      obtain ⟨a2, ha2⟩ : ∃ x, x = fromA a cp n := ⟨_, rfl⟩
      obtain ⟨m2, hm2⟩ : ∃ x, x = m - n := ⟨_, rfl⟩
      obtain ⟨cp2, hcp2⟩ : ∃ x, x = cp - n := ⟨_, rfl⟩
      rw [← ha2, ← hm2, ← hcp2] at sl2 hL2
      have HCW := Lib.hid (ewWall_any wr b bd ga key T1 c1 row1 rowD1 gl n cp a (p1.take n) hWS hcn (hL.take hnm) hglr hlb5 hld5 hgr hgD (by omega))
      have hgN : ¬ esN wr b bd row1 rowD1 gl := by
        rintro ((h | h | h | h) | h)
        · exact hlb5 h
        · exact hld5 h
        · exact hgr h
        · exact hgD h
        · omega
      have hTX2 : Hid (text = T1 ++ p1.take n ++ p1.drop n) := Lib.hid (by rw [HTX.out, List.append_assoc, List.take_append_drop])
      clear hnn hxm ha2 hm2 hcp2 hx hL hcn hWS hlen hcx HTX
      go_wp2_with fail
      refine HCW.out.mono ?_
      rintro e w6 ⟨rfl, c2, row2, rowD2, hWS2, hcn2, hr2, hd2, hK2⟩
      clear HCW
      go_wp2_with fail
      go_roundw
      case rel => exact ⟨k + 1, T1 ++ p1.take n, p1.drop n, c2, m2, cp2, a2, row2, rowD2, hlk, by go_num, rfl, hL2.keeps hK2 hgN, hTX2, hWS2, hcn2, hrn.trans hr2 hszr, hrD.trans hd2 hszr, hK.trans (hK2.mono (fun k _ h => esN_of hrn hrD hszr h))⟩
      case measure => simp [intOf]; omega
    · have hdk : decide ((k : Int) < (cuts.length : Int)) = false := decide_eq_false (by omega)
      have HCW := Lib.hid (ewWall_any wr b bd ga key T1 c1 row1 rowD1 gl m cp a p1 hWS hcn hL hglr hlb5 hld5 hgr hgD (by omega))
      clear hWS hcn hL hlen
      go_wp2_with fail
      refine HCW.out.mono ?_
      rintro e w6 ⟨rfl, c2, row2, rowD2, hWS2, hcn2, hr2, hd2, hK2⟩
      rw [← HTX.out] at hWS2 hcn2
      have hKw6 := hK.trans (hK2.mono (fun k _ h => esN_of hrn hrD hszr h))
      have hrn2 := hrn.trans hr2 hszr
      have hrD2 := hrD.trans hd2 hszr
      have hsz6 := hKw6.size
      clear HCW hK2 hr2 hd2 hK hrn hrD
      go_wp2_with fail
      refine (close_any w6 b bd ga key text c2 row2 rowD2 hWS2 (by omega)).mono ?_
      rintro e w7 ⟨rfl, rowD3, hD7, hr7, hK7⟩
      have hhi := hWS2.hi
      have hK57 := hKw6.trans (hK7.mono (fun k _ h => esN_of hrn2 hrD2 hsz6 h))
      have hB7 : Below w.heap.size w w7 := seal_below hb05 hK57 hbw hdw
      obtain ⟨out, hout⟩ : ∃ out, out = outC key text c2 ++ sealedOf key ((nonceC c2).set 11 1) (text.drop (65536 * c2)) := ⟨_, rfl⟩
      rw [← hout] at hD7
      have houtl : out.length ≤ 4294967296 := by
        have h := outC_len key text c2
        have h2 := hWS2.lo
        rw [hout, List.length_append, sealedOf_length, List.length_drop]; omega
      have hone : out ≠ [] := fun h => by
        have h2 := congrArg List.length hout
        rw [h, List.length_append, sealedOf_length] at h2
        simp at h2
      obtain ⟨g, cap, hrow⟩ : ∃ g cap, rowD3 = some (g, cap) := by
        match rowD3, bs_row hD7 hone with
        | some (g, cap), _ => exact ⟨g, cap, rfl⟩
        | none, h => exact absurd rfl h
      rw [hrow, HBD.out] at hD7
      obtain ⟨X, hR7, hX7⟩ := hD7
      have hXr : X = u8s out ++ X.drop out.length := by rw [← hX7, List.take_append_drop]
      have HOUT := Lib.hid hout
      clear hWS2 hKw6 hrn2 hrD2 hK7 hr7 hK57 hout hrow
      go_wp2_with fail
      refine (bbytes_any w7 (w.heap.size + 1) 0 34 (fun _ => none) g cap out.length X hR7).mono ?_
      rintro e w8 ⟨rfl, k8, hw8⟩
      have hA8 : Arr w8 g 5 ([] ++ u8s out ++ X.drop out.length) := by rw [hw8, List.nil_append, ← hXr]; exact hR7.2.2.2.2.1
      have hat8 : At w8 (some ⟨g, 0, none⟩) (u8s out) := range_at (range_piece hA8 0 rfl)
      have hB8 : Below w.heap.size w w8 := by rw [hw8]; exact ⟨hB7.os, hB7.tape, hB7.output, hB7.size, hB7.block⟩
      have hs8 := hB8.size
      clear hw8 hR7 hX7 hXr hB7
      go_wp2_with fail
      refine (clone_any w8 (some ⟨g, 0, none⟩) cap out houtl hat8).mono ?_
      rintro e w9 ⟨v9, rfl, hO9, hb9⟩
      go_wp2_with fail
      go_ret2
      exact ⟨v9, c2, rfl, by rw [← HOUT.out]; exact hO9.mono hs8, hcn2, hhi, hB8.trans (hb9.mono hs8)⟩
end Go.Proofs.YtkocgogpbammaaaDoor

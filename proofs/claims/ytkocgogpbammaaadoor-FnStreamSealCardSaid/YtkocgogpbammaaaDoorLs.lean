/- FnStreamSeal: the law's walk. Conditions: what a row gives of its arguments. -/
import Derived.Test.YtkocgogpbammaaaDoorRs
set_option linter.unusedVariables false
set_option linter.unusedSimpArgs false
namespace Go.Proofs.YtkocgogpbammaaaDoor
open Go.RowKit

theorem wpList_load_rowW {P : Program} {ops : Array Oper} {rest : List Oper} {o : Oper} {a : Act} {w : World} {Q : Exit → Act → World → Prop} (hw : Region.wanted o (yielded ops a.tmps) = true) (ty : TypeId) (x : Operand) (ho : o.op = .load ty x)
    (g : Nat) (hx : a.eval x = .pointer (some ⟨g, 0, none⟩)) (t : TypeId) (cs : Array Value) (fr : Nat × Nat) (d : TypeDesc) (hg : w.heap[g]? = some (.cells cs t fr))
    (hu : P.underlying ty = some d) (hd : (match d with | .struct _ | .array _ _ => true | _ => false) = true) (hi : (P.info? ty).map (·.size) = some cs.size)
    (h : wpList P ops Q rest (a.put o.dst (.agg cs)) w) : wpList P ops Q (o :: rest) a w :=
  wpList_step fun _ hK => by rw [if_pos hw]; exact wp_load_row ty x ho g hx t cs fr d hg hu hd hi (hK _ _ h)
theorem run_toString {P : Program} {src dst e : TypeId} (w : World) (hs : P.underlying src = some (.slice e)) (hd : P.underlying dst = some .string) (he : P.underlying e = some (.int .u8))
    (ad : Option Addr) (cap : Nat) (l : List UInt8) (hat : At w ad (u8s l)) : (convert src dst (.slice ad l.length cap)).run P w = .ok (.string ⟨l.toArray⟩) w := by
  cases ad with
  | none =>
    have h0 : l = [] := by
      cases l with
      | nil => rfl
      | cons y l => obtain ⟨b, off, e', _⟩ := hat (by simp); cases e'
    subst h0
    simp [convert, run_underlying hs, run_underlying hd, run_underlying he, Conv.bytesToString]
    rfl
  | some p =>
    refine run_convert_bytes_back w src dst e p cap l hs he hd fun j hj => ?_
    obtain ⟨b, off, e', hc⟩ := hat.u8 j hj
    cases e'
    simp only [Addr.add]
    split
    · rename_i h0; subst h0; simpa using hc
    · exact hc
set_option maxRecDepth 100000 in
set_option maxHeartbeats 400000 in
theorem same_any (w : World) (a c : Option Addr) (ca cc : Nat) (l m : List UInt8) (n k : Nat) (hn : n = l.length) (hk : k = m.length) (ha : At w a (u8s l)) (hc : At w c (u8s m)) (he : l = m) :
    Calls Tryd.prog 6 #[.slice a n ca, .slice c k cc] w fun e w' => e = .returned (.bool true) ∧ w' = w := by
  have r1 := run_toString w Tryd.underlying23 Tryd.underlying9 Tryd.underlying5 a ca l ha
  have r2 := run_toString w Tryd.underlying23 Tryd.underlying9 Tryd.underlying5 c cc m hc
  rw [← hn] at r1
  rw [← hk, ← he] at r2
  obtain ⟨S, hS⟩ : ∃ S : ByteArray, S = ⟨l.toArray⟩ := ⟨_, rfl⟩
  rw [← hS] at r1 r2
  clear hn hk ha hc he hS
  go_enter Tryd.func6, Tryd.ntmps6
  go_wp2_with fail
  go_ret
  exact ⟨by simp, rfl⟩
set_option maxRecDepth 100000 in
set_option maxHeartbeats 400000 in
theorem isText_any (w : World) (a : Option Addr) (n c : Nat) (b : Bool) (hb : decide ((n : Int) ≤ 131172) = b) :
    Calls Tryd.prog 4 #[.slice a n c] w fun e w' => e = .returned (.bool b) ∧ w' = w := by
  have hb2 : decide (n ≤ 131172) = b := by rw [← hb, decide_eq_decide]; omega
  go_enter Tryd.func4, Tryd.ntmps4
  go_wp2_with fail
  go_ret
  exact ⟨rfl, rfl⟩
theorem canon_uniq {T : List UInt8} {c c' : Nat} (h : canon T c) (h' : canon T c') (h1 : T.length ≤ 65536 * (c + 1)) (h2 : T.length ≤ 65536 * (c' + 1)) : c = c' := by
  rcases h with h | ⟨h, rfl⟩ <;> rcases h' with h' | ⟨h', rfl⟩
  · omega
  · subst h'; simp at h
  · subst h; simp at h'
  · rfl
theorem k32_und : Tryd.prog.underlying 22 = some (.array 32 5) := by kernel_rfl
theorem k32_size : (Tryd.prog.info? 22).map (·.size) = some 32 := by kernel_rfl

set_option maxRecDepth 100000 in
set_option maxHeartbeats 2000000 in
/-- What the law does where its text and its cuts are not too long. -/
theorem fnSeal_in (w : World) (key text : List UInt8) (cuts : List Int) (ta ca : Option Addr) (tc cc n nc : Nat) (hk : key.length = 32) (hn : n = text.length) (hnc : nc = cuts.length) (hT : At w ta (u8s text)) (htc : text.length ≤ tc) (hC : At w ca (cuts.map fun x => Value.int .i64 x)) (hbig : text.length ≤ 131172) (hcl : cuts.length ≤ 1000) (hcr : ∀ x ∈ cuts, -9223372036854775808 ≤ x ∧ x ≤ 9223372036854775807) :
    Calls Tryd.prog 3 #[.agg (u8s key).toArray, .slice ta n tc, .slice ca nc cc] w fun e w' => e = .returned (.bool true) ∧ Below w.heap.size w w' := by
  have hs2 : (u8s key).toArray.size = 32 := by simp [hk]
  have hn0 := arr_new w (u8s key) 22
  have hb0 := below_alloc w (.cells (u8s key).toArray 22)
  have hkl : (u8s key).length = 32 := by rw [u8s_length, hk]
  have d1 : decide ((n : Int) > 2147483647) = false := decide_eq_false (by omega)
  have d1' : decide (2147483647 < n) = false := decide_eq_false (by omega)
  have d2 : decide ((nc : Int) > 2147483647) = false := decide_eq_false (by omega)
  have d2' : decide (2147483647 < nc) = false := decide_eq_false (by omega)
  have d3 : decide ((n : Int) ≤ 131172) = true := decide_eq_true (by omega)
  have d4 : decide ((nc : Int) > 1000) = false := decide_eq_false (by omega)
  have d4' : decide (1000 < nc) = false := decide_eq_false (by omega)
  have HI := fun W => implSeal_any W key text cuts ta ca tc cc hk
  have HS := fun W => specSeal_any W key text ta tc hk
  rw [← hn, ← hnc] at HI
  rw [← hn] at HS
  have HI := Lib.hid HI
  have HS := Lib.hid HS
  have HT := Lib.hid hT
  have HC := Lib.hid hC
  have HN := Lib.hid hn
  have HNC := Lib.hid hnc
  have HCR := Lib.hid hcr
  rw [← hn] at htc hbig
  rw [← hnc] at hcl
  clear hT hC hn hnc hcr hk
  go_enter Tryd.func3, Tryd.ntmps3
  go_wp2_with fail
  refine (isText_any _ ta n tc true d3).mono ?_
  rintro e w1 ⟨rfl, rfl⟩
  go_wp2_with (refine wpList_loadV k32_und k32_size rfl (.tmp 3) rfl w.heap.size (u8s key) hkl rfl hn0 ?_)
  refine (HI.out _ (HT.out.below hb0) (HC.out.below hb0) hbig hcl HCR.out).mono ?_
  rintro e w2 ⟨v1, c1, rfl, hO1, hc1, hl1, hb2⟩
  have hA2 := hn0.below (hb2)
  have hb02 := hb0.trans (hb2.mono hb0.size)
  obtain ⟨a1, k1, rfl, -, hat1, -⟩ := hO1.at
  rw [u8s_length]
  obtain ⟨o1, ho1⟩ : ∃ x, x = outC key text c1 ++ sealedOf key ((nonceC c1).set 11 1) (text.drop (65536 * c1)) := ⟨_, rfl⟩
  rw [← ho1] at hat1 ⊢
  obtain ⟨n1, hn1⟩ : ∃ n, n = o1.length := ⟨_, rfl⟩
  rw [← hn1]
  have HO1 := Lib.hid ho1
  have HN1 := Lib.hid hn1
  clear hO1 hn0 hb2 hb0 ho1 hn1
  go_wp2_with (refine wpList_load_rowW rfl 22 (.tmp 3) rfl w.heap.size rfl 22 (u8s key).toArray (0, 0) (.array 32 5) hA2 k32_und rfl (by rw [k32_size]; simp [hkl]) ?_)
  refine (HS.out _ (HT.out.below hb02) htc hbig).mono ?_
  rintro e w3 ⟨v3, c3, rfl, hO3, hc3, hl3, hb3⟩
  have hcc : c3 = c1 := canon_uniq hc3 hc1 (by rw [← HN.out]; exact hl3) (by rw [← HN.out]; exact hl1)
  rw [hcc, ← HO1.out] at hO3
  obtain ⟨a3, k3, rfl, -, hat3, -⟩ := hO3.at
  rw [u8s_length, ← HN1.out]
  have hat1' := hat1.below hb3
  have hb03 := hb02.trans (hb3.mono hb02.size)
  have HSA := Lib.hid (same_any w3 a1 a3 k1 k3 o1 o1 n1 n1 HN1.out HN1.out hat1' hat3 rfl)
  clear hO3 hb3 hat1 hat3 hA2 hat1' hcc
  go_wp2_with fail
  refine HSA.out.mono ?_
  rintro e w4 ⟨rfl, rfl⟩
  go_wp2_with fail
  go_ret
  exact ⟨rfl, hb03⟩

set_option maxRecDepth 100000 in
set_option maxHeartbeats 2000000 in
/-- The law is true. -/
theorem fnSeal_any (w : World) (key text : List UInt8) (cuts : List Int) (ta ca : Option Addr) (tc cc n nc : Nat) (hk : key.length = 32) (hn : n = text.length) (hnc : nc = cuts.length) (hT : At w ta (u8s text)) (htc : text.length ≤ tc) (hC : At w ca (cuts.map fun x => Value.int .i64 x)) (hcr : ∀ x ∈ cuts, -9223372036854775808 ≤ x ∧ x ≤ 9223372036854775807) :
    Calls Tryd.prog 3 #[.agg (u8s key).toArray, .slice ta n tc, .slice ca nc cc] w fun e w' => e = .returned (.bool true) ∧ Below w.heap.size w w' := by
  by_cases hin : n ≤ 131172 ∧ nc ≤ 1000
  · exact fnSeal_in w key text cuts ta ca tc cc n nc hk hn hnc hT htc hC (by omega) (by omega) hcr
  · have hs2 : (u8s key).toArray.size = 32 := by simp [hk]
    have hb0 := below_alloc w (.cells (u8s key).toArray 22)
    clear hT htc hC hcr hn hnc hk
    by_cases h1 : 2147483647 < n
    · have d1 : decide ((n : Int) > 2147483647) = true := decide_eq_true (by omega)
      have d1' : decide (2147483647 < n) = true := decide_eq_true (by omega)
      clear hin
      go_enter Tryd.func3, Tryd.ntmps3
      go_wp2_with fail
      go_ret
      exact ⟨rfl, hb0⟩
    · have d1 : decide ((n : Int) > 2147483647) = false := decide_eq_false (by omega)
      have d1' : decide (2147483647 < n) = false := decide_eq_false (by omega)
      by_cases h2 : 2147483647 < nc
      · have d2 : decide ((nc : Int) > 2147483647) = true := decide_eq_true (by omega)
        have d2' : decide (2147483647 < nc) = true := decide_eq_true (by omega)
        clear hin
        go_enter Tryd.func3, Tryd.ntmps3
        go_wp2_with fail
        go_ret
        exact ⟨rfl, hb0⟩
      · have d2 : decide ((nc : Int) > 2147483647) = false := decide_eq_false (by omega)
        have d2' : decide (2147483647 < nc) = false := decide_eq_false (by omega)
        by_cases h3 : n ≤ 131172
        · have d3 : decide ((n : Int) ≤ 131172) = true := decide_eq_true (by omega)
          have d4 : decide ((nc : Int) > 1000) = true := decide_eq_true (by omega)
          have d4' : decide (1000 < nc) = true := decide_eq_true (by omega)
          clear hin
          go_enter Tryd.func3, Tryd.ntmps3
          go_wp2_with fail
          refine (isText_any _ ta n tc true d3).mono ?_
          rintro e w1 ⟨rfl, rfl⟩
          go_wp2_with fail
          go_ret
          exact ⟨rfl, hb0⟩
        · have d3 : decide ((n : Int) ≤ 131172) = false := decide_eq_false (by omega)
          clear hin
          go_enter Tryd.func3, Tryd.ntmps3
          go_wp2_with fail
          refine (isText_any _ ta n tc false d3).mono ?_
          rintro e w1 ⟨rfl, rfl⟩
          go_wp2_with fail
          go_ret
          exact ⟨rfl, hb0⟩
end Go.Proofs.YtkocgogpbammaaaDoor

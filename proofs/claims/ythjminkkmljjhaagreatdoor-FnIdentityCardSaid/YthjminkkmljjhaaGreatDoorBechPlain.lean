/- Plain facts on Bech32, without the program: bits of bytes in groups of five and back; the checksum is linear, and what is written verifies; a text with one number turned does not. No conditions beyond those that each lemma states. -/
namespace Go.Proofs.YthjminkkmljjhaaGreatDoor.Bp

/-- Bit k of bytes, the highest of each byte first; nought beyond the end. -/
def bitAt (b : List Nat) (k : Nat) : Nat := b.getD (k / 8) 0 / 2 ^ (7 - k % 8) % 2

/-- The number that t bits from bit i on make. -/
def seg (b : List Nat) (i : Nat) : Nat → Nat
  | 0 => 0
  | t + 1 => 2 * seg b i t + bitAt b (i + t)

theorem bitAt_lt (b : List Nat) (k : Nat) : bitAt b k < 2 := Nat.mod_lt _ (by decide)

theorem seg_lt (b : List Nat) (i t : Nat) : seg b i t < 2 ^ t := by
  induction t with
  | zero => simp [seg]
  | succ t ih => have := bitAt_lt b (i + t); simp only [seg, Nat.pow_succ]; omega

theorem seg_add (b : List Nat) (i t u : Nat) : seg b i (t + u) = 2 ^ u * seg b i t + seg b (i + t) u := by
  induction u with
  | zero => simp [seg]
  | succ u ih =>
    rw [← Nat.add_assoc]
    simp only [seg, ih, Nat.pow_succ]
    rw [Nat.mul_add, Nat.add_assoc i t u]
    have : 2 * (2 ^ u * seg b i t) = 2 ^ u * 2 * seg b i t := by rw [Nat.mul_comm (2 ^ u) 2, Nat.mul_assoc]
    omega

/-- The last u bits of a longer number. -/
theorem seg_mod (b : List Nat) (i t u : Nat) : seg b i (t + u) % 2 ^ u = seg b (i + t) u := by
  rw [seg_add, Nat.mul_comm, Nat.mul_add_mod_self_right, Nat.mod_eq_of_lt (seg_lt _ _ _)]

/-- The number without its last u bits. -/
theorem seg_div (b : List Nat) (i t u : Nat) : seg b i (t + u) / 2 ^ u = seg b i t := by
  rw [seg_add, Nat.mul_add_div (Nat.two_pow_pos u), Nat.div_eq_of_lt (seg_lt _ _ _), Nat.add_zero]

/-- A byte's eight bits make the byte. -/
theorem seg_byte (b : List Nat) (k : Nat) (h : b.getD k 0 < 256) : seg b (8 * k) 8 = b.getD k 0 := by
  have e : ∀ t, t < 8 → bitAt b (8 * k + t) = b.getD k 0 / 2 ^ (7 - t) % 2 := by
    intro t ht
    unfold bitAt
    rw [show (8 * k + t) / 8 = k from by omega, show (8 * k + t) % 8 = t from by omega]
  generalize b.getD k 0 = x at *
  simp only [seg]
  rw [e 0 (by omega), e 1 (by omega), e 2 (by omega), e 3 (by omega), e 4 (by omega), e 5 (by omega), e 6 (by omega), e 7 (by omega)]
  simp only [Nat.reduceSub, Nat.reducePow]
  omega

/-- Beyond the end there are noughts. -/
theorem seg_out (b : List Nat) (i t : Nat) (h : 8 * b.length ≤ i) : seg b i t = 0 := by
  induction t with
  | zero => rfl
  | succ t ih =>
    simp only [seg, ih, bitAt]
    rw [List.getD_eq_getElem?_getD, List.getElem?_eq_none (by omega)]
    simp

/-- The number of five bits at place j. -/
def five (b : List Nat) (j : Nat) : Nat := seg b (5 * j) 5
theorem five_lt (b : List Nat) (j : Nat) : five b j < 32 := seg_lt b _ 5

/-- How many numbers of five bits n bytes give. -/
def fiveCount (n : Nat) : Nat := (8 * n + 4) / 5

def fives (b : List Nat) : List Nat := (List.range (fiveCount b.length)).map (five b)
theorem fives_length (b : List Nat) : (fives b).length = fiveCount b.length := by simp [fives]
theorem fives_getD (b : List Nat) (j : Nat) (h : j < fiveCount b.length) : (fives b).getD j 0 = five b j := by
  simp [fives, List.getD_eq_getElem?_getD, List.getElem?_range h]
theorem fives_lt (b : List Nat) : ∀ x ∈ fives b, x < 32 := by
  intro x hx
  simp only [fives, List.mem_map] at hx
  obtain ⟨j, _, rfl⟩ := hx
  exact five_lt b j

/-! ### The checksum -/
/-- What the top five bits bring in. -/
def tops (t : Nat) : Nat → Nat
  | 0 => 0
  | i + 1 => tops t i ^^^ (if t / 2 ^ i % 2 = 1 then [996825010, 642813549, 513874426, 1027748829, 705979059].getD i 0 else 0)
def top (t : Nat) : Nat := tops t 5
def step (c v : Nat) : Nat := (c % 33554432 * 32) ^^^ v ^^^ top (c / 33554432)
def pm (c : Nat) (l : List Nat) : Nat := l.foldl step c

theorem top_lt (t : Nat) (h : t < 32) : top t < 1073741824 := by
  have : ∀ t : Fin 32, top t.1 < 1073741824 := by decide +kernel
  exact this ⟨t, h⟩
theorem top_xor (s t : Nat) (hs : s < 32) (ht : t < 32) : top (s ^^^ t) = top s ^^^ top t := by
  have : ∀ s t : Fin 32, top (s.1 ^^^ t.1) = top s.1 ^^^ top t.1 := by decide +kernel
  exact this ⟨s, hs⟩ ⟨t, ht⟩
theorem top_low (t : Nat) (h : t < 32) (h0 : top t % 32 = 0) : t = 0 := by
  have : ∀ t : Fin 32, top t.1 % 32 = 0 → t.1 = 0 := by decide +kernel
  exact this ⟨t, h⟩ h0

theorem xor_zero_eq {a b : Nat} (h : a ^^^ b = 0) : a = b := by
  have := congrArg (· ^^^ b) h
  simpa [Nat.xor_assoc] using this

theorem xor_lt30 {a b : Nat} (ha : a < 1073741824) (hb : b < 1073741824) : a ^^^ b < 1073741824 :=
  Nat.xor_lt_two_pow (n := 30) ha hb

theorem step_lt (c v : Nat) (hc : c < 1073741824) (hv : v < 1073741824) : step c v < 1073741824 := by
  unfold step
  exact xor_lt30 (xor_lt30 (by omega) hv) (top_lt _ (by omega))

theorem pm_lt (l : List Nat) : ∀ c, c < 1073741824 → (∀ x ∈ l, x < 1073741824) → pm c l < 1073741824 := by
  induction l with
  | nil => intro c hc _; exact hc
  | cons v l ih =>
    intro c hc hl
    exact ih _ (step_lt c v hc (hl v (by simp))) (fun x hx => hl x (by simp [hx]))

theorem pm_append (c : Nat) (l m : List Nat) : pm c (l ++ m) = pm (pm c l) m := by simp [pm]
theorem pm_cons (c v : Nat) (m : List Nat) : pm c (v :: m) = pm (step c v) m := rfl

theorem shl_xor (a b : Nat) : (a ^^^ b) * 32 = (a * 32) ^^^ (b * 32) := by
  have := Nat.shiftLeft_xor_distrib (a := a) (b := b) (i := 5)
  simpa [Nat.shiftLeft_eq] using this

theorem step_xor (c d v u : Nat) (hc : c < 1073741824) (hd : d < 1073741824) :
    step (c ^^^ d) (v ^^^ u) = step c v ^^^ step d u := by
  unfold step
  have h1 : (c ^^^ d) % 33554432 = c % 33554432 ^^^ d % 33554432 := Nat.xor_mod_two_pow (n := 25)
  have h2 : (c ^^^ d) / 33554432 = c / 33554432 ^^^ d / 33554432 := Nat.xor_div_two_pow (n := 25)
  rw [h1, h2, shl_xor, top_xor _ _ (by omega) (by omega)]
  ac_rfl

/-- THE CHECKSUM IS LINEAR. -/
theorem pm_xor (l : List Nat) : ∀ (m : List Nat) (c d : Nat), l.length = m.length → c < 1073741824 → d < 1073741824 → (∀ x ∈ l, x < 1073741824) → (∀ x ∈ m, x < 1073741824) →
    pm (c ^^^ d) (List.zipWith (· ^^^ ·) l m) = pm c l ^^^ pm d m := by
  induction l with
  | nil =>
    intro m c d hlen _ _ _ _
    cases m with
    | nil => rfl
    | cons _ _ => simp at hlen
  | cons v l ih =>
    intro m c d hlen hc hd hl hm
    cases m with
    | nil => simp at hlen
    | cons u m =>
      simp only [List.zipWith_cons_cons, pm_cons]
      rw [step_xor c d v u hc hd]
      exact ih m _ _ (by simpa using hlen) (step_lt _ _ hc (hl v (by simp))) (step_lt _ _ hd (hm u (by simp))) (fun x hx => hl x (by simp [hx])) (fun x hx => hm x (by simp [hx]))

/-- Below 2^25 a step shifts. -/
theorem step_small (c v : Nat) (hc : c < 33554432) (hv : v < 32) : step c v = c * 32 + v := by
  unfold step
  rw [Nat.mod_eq_of_lt hc, Nat.div_eq_of_lt hc]
  have h0 : top 0 = 0 := by decide
  rw [h0, Nat.xor_zero]
  have := Nat.two_pow_add_eq_or_of_lt (b := v) (i := 5) hv c
  rw [show c * 32 = 2 ^ 5 * c from by rw [Nat.mul_comm], this]
  apply Nat.eq_of_testBit_eq
  intro i
  simp only [Nat.testBit_xor, Nat.testBit_or]
  by_cases h : i < 5
  · have : (2 ^ 5 * c).testBit i = false := by rw [Nat.testBit_two_pow_mul]; simp; omega
    simp [this]
  · have : v.testBit i = false := Nat.testBit_lt_two_pow (Nat.lt_of_lt_of_le hv (by rw [show (32 : Nat) = 2 ^ 5 from rfl]; exact Nat.pow_le_pow_right (by decide) (by omega)))
    simp [this]

/-- Six numbers of five bits, from nought: one behind the other. -/
theorem pm_six (a b c d e f : Nat) (ha : a < 32) (hb : b < 32) (hc : c < 32) (hd : d < 32) (he : e < 32) (hf : f < 32) :
    pm 0 [a, b, c, d, e, f] = ((((a * 32 + b) * 32 + c) * 32 + d) * 32 + e) * 32 + f := by
  simp only [pm, List.foldl_cons, List.foldl_nil]
  rw [step_small 0 a (by omega) ha, step_small _ b (by omega) hb, step_small _ c (by omega) hc, step_small _ d (by omega) hd, step_small _ e (by omega) he, step_small _ f (by omega) hf]
  omega

/-- The six numbers of five bits of a checksum, the highest first. -/
def sixOf (m : Nat) : List Nat := [m / 33554432 % 32, m / 1048576 % 32, m / 32768 % 32, m / 1024 % 32, m / 32 % 32, m % 32]

theorem pm_sixOf (m : Nat) (h : m < 1073741824) : pm 0 (sixOf m) = m := by
  unfold sixOf
  rw [pm_six _ _ _ _ _ _ (by omega) (by omega) (by omega) (by omega) (by omega) (by omega)]
  omega

theorem sixOf_lt (m : Nat) : ∀ x ∈ sixOf m, x < 32 := by
  intro x hx
  simp only [sixOf, List.mem_cons, List.not_mem_nil, or_false] at hx
  rcases hx with rfl | rfl | rfl | rfl | rfl | rfl <;> omega

/-- WHAT IS WRITTEN VERIFIES. -/
theorem pm_check (c : Nat) (l : List Nat) (hc : c < 1073741824) (hl : ∀ x ∈ l, x < 1073741824) :
    pm c (l ++ sixOf (pm c (l ++ [0, 0, 0, 0, 0, 0]) ^^^ 1)) = 1 := by
  have hq := pm_lt l c hc hl
  have hz : pm (pm c l) [0, 0, 0, 0, 0, 0] < 1073741824 := pm_lt _ _ hq (by simp)
  have hm : pm (pm c l) [0, 0, 0, 0, 0, 0] ^^^ 1 < 1073741824 := xor_lt30 hz (by omega)
  rw [pm_append, pm_append]
  have := pm_xor [0, 0, 0, 0, 0, 0] (sixOf (pm (pm c l) [0, 0, 0, 0, 0, 0] ^^^ 1)) (pm c l) 0 rfl hq (by omega) (by simp) (fun x hx => Nat.lt_trans (sixOf_lt _ x hx) (by decide))
  rw [Nat.xor_zero, pm_sixOf _ hm] at this
  have e : List.zipWith (· ^^^ ·) [0, 0, 0, 0, 0, 0] (sixOf (pm (pm c l) [0, 0, 0, 0, 0, 0] ^^^ 1)) = sixOf (pm (pm c l) [0, 0, 0, 0, 0, 0] ^^^ 1) := by
    simp [sixOf]
  rw [e] at this
  rw [this, ← Nat.xor_assoc, Nat.xor_self, Nat.zero_xor]

/-- A step over a nought does not lose what there is. -/
theorem step_zero_ne (c : Nat) (hc : c < 1073741824) (h : c ≠ 0) : step c 0 ≠ 0 := by
  intro h0
  unfold step at h0
  rw [Nat.xor_zero] at h0
  have he : c % 33554432 * 32 = top (c / 33554432) := xor_zero_eq h0
  have ht := top_low (c / 33554432) (by omega) (by omega)
  rw [ht, show top 0 = 0 from by decide] at he
  omega

theorem pm_zeros_ne (n : Nat) : ∀ c, c < 1073741824 → c ≠ 0 → pm c (List.replicate n 0) ≠ 0 := by
  induction n with
  | zero => intro c _ h; exact h
  | succ n ih =>
    intro c hc h
    rw [List.replicate_succ, pm_cons]
    exact ih _ (step_lt _ _ hc (by omega)) (step_zero_ne c hc h)

/-- ONE NUMBER TURNED TURNS THE CHECKSUM. -/
theorem pm_turned (c : Nat) (l m : List Nat) (x y : Nat) (hc : c < 1073741824) (hl : ∀ z ∈ l, z < 1073741824) (hm : ∀ z ∈ m, z < 1073741824) (hx : x < 1073741824) (hy : y < 1073741824) (hne : x ≠ y) :
    pm c (l ++ x :: m) ≠ pm c (l ++ y :: m) := by
  intro h
  rw [pm_append, pm_append, pm_cons, pm_cons] at h
  have hq := pm_lt l c hc hl
  have h2 := pm_xor m m (step (pm c l) x) (step (pm c l) y) rfl (step_lt _ _ hq hx) (step_lt _ _ hq hy) hm hm
  rw [h, Nat.xor_self] at h2
  have hz : List.zipWith (· ^^^ ·) m m = List.replicate m.length 0 := by
    clear h h2 hm
    induction m with
    | nil => rfl
    | cons a m ih => rw [List.zipWith_cons_cons, ih, Nat.xor_self]; rfl
  rw [hz, ← step_xor _ _ _ _ hq hq, Nat.xor_self] at h2
  have hxy : x ^^^ y ≠ 0 := fun e => hne (xor_zero_eq e)
  have hs : step 0 (x ^^^ y) = x ^^^ y := by
    unfold step
    simp [show top 0 = 0 from by decide]
  rw [hs] at h2
  exact pm_zeros_ne _ _ (xor_lt30 hx hy) hxy h2

end Go.Proofs.YthjminkkmljjhaaGreatDoor.Bp

/- The plain law of the Bech32 texts: what is written is read, in large letters too, and a turned sign is not read. -/
import Derived.Test.YthjminkkmljjhaaGreatDoorBnm
import Derived.Test.YthjminkkmljjhaaGreatDoorSb32
namespace Go.Proofs.YthjminkkmljjhaaGreatDoor
open Go.RowKit

theorem ltr_tab2 : ∀ d : Fin 32, Lib.lowerB (ltr (UInt8.ofNat d.1)) = ltr (UInt8.ofNat d.1) ∧ ixOf letters (low (up (ltr (UInt8.ofNat d.1)))) = (d.1 : Int) ∧ up (ltr (UInt8.ofNat d.1)) ≠ 49 ∧ (up (ltr (UInt8.ofNat d.1))).toNat < 128 ∧
    Lib.upperB (up (ltr (UInt8.ofNat d.1))) = up (ltr (UInt8.ofNat d.1)) := by decide
theorem ltr_at2 (d : UInt8) (h : d.toNat < 32) : Lib.lowerB (ltr d) = ltr d ∧ ixOf letters (low (up (ltr d))) = (d.toNat : Int) ∧ up (ltr d) ≠ 49 ∧ (up (ltr d)).toNat < 128 ∧ Lib.upperB (up (ltr d)) = up (ltr d) := by
  have := ltr_tab2 ⟨d.toNat, h⟩
  simpa using this

theorem byte_tab : ∀ x : Fin 256, nameByte (UInt8.ofNat x.1) = true → Lib.lowerB (UInt8.ofNat x.1) = UInt8.ofNat x.1 ∧ Lib.lowerB (up (UInt8.ofNat x.1)) = UInt8.ofNat x.1 ∧ Lib.upperB (up (UInt8.ofNat x.1)) = up (UInt8.ofNat x.1) ∧
    33 ≤ (UInt8.ofNat x.1).toNat ∧ (UInt8.ofNat x.1).toNat ≤ 126 ∧ 33 ≤ (up (UInt8.ofNat x.1)).toNat ∧ (up (UInt8.ofNat x.1)).toNat ≤ 126 := by decide +kernel
theorem name_byte (x : UInt8) (h : nameByte x = true) : Lib.lowerB x = x ∧ Lib.lowerB (up x) = x ∧ Lib.upperB (up x) = up x ∧ 33 ≤ x.toNat ∧ x.toNat ≤ 126 ∧ 33 ≤ (up x).toNat ∧ (up x).toNat ≤ 126 := by
  have := byte_tab ⟨x.toNat, UInt8.toNat_lt x⟩
  simp only [UInt8.ofNat_toNat] at this
  exact this h

theorem map_id_of (f : UInt8 → UInt8) (l : List UInt8) (h : ∀ x ∈ l, f x = x) : l.map f = l := by
  conv => rhs; rw [← List.map_id l]
  exact List.map_congr_left h

theorem isNm_parts {n : List UInt8} (h : isNm n = true) : 0 < n.length ∧ n.length ≤ 30 ∧ ∀ x ∈ n, nameByte x = true := by
  unfold isNm at h
  simp only [Bool.and_eq_true, decide_eq_true_eq, List.all_eq_true] at h
  exact ⟨by omega, h.1.2, h.2⟩

theorem lower_name {n : List UInt8} (h : ∀ x ∈ n, nameByte x = true) : Lib.toLowerA n = n := map_id_of _ _ fun x hx => (name_byte x (h x hx)).1
theorem lower_upper_name {n : List UInt8} (h : ∀ x ∈ n, nameByte x = true) : Lib.toLowerA (upper n) = n := by
  unfold Lib.toLowerA upper
  rw [List.map_map]
  exact map_id_of _ _ fun x hx => (name_byte x (h x hx)).2.1

section
variable (w : World) (n b : List UInt8) (hnm : isNm n = true) (hb : b.length ≤ 268435456) (hg : Gens w) (h0 : 0 < w.heap.size)
include hnm hb hg h0

theorem decode_text : Calls Tryz.prog 15 #[.string ⟨(text n b).toArray⟩] w fun e w' => DecPost true n b w.heap.size e w' ∧ Below w.heap.size w w' := by
  obtain ⟨h1, h2, h3⟩ := isNm_parts hnm
  have hdl := digits_length n b
  have hbl : Bp.fiveCount b.length ≤ 536870912 := by unfold Bp.fiveCount; omega
  unfold text
  refine decode_sum w n ((digits n b).map ltr) (digits n b) b true ?_ ?_ ?_ h1 ?_ ?_ ?_ ?_ ?_ ?_ ?_ hg h0
  · simp; omega
  · intro x hx
    simp only [List.mem_append, List.mem_cons, List.mem_map] at hx
    rcases hx with hx | rfl | ⟨d, hd, rfl⟩
    · have := name_byte x (h3 x hx); omega
    · decide
    · exact (ltr_at d (digits_lt n b d hd)).2.2.1
  · left
    refine map_id_of _ _ fun x hx => ?_
    simp only [List.mem_append, List.mem_cons, List.mem_map] at hx
    rcases hx with hx | rfl | ⟨d, hd, rfl⟩
    · exact (name_byte x (h3 x hx)).1
    · decide
    · exact (ltr_at2 d (digits_lt n b d hd)).1
  · intro x hx; have := name_byte x (h3 x hx); omega
  · simp; omega
  · intro x hx
    simp only [List.mem_map] at hx
    obtain ⟨d, hd, rfl⟩ := hx
    exact (ltr_at d (digits_lt n b d hd)).2.1
  · simp
  · intro j hj
    simp only [List.length_map] at hj
    rw [List.getElem_map, (ltr_at _ (digits_lt n b _ (List.getElem_mem hj))).1]
    simp [List.getD_eq_getElem?_getD, List.getElem?_eq_getElem hj]
  · rw [lower_name h3, pm_digits]; rfl
  · intro _; exact ⟨sum6 n b, rfl, rfl⟩

theorem decode_upper : Calls Tryz.prog 15 #[.string ⟨(upper (text n b)).toArray⟩] w fun e w' => DecPost true (upper n) b w.heap.size e w' ∧ Below w.heap.size w w' := by
  obtain ⟨h1, h2, h3⟩ := isNm_parts hnm
  have hdl := digits_length n b
  have hbl : Bp.fiveCount b.length ≤ 536870912 := by unfold Bp.fiveCount; omega
  have ht : upper (text n b) = upper n ++ 49 :: ((digits n b).map ltr).map up := by
    unfold text upper; rw [List.map_append, List.map_cons]; rfl
  rw [ht]
  refine decode_sum w (upper n) (((digits n b).map ltr).map up) (digits n b) b true ?_ ?_ ?_ ?_ ?_ ?_ ?_ ?_ ?_ ?_ ?_ hg h0
  · simp [upper]; omega
  · intro x hx
    simp only [upper, List.mem_append, List.mem_cons, List.mem_map] at hx
    rcases hx with ⟨y, hy, rfl⟩ | rfl | ⟨_, ⟨d, hd, rfl⟩, rfl⟩
    · have := name_byte y (h3 y hy); omega
    · decide
    · exact (ltr_at2 d (digits_lt n b d hd)).2.2.2.1
  · right
    refine map_id_of _ _ fun x hx => ?_
    simp only [upper, List.mem_append, List.mem_cons, List.mem_map] at hx
    rcases hx with ⟨y, hy, rfl⟩ | rfl | ⟨_, ⟨d, hd, rfl⟩, rfl⟩
    · exact (name_byte y (h3 y hy)).2.2.1
    · decide
    · exact (ltr_at2 d (digits_lt n b d hd)).2.2.2.2
  · simp [upper]; omega
  · intro x hx
    simp only [upper, List.mem_map] at hx
    obtain ⟨y, hy, rfl⟩ := hx
    have := name_byte y (h3 y hy); omega
  · simp; omega
  · intro x hx
    simp only [List.mem_map] at hx
    obtain ⟨_, ⟨d, hd, rfl⟩, rfl⟩ := hx
    exact (ltr_at2 d (digits_lt n b d hd)).2.2.1
  · simp
  · intro j hj
    simp only [List.length_map] at hj
    rw [List.getElem_map, List.getElem_map, (ltr_at2 _ (digits_lt n b _ (List.getElem_mem hj))).2.1]
    simp [List.getD_eq_getElem?_getD, List.getElem?_eq_getElem hj]
  · rw [lower_upper_name h3, pm_digits]; rfl
  · intro _; exact ⟨sum6 n b, rfl, rfl⟩
end

/-- A small letter or a figure, but for the one. -/
def signByte (c : UInt8) : Bool := ((97 ≤ c.toNat && c.toNat ≤ 122) || (48 ≤ c.toNat && c.toNat ≤ 57)) && c.toNat != 49
theorem sign_tab : ∀ x : Fin 256, signByte (UInt8.ofNat x.1) = true → Lib.lowerB (UInt8.ofNat x.1) = UInt8.ofNat x.1 ∧ low (UInt8.ofNat x.1) = x.1 ∧ x.1 < 128 ∧ ¬ (65 ≤ x.1 ∧ x.1 ≤ 90) ∧ x.1 ≠ 49 ∧
    (ixOf letters x.1 = -1 ∨ ∃ d : Fin 32, ixOf letters x.1 = (d.1 : Int) ∧ ltr (UInt8.ofNat d.1) = UInt8.ofNat x.1) := by decide +kernel
theorem sign_byte (c : UInt8) (h : signByte c = true) : Lib.lowerB c = c ∧ low c = c.toNat ∧ c.toNat < 128 ∧ ¬ (65 ≤ c.toNat ∧ c.toNat ≤ 90) ∧ c ≠ 49 ∧
    (ixOf letters c.toNat = -1 ∨ ∃ d : UInt8, d.toNat < 32 ∧ ixOf letters c.toNat = (d.toNat : Int) ∧ ltr d = c) := by
  have := sign_tab ⟨c.toNat, UInt8.toNat_lt c⟩
  simp only [UInt8.ofNat_toNat] at this
  obtain ⟨h1, h2, h3, h4, h5, h6⟩ := this h
  refine ⟨h1, h2, h3, h4, fun h => h5 (by rw [h]; rfl), ?_⟩
  rcases h6 with h6 | ⟨d, h6, h7⟩
  · exact .inl h6
  · exact .inr ⟨UInt8.ofNat d.1, by simp; omega, by rw [h6]; simp; omega, h7⟩

theorem sumOver_split (n d : List UInt8) (k : Nat) (h : k < d.length) : sumOver n d = ((expand8 n).map UInt8.toNat ++ (d.take k).map UInt8.toNat) ++ d[k].toNat :: (d.drop (k + 1)).map UInt8.toNat := by
  conv => lhs; rw [← List.take_append_drop k d, List.drop_eq_getElem_cons h]
  unfold sumOver
  rw [List.map_append, List.map_cons, List.append_assoc]

set_option maxRecDepth 100000 in
theorem decode_turned (w : World) (n b : List UInt8) (k : Nat) (c : UInt8) (hnm : isNm n = true) (hb : b.length ≤ 268435456) (hg : Gens w) (h0 : 0 < w.heap.size)
    (hk : n.length + 1 + k < (text n b).length) (hc : signByte c = true) (hne : (text n b)[n.length + 1 + k] ≠ c) :
    Calls Tryz.prog 15 #[.string ⟨((text n b).set (n.length + 1 + k) c).toArray⟩] w fun e w' => IsErr e ∧ Below w.heap.size w w' := by
  obtain ⟨h1, h2, h3⟩ := isNm_parts hnm
  have hdl := digits_length n b
  have hbl : Bp.fiveCount b.length ≤ 536870912 := by unfold Bp.fiveCount; omega
  have hkd : k < (digits n b).length := by rw [text_length] at hk; omega
  have hne2 : ltr (digits n b)[k] ≠ c := by
    intro h
    refine hne ?_
    have e : (text n b)[n.length + 1 + k]? = some (ltr (digits n b)[k]) := by
      unfold text
      rw [List.getElem?_append_right (by omega), show n.length + 1 + k - n.length = k + 1 from by omega, List.getElem?_cons_succ, List.getElem?_map, List.getElem?_eq_getElem hkd]; rfl
    rw [List.getElem?_eq_getElem hk] at e
    rw [← h]
    exact Option.some.inj e
  have ht : (text n b).set (n.length + 1 + k) c = n ++ 49 :: ((digits n b).map ltr).set k c := by
    unfold text
    rw [List.set_append_right _ _ (by omega), show n.length + 1 + k - n.length = k + 1 from by omega, List.set_cons_succ]
  rw [ht]
  obtain ⟨c1, c2, c3, c4, c5, c6⟩ := sign_byte c hc
  have hmem : ∀ x ∈ ((digits n b).map ltr).set k c, x = c ∨ ∃ d ∈ digits n b, ltr d = x := by
    intro x hx
    rcases List.mem_or_eq_of_mem_set hx with h | h
    · simp only [List.mem_map] at h; exact .inr h
    · exact .inl h
  have hall : ∀ x ∈ n ++ 49 :: ((digits n b).map ltr).set k c, x.toNat < 128 ∧ Lib.lowerB x = x := by
    intro x hx
    simp only [List.mem_append, List.mem_cons] at hx
    rcases hx with hx | rfl | hx
    · have := name_byte x (h3 x hx); exact ⟨by omega, this.1⟩
    · decide
    · rcases hmem x hx with rfl | ⟨d, hd, rfl⟩
      · exact ⟨c3, c1⟩
      · exact ⟨(ltr_at d (digits_lt n b d hd)).2.2.1, (ltr_at2 d (digits_lt n b d hd)).1⟩
  have h49 : ∀ x ∈ ((digits n b).map ltr).set k c, x ≠ 49 := by
    intro x hx
    rcases hmem x hx with rfl | ⟨d, hd, rfl⟩
    · exact c5
    · exact (ltr_at d (digits_lt n b d hd)).2.1
  have hname : ∀ x ∈ n, 33 ≤ x.toNat ∧ x.toNat ≤ 126 := by intro x hx; have := name_byte x (h3 x hx); omega
  have hlow : Lib.toLowerA (n ++ 49 :: ((digits n b).map ltr).set k c) = n ++ 49 :: ((digits n b).map ltr).set k c := map_id_of _ _ fun x hx => (hall x hx).2
  rcases c6 with c6 | ⟨x, hx, c6, c7⟩
  · refine decode_bad w n (((digits n b).map ltr).set k c) (digits n b) k (by simp; omega) (fun x hx => (hall x hx).1) hlow ?_ h1 hname (by simp; omega) h49 (by simpa using hkd) ?_ ?_
    · intro x hx
      rcases hmem x hx with rfl | ⟨d, hd, rfl⟩
      · exact c4
      · exact (ltr_at d (digits_lt n b d hd)).2.2.2
    · intro j hj hjk
      simp only [List.length_set, List.length_map] at hj
      have h4 := ltr_at _ (digits_lt n b _ (List.getElem_mem hj))
      rw [List.getElem_set_ne (by omega), List.getElem_map]
      have h5 : low (ltr (digits n b)[j]) = (ltr (digits n b)[j]).toNat := by unfold low; rw [if_neg h4.2.2.2]
      rw [← h5, h4.1]
      simp [List.getD_eq_getElem?_getD, List.getElem?_eq_getElem hj]
    · rw [List.getElem_set_self]; exact c6
  · refine (decode_sum w n (((digits n b).map ltr).set k c) ((digits n b).set k x) b false (by simp; omega) (fun x hx => (hall x hx).1) (.inl hlow) h1 hname (by simp; omega) h49 (by simp) ?_ ?_ (fun h => by cases h) hg h0).mono fun e w' h => h
    · intro j hj
      simp only [List.length_set, List.length_map] at hj
      by_cases hjk : j = k
      · subst hjk
        rw [List.getElem_set_self, c2, c6, List.getD_eq_getElem?_getD, List.getElem?_set_self hkd]; rfl
      · rw [List.getElem_set_ne (by omega), List.getElem_map, (ltr_at _ (digits_lt n b _ (List.getElem_mem hj))).1]
        simp [List.getD_eq_getElem?_getD, List.getElem?_set_ne (Ne.symm hjk), List.getElem?_eq_getElem hj]
    · rw [lower_name h3, beq_eq_false_iff_ne]
      have e1 := sumOver_split n (digits n b) k hkd
      have e2 := sumOver_split n ((digits n b).set k x) k (by simpa using hkd)
      rw [List.getElem_set_self, List.take_set_of_le (Nat.le_refl k), List.drop_set_of_lt (by omega)] at e2
      have hxk : (digits n b)[k].toNat ≠ x.toNat := by
        intro h
        refine hne2 ?_
        rw [UInt8.toNat_inj.1 h, c7]
      have h5 := Bp.pm_turned 1 ((expand8 n).map UInt8.toNat ++ ((digits n b).take k).map UInt8.toNat) (((digits n b).drop (k + 1)).map UInt8.toNat) (digits n b)[k].toNat x.toNat (by decide) ?_ ?_ ?_ (by omega) hxk
      · rw [← e1, ← e2, pm_digits] at h5
        intro h6
        exact h5 (by omega)
      · intro z hz
        simp only [List.mem_append, List.mem_map] at hz
        rcases hz with ⟨y, _, rfl⟩ | ⟨y, _, rfl⟩ <;> (have := UInt8.toNat_lt y; omega)
      · intro z hz
        simp only [List.mem_map] at hz
        obtain ⟨y, _, rfl⟩ := hz
        have := UInt8.toNat_lt y; omega
      · have := UInt8.toNat_lt (digits n b)[k]; omega
end Go.Proofs.YthjminkkmljjhaaGreatDoor

/- The walks of bech32.zzIndexRune and bech32.zzLastOne, and what they compute. Conditions: ASCII texts, an ASCII sign. -/
import Derived.Test.YthjminkkmljjhaaGreatDoorFacts
namespace Go.Proofs.YthjminkkmljjhaaGreatDoor
open Go.RowKit

/-- Where the first sign r stands; -1 without one. -/
def ixOf (cs : List UInt8) (r : Nat) : Int := match cs.findIdx? (fun b => b.toNat == r) with | some i => (i : Int) | none => -1

theorem ixOf_hit (cs : List UInt8) (r k : Nat) (hk : k < cs.length) (h : cs[k].toNat = r) (hb : ∀ j (hj : j < cs.length), j < k → cs[j].toNat ≠ r) : ixOf cs r = (k : Int) := by
  have : cs.findIdx? (fun b => b.toNat == r) = some k := by
    rw [List.findIdx?_eq_some_iff_getElem]
    exact ⟨hk, by simpa using h, fun j hj => by simpa using hb j (by omega) hj⟩
  simp [ixOf, this]
theorem ixOf_miss (cs : List UInt8) (r : Nat) (hb : ∀ j (hj : j < cs.length), cs[j].toNat ≠ r) : ixOf cs r = -1 := by
  have : cs.findIdx? (fun b => b.toNat == r) = none := by
    rw [List.findIdx?_eq_none_iff]
    intro x hx
    obtain ⟨j, hj, rfl⟩ := List.mem_iff_getElem.1 hx
    simpa using hb j hj
  simp [ixOf, this]

set_option maxRecDepth 100000 in
theorem indexRune_any (w : World) (cs : List UInt8) (hc : ∀ j (hj : j < cs.length), cs[j].toNat < 128) (hl : cs.length ≤ 4294967296) (r : Nat) (hr : r < 128) :
    Calls Tryz.prog 32 #[.string ⟨cs.toArray⟩, .int .i32 (r : Int)] w fun e w' => e = .returned (.int .i64 (ixOf cs r)) ∧ Below w.heap.size w w' := by
  have HC := Lib.hid hc; clear hc
  have t1 : ((r : Int) != 65533) = true := by rw [bne_iff_ne]; omega
  have t2 : decide ((r : Int) < 0) = false := by simp
  have t3 : decide (1114111 < (r : Int)) = false := by simp; omega
  go_enter Tryz.func32, Tryz.ntmps32
  go_wp2
  go_loopw [] (fun wr => ∃ pos : Nat, pos ≤ cs.length ∧ wr = w.iter ⟨cs.toArray⟩ pos ∧ Hid (∀ j (hj : j < cs.length), j < pos → cs[j].toNat ≠ r)) (fun wr => cs.length - wr.iterPos w.heap.size)
  case atStart => exact ⟨0, Nat.zero_le _, rfl, fun j hj h => by omega⟩
  case round =>
    obtain ⟨pos, hp, rfl, HJ⟩ := hrel
    by_cases hlt : pos < cs.length
    · have hnx : ∀ ty, (Instr.next (.pointer (some ⟨w.heap.size, 0, none⟩)) true ty).run Tryz.prog (w.iter ⟨cs.toArray⟩ pos) = _ := fun ty => next_ascii w cs pos ty hlt (HC.out pos hlt)
      by_cases he : cs[pos].toNat = r
      · have HE := Lib.hid (ixOf_hit cs r pos hlt he (fun j hj h => HJ.out j hj h))
        have t4 : ((cs[pos].toNat : Int) == (r : Int)) = true := by rw [beq_iff_eq]; omega
        clear he
        go_wp2
        go_ret
        exact ⟨by rw [HE.out]; rfl, below_iter _ _ _⟩
      · have t4 : ((cs[pos].toNat : Int) == (r : Int)) = false := by rw [beq_eq_false_iff_ne]; omega
        have HE := Lib.hid he; clear he
        go_wp2
        go_roundw
        case rel =>
          refine ⟨pos + 1, by omega, rfl, fun j hj h => ?_⟩
          by_cases hjp : j = pos
          · subst hjp; exact HE.out
          · exact HJ.out j hj (by omega)
        case measure => simp; omega
    · have hnx : ∀ ty, (Instr.next (.pointer (some ⟨w.heap.size, 0, none⟩)) true ty).run Tryz.prog (w.iter ⟨cs.toArray⟩ pos) = _ := fun ty => next_end w cs pos ty (by omega)
      have HE := Lib.hid (ixOf_miss cs r (fun j hj => HJ.out j hj (by omega)))
      go_wp2
      go_ret
      exact ⟨by rw [HE.out]; rfl, below_iter _ _ _⟩

theorem lastOne_any (w : World) (l : List UInt8) (hl : l.length ≤ 4294967296) (p : Nat) (hp : p < l.length) (h1 : l[p] = 49) (hlast : ∀ j (hj : j < l.length), p < j → l[j] ≠ 49) :
    Calls Tryz.prog 31 #[.string ⟨l.toArray⟩] w fun e w' => e = .returned (.int .i64 (p : Int)) ∧ w' = w := by
  have HL := Lib.hid hlast; clear hlast
  have H1 := Lib.hid h1; clear h1
  go_enter Tryz.func31, Tryz.ntmps31
  go_wp2
  go_loop [3] (fun i => ∃ k : Nat, p ≤ k ∧ k < l.length ∧ i = .int .i64 (k : Int)) (fun i => (intOf i).toNat)
  case atStart => exact ⟨l.length - 1, by omega, by omega, by go_num⟩
  case round =>
    obtain ⟨k, hpk, hk, rfl⟩ := hrel
    by_cases he : k = p
    · have t4 : ((l[k].toNat : Int) == 49) = true := by subst he; rw [H1.out]; rfl
      have HE := Lib.hid he; clear he
      go_wp2
      go_ret
      exact ⟨congrArg (fun n : Nat => Ending.returned (.int .i64 (n : Int))) HE.out, rfl⟩
    · have t4 : ((l[k].toNat : Int) == 49) = false := by
        rw [beq_eq_false_iff_ne]
        intro h
        have h2 : l[k].toNat = 49 := by omega
        exact HL.out k hk (by omega) (by rw [← UInt8.toNat_inj, h2]; rfl)
      go_wp2
      go_round
      case rel => exact ⟨k - 1, by omega, by omega, by go_num⟩
      case measure => simp [intOf]; omega
end Go.Proofs.YthjminkkmljjhaaGreatDoor

/- Closed facts on the types of this seat's translation that its walks use. No conditions. -/
import Derived.Test.YtkocgogpbammaaaDoorProg
import Derived.Test.YtkocgogpbammaaaDoorBase
import Derived.KernelRfl
set_option linter.unusedVariables false
set_option linter.unusedSimpArgs false
namespace Go.Proofs.YtkocgogpbammaaaDoor

theorem sty8 : STy Tryd.prog 23 5 (.int .u8 0) 1 := ⟨Tryd.underlying23, by kernel_rfl, rfl, (fun _ h => by cases h)⟩
theorem sty64 : STy Tryd.prog 24 3 (.int .i64 0) 8 := ⟨Tryd.underlying24, by kernel_rfl, rfl, (fun _ h => by cases h)⟩

/-- '[]byte(s)', for the walk. -/
theorem to_bytes (w : World) (s : ByteArray) : (convert 9 23 (.string s)).run Tryd.prog w = .ok (.slice (some ⟨w.heap.size, 0, none⟩) s.size (grownCap w s.size 0 5))
      (w.drew.alloc (.cells (bytesRow s (grownCap w s.size 0 5)) 5 ((bytesRow s (grownCap w s.size 0 5)).size, (bytesRow s (grownCap w s.size 0 5)).size + 1))) :=
  run_bytes_of_string w 9 23 5 s Tryd.underlying9 Tryd.underlying23 Tryd.underlying5
/-- What []byte(s) lays, in the walk's spelling. -/
theorem own_bytes (w : World) (base : Nat) (s : ByteArray) (hb : base ≤ w.heap.size) (hs : s.size ≤ maxLen) :
    Own (w.drew.alloc (.cells (bytesRow s (grownCap w s.size 0 5)) 5 ((bytesRow s (grownCap w s.size 0 5)).size, (bytesRow s (grownCap w s.size 0 5)).size + 1))) base 5
      (.slice (some ⟨w.heap.size, 0, none⟩) s.size (grownCap w s.size 0 5)) (u8s s.data.toList) :=
  Own.bytes w.drew base 5 s _ _ hb (grownCap_ge w _ _ _) (grownCap_le_maxLen w _ _ _ hs) (by rw [bytesRow_size _ _ (grownCap_ge w _ _ _)]; exact Nat.le_refl _)

end Go.Proofs.YtkocgogpbammaaaDoor

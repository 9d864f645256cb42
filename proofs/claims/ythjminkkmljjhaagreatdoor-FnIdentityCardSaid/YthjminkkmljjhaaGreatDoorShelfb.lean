/- The contracts of strings.Builder's writers at this seat's translation, out of the shelf's own. Conditions: a builder that the call has made, and the new length at most 2^47. -/
import Derived.Test.YthjminkkmljjhaaGreatDoorShelf
import Derived.Test.YthjminkkmljjhaaGreatDoorBase
namespace Go.Proofs.YthjminkkmljjhaaGreatDoor
open Go.RowKit Go.Shelf

theorem writeByte_any (B b : Nat) (bs : List Value) (c : Int) (w : World) (h : Lib.IsBuilder 76 5 B b bs w) (hlen : bs.length + 1 ≤ 140737488355328) (hBw : B ≤ w.heap.size) :
    Calls Tryz.prog 37 #[.pointer (some ⟨b, 0, none⟩), .int .u8 c] w fun e w' => e = .returned .nilIface ∧ Lib.IsBuilder 76 5 B b (bs ++ [.int .u8 c]) w' ∧ Below B w w' :=
  (Any.Builder_WriteByte (P := Tryz.prog) (ρ := Tryz.lays159_ren) { Tryz.lays159 with } Tryz.Builder_Extra_159 B b bs c w h hlen hBw).mono fun _ _ ⟨h1, h2, h3⟩ => ⟨h1, Or.inr h2, h3⟩

theorem writeString_any (B b : Nat) (bs : List Value) (s : ByteArray) (w : World) (h : Lib.IsBuilder 76 5 B b bs w) (hlen : bs.length + s.size ≤ 140737488355328) (hBw : B ≤ w.heap.size) :
    Calls Tryz.prog 36 #[.pointer (some ⟨b, 0, none⟩), .string s] w fun e w' => e = .returned (.tuple #[.int .i64 s.size, .nilIface]) ∧ Lib.IsBuilder 76 5 B b (bs ++ Lib.strCells s) w' ∧ Below B w w' :=
  (Any.Builder_WriteString (P := Tryz.prog) (ρ := Tryz.lays159_ren) { Tryz.lays159 with } Tryz.Builder_Extra_159 B b bs s w h hlen hBw).mono fun _ _ ⟨h1, h2, h3⟩ => ⟨h1, Or.inr h2, h3⟩

end Go.Proofs.YthjminkkmljjhaaGreatDoor

/-
  NARROWER THAN 'FOR EVERY INPUT', by the rows' own cells (each row's printed sentence says how): FnBech32Turned: laid · FnBech32: laid · FnRecipient: laid · FnKeyNames: laid.
  DERIVED. THE GIVEN ROWS OF THIS SEAT. 4 by the template 'for every input the law returns true; each argument reads behind the call as it read before'; 0 by the template 'total and deterministic' (their statements: YthjminkkmljjhaaDoorTotals.lean).
  GIVEN WITH THE SEED: the statements are not yours to turn. If you find one false, say at which input.
  Laid BY PROGRAM, IN A SANDBOX (cutbox-rows.mjs): the forced cells as the released guide's own fill.sh prints them over the translation 4c10cd53e0ad00c5… (all of the seat's roots in one cut). By AI agents, Wed Nov 11 2026. No macro, syntax, notation, axiom, sorry.
-/
import Derived.Test.YthjminkkmljjhaaDoorChecked
import GoSem.PinnedTables
import GoSem.Claim
import GoSem.ClaimJoined
import GoSem.ClaimMapViews
import Derived.JoinedTies
import Derived.KernelRfl
namespace Go.Proofs.YthjminkkmljjhaaDoor
/- THE CELL 'sum', in the pinned program and in every row, IS THE sha256 OF THE DUMP (.gsa) THAT YthjminkkmljjhaaDoorProg.lean LOADS. Nothing in Lean hashes anything: it is a label: what it is worth is what the hold of that sum in a sandbox is worth. -/
noncomputable def Tryd.pinned : Pinned := { name := "ythjminkkmljjhaadoor", sum := "4c10cd53e0ad00c5c23aa4f81b4413b783d9d91a38870f83d5ec94ff55e4e83d", checked := Tryd.checked }
namespace Rows
def none {H : Type} : Left H := { results := [], args := [] }

/- WHAT THE LISTED PACKAGE-LEVEL VARIABLES READ AS WHEN THE CALL BEGINS. Each datum BY PROGRAM (the guide's laid-datum.mjs) off the statement by which the dump's own 'gosem.cut.vars' lays the variable. In a bare row this is a premise. The card (YthjminkkmljjhaaDoorCards.lean) ties it to the program's text. -/
def laid_unicode_utf8_acceptRanges {H : Type} : DataW H := .agg [.agg [.lit (.int .u8 128), .lit (.int .u8 191)], .agg [.lit (.int .u8 160), .lit (.int .u8 191)], .agg [.lit (.int .u8 128), .lit (.int .u8 159)], .agg [.lit (.int .u8 144), .lit (.int .u8 191)], .agg [.lit (.int .u8 128), .lit (.int .u8 143)], .agg [.lit (.int .u8 0), .lit (.int .u8 0)], .agg [.lit (.int .u8 0), .lit (.int .u8 0)], .agg [.lit (.int .u8 0), .lit (.int .u8 0)], .agg [.lit (.int .u8 0), .lit (.int .u8 0)], .agg [.lit (.int .u8 0), .lit (.int .u8 0)], .agg [.lit (.int .u8 0), .lit (.int .u8 0)], .agg [.lit (.int .u8 0), .lit (.int .u8 0)], .agg [.lit (.int .u8 0), .lit (.int .u8 0)], .agg [.lit (.int .u8 0), .lit (.int .u8 0)], .agg [.lit (.int .u8 0), .lit (.int .u8 0)], .agg [.lit (.int .u8 0), .lit (.int .u8 0)]]
def laid_loop_example_pub_g03048_pub_age_inner_bech32_generator {H : Type} : DataW H := .agg [.lit (.int .u32 996825010), .lit (.int .u32 642813549), .lit (.int .u32 513874426), .lit (.int .u32 1027748829), .lit (.int .u32 705979059)]
/-- One of Go's own tables, pinned by name: the form's constant. -/
def laid_unicode_CaseRanges : DataW Unit := Go.Pinned.caseRanges
/-- One of Go's own tables, pinned by name: the form's constant. -/
def laid_unicode_utf8_first : DataW Unit := Go.Pinned.utf8First
def laid_loop_example_pub_g03048_pub_field_feOne {H : Type} : DataW H := .ptr (.agg [.lit (.int .u64 1), .lit (.int .u64 0), .lit (.int .u64 0), .lit (.int .u64 0), .lit (.int .u64 0)])

/-- 'laws.FnBech32Turned': WHATEVER THE INPUT: true; the input reads as it did. -/
def fnBech32TurnedSpec : ChangeSpec := { name := "fnBech32Turned", vars := ["loop.example/pub-g03048/pub/age/inner/bech32.generator"], fn := fun _ => fun
  | [d1, d2, d3, d4, g1] => { results := [.lit (.bool true)], args := [d1, d2, d3, d4], vars := [g1] }
  | _ => none }
def fnBech32TurnedRow : OpenClaim := { program := "ythjminkkmljjhaadoor", sum := "4c10cd53e0ad00c5c23aa4f81b4413b783d9d91a38870f83d5ec94ff55e4e83d", func := "loop.example/pub-g03048/laws.FnBech32Turned", spec := "fnBech32Turned", inPlace := ["internal/abi.NoEscape", "internal/bytealg.MakeNoZero"], unfollowed := true, recurses := true, named := ["unicode/utf8.first", "unicode/utf8.acceptRanges", "unicode.CaseRanges", "loop.example/pub-g03048/pub/age/inner/bech32.generator"], apart := false, laid := [("unicode/utf8.acceptRanges", laid_unicode_utf8_acceptRanges), ("loop.example/pub-g03048/pub/age/inner/bech32.generator", laid_loop_example_pub_g03048_pub_age_inner_bech32_generator), ("unicode.CaseRanges", laid_unicode_CaseRanges), ("unicode/utf8.first", laid_unicode_utf8_first)] }
def FnBech32TurnedSaid : Prop := fnBech32TurnedRow.holds Tryd.pinned (OpenSpec.ofChange fnBech32TurnedSpec)

/-- ITS FALSE NEIGHBOUR: 'it returns false'. Refute it at one input. -/
def fnBech32TurnedWrong : ChangeSpec := { name := "fnBech32Turned", vars := ["loop.example/pub-g03048/pub/age/inner/bech32.generator"], fn := fun _ => fun
  | [d1, d2, d3, d4, g1] => { results := [.lit (.bool false)], args := [d1, d2, d3, d4], vars := [g1] }
  | _ => none }
def FnBech32TurnedWrongFalsely : Prop := fnBech32TurnedRow.holds Tryd.pinned (OpenSpec.ofChange fnBech32TurnedWrong)

/-- 'laws.FnBech32': WHATEVER THE INPUT: true; the input reads as it did. -/
def fnBech32Spec : ChangeSpec := { name := "fnBech32", vars := ["loop.example/pub-g03048/pub/age/inner/bech32.generator"], fn := fun _ => fun
  | [d1, d2, g1] => { results := [.lit (.bool true)], args := [d1, d2], vars := [g1] }
  | _ => none }
def fnBech32Row : OpenClaim := { program := "ythjminkkmljjhaadoor", sum := "4c10cd53e0ad00c5c23aa4f81b4413b783d9d91a38870f83d5ec94ff55e4e83d", func := "loop.example/pub-g03048/laws.FnBech32", spec := "fnBech32", inPlace := ["internal/abi.NoEscape", "internal/bytealg.MakeNoZero"], unfollowed := true, recurses := true, named := ["unicode/utf8.first", "unicode/utf8.acceptRanges", "unicode.CaseRanges", "loop.example/pub-g03048/pub/age/inner/bech32.generator"], apart := false, laid := [("unicode/utf8.acceptRanges", laid_unicode_utf8_acceptRanges), ("loop.example/pub-g03048/pub/age/inner/bech32.generator", laid_loop_example_pub_g03048_pub_age_inner_bech32_generator), ("unicode.CaseRanges", laid_unicode_CaseRanges), ("unicode/utf8.first", laid_unicode_utf8_first)] }
def FnBech32Said : Prop := fnBech32Row.holds Tryd.pinned (OpenSpec.ofChange fnBech32Spec)

/-- ITS FALSE NEIGHBOUR: 'it returns false'. Refute it at one input. -/
def fnBech32Wrong : ChangeSpec := { name := "fnBech32", vars := ["loop.example/pub-g03048/pub/age/inner/bech32.generator"], fn := fun _ => fun
  | [d1, d2, g1] => { results := [.lit (.bool false)], args := [d1, d2], vars := [g1] }
  | _ => none }
def FnBech32WrongFalsely : Prop := fnBech32Row.holds Tryd.pinned (OpenSpec.ofChange fnBech32Wrong)

/-- 'laws.FnRecipient': WHATEVER THE INPUT: true; the input reads as it did. -/
def fnRecipientSpec : ChangeSpec := { name := "fnRecipient", vars := ["loop.example/pub-g03048/pub/age/inner/bech32.generator"], fn := fun _ => fun
  | [d, g1] => { results := [.lit (.bool true)], args := [d], vars := [g1] }
  | _ => none }
def fnRecipientRow : OpenClaim := { program := "ythjminkkmljjhaadoor", sum := "4c10cd53e0ad00c5c23aa4f81b4413b783d9d91a38870f83d5ec94ff55e4e83d", func := "loop.example/pub-g03048/laws.FnRecipient", spec := "fnRecipient", inPlace := ["internal/abi.NoEscape", "internal/bytealg.MakeNoZero"], unfollowed := true, recurses := true, named := ["unicode/utf8.first", "unicode/utf8.acceptRanges", "unicode.CaseRanges", "loop.example/pub-g03048/pub/age/inner/bech32.generator"], apart := false, laid := [("unicode/utf8.acceptRanges", laid_unicode_utf8_acceptRanges), ("loop.example/pub-g03048/pub/age/inner/bech32.generator", laid_loop_example_pub_g03048_pub_age_inner_bech32_generator), ("unicode.CaseRanges", laid_unicode_CaseRanges), ("unicode/utf8.first", laid_unicode_utf8_first)] }
def FnRecipientSaid : Prop := fnRecipientRow.holds Tryd.pinned (OpenSpec.ofChange fnRecipientSpec)

/-- ITS FALSE NEIGHBOUR: 'it returns false'. Refute it at one input. -/
def fnRecipientWrong : ChangeSpec := { name := "fnRecipient", vars := ["loop.example/pub-g03048/pub/age/inner/bech32.generator"], fn := fun _ => fun
  | [d, g1] => { results := [.lit (.bool false)], args := [d], vars := [g1] }
  | _ => none }
def FnRecipientWrongFalsely : Prop := fnRecipientRow.holds Tryd.pinned (OpenSpec.ofChange fnRecipientWrong)

/-- 'laws.FnKeyNames': WHATEVER THE INPUT: true; the input reads as it did. -/
def fnKeyNamesSpec : ChangeSpec := { name := "fnKeyNames", vars := ["loop.example/pub-g03048/pub/age/inner/bech32.generator", "loop.example/pub-g03048/pub/field.feOne"], fn := fun _ => fun
  | [d1, d2, g1, g2] => { results := [.lit (.bool true)], args := [d1, d2], vars := [g1, g2] }
  | _ => none }
def fnKeyNamesRow : OpenClaim := { program := "ythjminkkmljjhaadoor", sum := "4c10cd53e0ad00c5c23aa4f81b4413b783d9d91a38870f83d5ec94ff55e4e83d", func := "loop.example/pub-g03048/laws.FnKeyNames", spec := "fnKeyNames", inPlace := ["internal/abi.NoEscape", "internal/bytealg.MakeNoZero", "math/bits.Add64"], unfollowed := true, recurses := true, named := ["unicode/utf8.first", "unicode/utf8.acceptRanges", "unicode.CaseRanges", "loop.example/pub-g03048/pub/age/inner/bech32.generator", "loop.example/pub-g03048/pub/field.feOne"], apart := false, laid := [("unicode/utf8.acceptRanges", laid_unicode_utf8_acceptRanges), ("loop.example/pub-g03048/pub/field.feOne", laid_loop_example_pub_g03048_pub_field_feOne), ("loop.example/pub-g03048/pub/age/inner/bech32.generator", laid_loop_example_pub_g03048_pub_age_inner_bech32_generator), ("unicode.CaseRanges", laid_unicode_CaseRanges), ("unicode/utf8.first", laid_unicode_utf8_first)] }
def FnKeyNamesSaid : Prop := fnKeyNamesRow.holds Tryd.pinned (OpenSpec.ofChange fnKeyNamesSpec)

/-- ITS FALSE NEIGHBOUR: 'it returns false'. Refute it at one input. -/
def fnKeyNamesWrong : ChangeSpec := { name := "fnKeyNames", vars := ["loop.example/pub-g03048/pub/age/inner/bech32.generator", "loop.example/pub-g03048/pub/field.feOne"], fn := fun _ => fun
  | [d1, d2, g1, g2] => { results := [.lit (.bool false)], args := [d1, d2], vars := [g1, g2] }
  | _ => none }
def FnKeyNamesWrongFalsely : Prop := fnKeyNamesRow.holds Tryd.pinned (OpenSpec.ofChange fnKeyNamesWrong)

/- THE SECOND FORM. 'bulk': how many values and letters a reading holds, each counted each time it is reached (what is shared counts as often as it is met; a slice's spare places count too). A statement '..UptoSaid' is the law's where the arguments, and the package variables that the reading takes, are together of bulk at most 1048576: NARROWER than '..Said'. Prove '..Said' where nothing that the law and all that it calls make is longer than what came in: it says more and counts as full. Else prove '..UptoSaid'. A law counts once. -/
mutual
def uptoBulk {H : Type} : DataW H → Nat
  | .lit (.string bytes) => bytes.length + 1
  | .lit _ => 1
  | .nil => 1
  | .ptr d => uptoBulk d + 1
  | .slice elems spare => uptoBulkAll elems + uptoBulkAll spare + 1
  | .agg parts => uptoBulkAll parts + 1
  | .iface _ d => uptoBulk d + 1
  | .map entries => uptoBulkEntries entries + 1
  | .held _ => 1
def uptoBulkAll {H : Type} : List (DataW H) → Nat
  | [] => 0
  | d :: r => uptoBulk d + uptoBulkAll r
def uptoBulkEntries {H : Type} : List (Lit × DataW H) → Nat
  | [] => 0
  | x :: r => uptoBulkEntry x + uptoBulkEntries r
def uptoBulkEntry {H : Type} : Lit × DataW H → Nat
  | (.string bytes, d) => bytes.length + uptoBulk d + 1
  | (_, d) => uptoBulk d + 1
 end
def uptoSmall : (H : Type) → List (DataW H) → Bool := fun _ ds => decide (uptoBulkAll ds ≤ 1048576)
def OpenSpec.upto (s : _root_.Go.ChangeSpec) : _root_.Go.OpenSpec := { _root_.Go.OpenSpec.ofChange s with cond := some uptoSmall }

/-- 'laws.FnBech32Turned', WHERE WHAT IT READS IS OF BULK AT MOST 1048576: true; the input reads as it did. -/
def fnBech32TurnedUptoRow : OpenClaim := { program := "ythjminkkmljjhaadoor", sum := "4c10cd53e0ad00c5c23aa4f81b4413b783d9d91a38870f83d5ec94ff55e4e83d", func := "loop.example/pub-g03048/laws.FnBech32Turned", spec := "fnBech32Turned", inPlace := ["internal/abi.NoEscape", "internal/bytealg.MakeNoZero"], unfollowed := true, recurses := true, named := ["unicode/utf8.first", "unicode/utf8.acceptRanges", "unicode.CaseRanges", "loop.example/pub-g03048/pub/age/inner/bech32.generator"], apart := false, laid := [("unicode/utf8.acceptRanges", laid_unicode_utf8_acceptRanges), ("loop.example/pub-g03048/pub/age/inner/bech32.generator", laid_loop_example_pub_g03048_pub_age_inner_bech32_generator), ("unicode.CaseRanges", laid_unicode_CaseRanges), ("unicode/utf8.first", laid_unicode_utf8_first)], narrowed := true }
def FnBech32TurnedUptoSaid : Prop := fnBech32TurnedUptoRow.holds Tryd.pinned (OpenSpec.upto fnBech32TurnedSpec)

/-- 'laws.FnBech32', WHERE WHAT IT READS IS OF BULK AT MOST 1048576: true; the input reads as it did. -/
def fnBech32UptoRow : OpenClaim := { program := "ythjminkkmljjhaadoor", sum := "4c10cd53e0ad00c5c23aa4f81b4413b783d9d91a38870f83d5ec94ff55e4e83d", func := "loop.example/pub-g03048/laws.FnBech32", spec := "fnBech32", inPlace := ["internal/abi.NoEscape", "internal/bytealg.MakeNoZero"], unfollowed := true, recurses := true, named := ["unicode/utf8.first", "unicode/utf8.acceptRanges", "unicode.CaseRanges", "loop.example/pub-g03048/pub/age/inner/bech32.generator"], apart := false, laid := [("unicode/utf8.acceptRanges", laid_unicode_utf8_acceptRanges), ("loop.example/pub-g03048/pub/age/inner/bech32.generator", laid_loop_example_pub_g03048_pub_age_inner_bech32_generator), ("unicode.CaseRanges", laid_unicode_CaseRanges), ("unicode/utf8.first", laid_unicode_utf8_first)], narrowed := true }
def FnBech32UptoSaid : Prop := fnBech32UptoRow.holds Tryd.pinned (OpenSpec.upto fnBech32Spec)

/-- 'laws.FnRecipient', WHERE WHAT IT READS IS OF BULK AT MOST 1048576: true; the input reads as it did. -/
def fnRecipientUptoRow : OpenClaim := { program := "ythjminkkmljjhaadoor", sum := "4c10cd53e0ad00c5c23aa4f81b4413b783d9d91a38870f83d5ec94ff55e4e83d", func := "loop.example/pub-g03048/laws.FnRecipient", spec := "fnRecipient", inPlace := ["internal/abi.NoEscape", "internal/bytealg.MakeNoZero"], unfollowed := true, recurses := true, named := ["unicode/utf8.first", "unicode/utf8.acceptRanges", "unicode.CaseRanges", "loop.example/pub-g03048/pub/age/inner/bech32.generator"], apart := false, laid := [("unicode/utf8.acceptRanges", laid_unicode_utf8_acceptRanges), ("loop.example/pub-g03048/pub/age/inner/bech32.generator", laid_loop_example_pub_g03048_pub_age_inner_bech32_generator), ("unicode.CaseRanges", laid_unicode_CaseRanges), ("unicode/utf8.first", laid_unicode_utf8_first)], narrowed := true }
def FnRecipientUptoSaid : Prop := fnRecipientUptoRow.holds Tryd.pinned (OpenSpec.upto fnRecipientSpec)

/-- 'laws.FnKeyNames', WHERE WHAT IT READS IS OF BULK AT MOST 1048576: true; the input reads as it did. -/
def fnKeyNamesUptoRow : OpenClaim := { program := "ythjminkkmljjhaadoor", sum := "4c10cd53e0ad00c5c23aa4f81b4413b783d9d91a38870f83d5ec94ff55e4e83d", func := "loop.example/pub-g03048/laws.FnKeyNames", spec := "fnKeyNames", inPlace := ["internal/abi.NoEscape", "internal/bytealg.MakeNoZero", "math/bits.Add64"], unfollowed := true, recurses := true, named := ["unicode/utf8.first", "unicode/utf8.acceptRanges", "unicode.CaseRanges", "loop.example/pub-g03048/pub/age/inner/bech32.generator", "loop.example/pub-g03048/pub/field.feOne"], apart := false, laid := [("unicode/utf8.acceptRanges", laid_unicode_utf8_acceptRanges), ("loop.example/pub-g03048/pub/field.feOne", laid_loop_example_pub_g03048_pub_field_feOne), ("loop.example/pub-g03048/pub/age/inner/bech32.generator", laid_loop_example_pub_g03048_pub_age_inner_bech32_generator), ("unicode.CaseRanges", laid_unicode_CaseRanges), ("unicode/utf8.first", laid_unicode_utf8_first)], narrowed := true }
def FnKeyNamesUptoSaid : Prop := fnKeyNamesUptoRow.holds Tryd.pinned (OpenSpec.upto fnKeyNamesSpec)

end Rows
end Go.Proofs.YthjminkkmljjhaaDoor

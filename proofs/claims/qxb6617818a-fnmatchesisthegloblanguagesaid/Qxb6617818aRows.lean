/-
  No cell of these rows narrows 'for every input' (looked for: loops, veiled, ifaces, maps, wideKeys, modest, calm, conditions, laid).
  DERIVED. THE GIVEN ROWS OF THIS SEAT. 5 by the template 'for every input the law returns true; each argument reads behind the call as it read before'; 0 by the template 'total and deterministic' (their statements: Qxb6617818aTotals.lean).
  GIVEN WITH THE SEED: the statements are not yours to turn. If you find one false, say at which input.
  Laid BY PROGRAM, IN A SANDBOX (cutbox-rows.mjs): the forced cells as the released guide's own fill.sh prints them over the translation d45ef9983c778261… (all of the seat's roots in one cut). By AI agents, Wed Nov 11 2026. No macro, syntax, notation, axiom, sorry.
-/
import Derived.Test.Qxb6617818aChecked
import GoSem.Claim
import GoSem.ClaimJoined
import GoSem.ClaimMapViews
import Derived.JoinedTies
import Derived.KernelRfl
namespace Go.Proofs.Qxb6617818a
/- THE CELL 'sum', in the pinned program and in every row, IS THE sha256 OF THE DUMP (.gsa) THAT Qxb6617818aProg.lean LOADS. Nothing in Lean hashes anything: it is a label: what it is worth is what the hold of that sum in a sandbox is worth. -/
noncomputable def Try.pinned : Pinned := { name := "qxb6617818a", sum := "d45ef9983c7782613cde4294809e268e6e1bb16ee431e618897392d390133a51", checked := Try.checked }
namespace Rows
def none {H : Type} : Left H := { results := [], args := [] }

/-- 'zzlaws_internal_kv_b1.FnMatchesIsTheGlobLanguage': WHATEVER THE INPUT: true; the input reads as it did. -/
def fnMatchesIsTheGlobLanguageSpec : ChangeSpec := { name := "fnMatchesIsTheGlobLanguage", fn := fun _ => fun
  | [d1, d2] => { results := [.lit (.bool true)], args := [d1, d2] }
  | _ => none }
def fnMatchesIsTheGlobLanguageRow : OpenClaim := { program := "qxb6617818a", sum := "d45ef9983c7782613cde4294809e268e6e1bb16ee431e618897392d390133a51", func := "example.com/keelstone/keelstone/zzlaws_internal_kv_b1.FnMatchesIsTheGlobLanguage", spec := "fnMatchesIsTheGlobLanguage", apart := false }
def FnMatchesIsTheGlobLanguageSaid : Prop := fnMatchesIsTheGlobLanguageRow.holds Try.pinned (OpenSpec.ofChange fnMatchesIsTheGlobLanguageSpec)

/-- ITS FALSE NEIGHBOUR: 'it returns false'. Refute it at one input. -/
def fnMatchesIsTheGlobLanguageWrong : ChangeSpec := { name := "fnMatchesIsTheGlobLanguage", fn := fun _ => fun
  | [d1, d2] => { results := [.lit (.bool false)], args := [d1, d2] }
  | _ => none }
def FnMatchesIsTheGlobLanguageWrongFalsely : Prop := fnMatchesIsTheGlobLanguageRow.holds Try.pinned (OpenSpec.ofChange fnMatchesIsTheGlobLanguageWrong)

/-- 'zzlaws_internal_kv_b1.FnMatchesEscapedTextLiterally': WHATEVER THE INPUT: true; the input reads as it did. -/
def fnMatchesEscapedTextLiterallySpec : ChangeSpec := { name := "fnMatchesEscapedTextLiterally", fn := fun _ => fun
  | [d1, d2] => { results := [.lit (.bool true)], args := [d1, d2] }
  | _ => none }
def fnMatchesEscapedTextLiterallyRow : OpenClaim := { program := "qxb6617818a", sum := "d45ef9983c7782613cde4294809e268e6e1bb16ee431e618897392d390133a51", func := "example.com/keelstone/keelstone/zzlaws_internal_kv_b1.FnMatchesEscapedTextLiterally", spec := "fnMatchesEscapedTextLiterally", apart := false }
def FnMatchesEscapedTextLiterallySaid : Prop := fnMatchesEscapedTextLiterallyRow.holds Try.pinned (OpenSpec.ofChange fnMatchesEscapedTextLiterallySpec)

/-- ITS FALSE NEIGHBOUR: 'it returns false'. Refute it at one input. -/
def fnMatchesEscapedTextLiterallyWrong : ChangeSpec := { name := "fnMatchesEscapedTextLiterally", fn := fun _ => fun
  | [d1, d2] => { results := [.lit (.bool false)], args := [d1, d2] }
  | _ => none }
def FnMatchesEscapedTextLiterallyWrongFalsely : Prop := fnMatchesEscapedTextLiterallyRow.holds Try.pinned (OpenSpec.ofChange fnMatchesEscapedTextLiterallyWrong)

/-- 'zzlaws_internal_kv_b1.FnMatchClassCaretNegates': WHATEVER THE INPUT: true; the input reads as it did. -/
def fnMatchClassCaretNegatesSpec : ChangeSpec := { name := "fnMatchClassCaretNegates", fn := fun _ => fun
  | [d1, d2] => { results := [.lit (.bool true)], args := [d1, d2] }
  | _ => none }
def fnMatchClassCaretNegatesRow : OpenClaim := { program := "qxb6617818a", sum := "d45ef9983c7782613cde4294809e268e6e1bb16ee431e618897392d390133a51", func := "example.com/keelstone/keelstone/zzlaws_internal_kv_b1.FnMatchClassCaretNegates", spec := "fnMatchClassCaretNegates", apart := false }
def FnMatchClassCaretNegatesSaid : Prop := fnMatchClassCaretNegatesRow.holds Try.pinned (OpenSpec.ofChange fnMatchClassCaretNegatesSpec)

/-- ITS FALSE NEIGHBOUR: 'it returns false'. Refute it at one input. -/
def fnMatchClassCaretNegatesWrong : ChangeSpec := { name := "fnMatchClassCaretNegates", fn := fun _ => fun
  | [d1, d2] => { results := [.lit (.bool false)], args := [d1, d2] }
  | _ => none }
def FnMatchClassCaretNegatesWrongFalsely : Prop := fnMatchClassCaretNegatesRow.holds Try.pinned (OpenSpec.ofChange fnMatchClassCaretNegatesWrong)

/-- 'zzlaws_internal_kv_b1.FnPrefixRangeHoldsExactlyThePrefixedNames': WHATEVER THE INPUT: true; the input reads as it did. -/
def fnPrefixRangeHoldsExactlyThePrefixedNamesSpec : ChangeSpec := { name := "fnPrefixRangeHoldsExactlyThePrefixedNames", fn := fun _ => fun
  | [d1, d2] => { results := [.lit (.bool true)], args := [d1, d2] }
  | _ => none }
def fnPrefixRangeHoldsExactlyThePrefixedNamesRow : OpenClaim := { program := "qxb6617818a", sum := "d45ef9983c7782613cde4294809e268e6e1bb16ee431e618897392d390133a51", func := "example.com/keelstone/keelstone/zzlaws_internal_kv_b1.FnPrefixRangeHoldsExactlyThePrefixedNames", spec := "fnPrefixRangeHoldsExactlyThePrefixedNames", apart := false }
def FnPrefixRangeHoldsExactlyThePrefixedNamesSaid : Prop := fnPrefixRangeHoldsExactlyThePrefixedNamesRow.holds Try.pinned (OpenSpec.ofChange fnPrefixRangeHoldsExactlyThePrefixedNamesSpec)

/-- ITS FALSE NEIGHBOUR: 'it returns false'. Refute it at one input. -/
def fnPrefixRangeHoldsExactlyThePrefixedNamesWrong : ChangeSpec := { name := "fnPrefixRangeHoldsExactlyThePrefixedNames", fn := fun _ => fun
  | [d1, d2] => { results := [.lit (.bool false)], args := [d1, d2] }
  | _ => none }
def FnPrefixRangeHoldsExactlyThePrefixedNamesWrongFalsely : Prop := fnPrefixRangeHoldsExactlyThePrefixedNamesRow.holds Try.pinned (OpenSpec.ofChange fnPrefixRangeHoldsExactlyThePrefixedNamesWrong)

/-- 'zzlaws_internal_kv_b1.FnPrefixRangesNestOrPartition': WHATEVER THE INPUT: true; the input reads as it did. -/
def fnPrefixRangesNestOrPartitionSpec : ChangeSpec := { name := "fnPrefixRangesNestOrPartition", fn := fun _ => fun
  | [d1, d2] => { results := [.lit (.bool true)], args := [d1, d2] }
  | _ => none }
def fnPrefixRangesNestOrPartitionRow : OpenClaim := { program := "qxb6617818a", sum := "d45ef9983c7782613cde4294809e268e6e1bb16ee431e618897392d390133a51", func := "example.com/keelstone/keelstone/zzlaws_internal_kv_b1.FnPrefixRangesNestOrPartition", spec := "fnPrefixRangesNestOrPartition", apart := false }
def FnPrefixRangesNestOrPartitionSaid : Prop := fnPrefixRangesNestOrPartitionRow.holds Try.pinned (OpenSpec.ofChange fnPrefixRangesNestOrPartitionSpec)

/-- ITS FALSE NEIGHBOUR: 'it returns false'. Refute it at one input. -/
def fnPrefixRangesNestOrPartitionWrong : ChangeSpec := { name := "fnPrefixRangesNestOrPartition", fn := fun _ => fun
  | [d1, d2] => { results := [.lit (.bool false)], args := [d1, d2] }
  | _ => none }
def FnPrefixRangesNestOrPartitionWrongFalsely : Prop := fnPrefixRangesNestOrPartitionRow.holds Try.pinned (OpenSpec.ofChange fnPrefixRangesNestOrPartitionWrong)

end Rows
end Go.Proofs.Qxb6617818a

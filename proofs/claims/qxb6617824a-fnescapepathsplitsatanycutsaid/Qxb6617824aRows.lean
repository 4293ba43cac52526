/-
  No cell of these rows narrows 'for every input' (looked for: loops, veiled, ifaces, maps, wideKeys, modest, calm, conditions, laid).
  DERIVED. THE GIVEN ROWS OF THIS SEAT. 2 by the template 'for every input the law returns true; each argument reads behind the call as it read before'; 0 by the template 'total and deterministic' (their statements: Qxb6617824aTotals.lean).
  GIVEN WITH THE SEED: the statements are not yours to turn. If you find one false, say at which input.
  Laid BY PROGRAM, IN A SANDBOX (cutbox-rows.mjs): the forced cells as the released guide's own fill.sh prints them over the translation 8d185ae4a18973eb… (all of the seat's roots in one cut). By AI agents, Wed Nov 11 2026. No macro, syntax, notation, axiom, sorry.
-/
import Derived.Test.Qxb6617824aChecked
import GoSem.Claim
import GoSem.ClaimJoined
import GoSem.ClaimMapViews
import Derived.JoinedTies
import Derived.KernelRfl
namespace Go.Proofs.Qxb6617824a
/- THE CELL 'sum', in the pinned program and in every row, IS THE sha256 OF THE DUMP (.gsa) THAT Qxb6617824aProg.lean LOADS. Nothing in Lean hashes anything: it is a label: what it is worth is what the hold of that sum in a sandbox is worth. -/
noncomputable def Try.pinned : Pinned := { name := "qxb6617824a", sum := "8d185ae4a18973eb0b04caf003723166cd71e59578661634380fa8f888dc02a9", checked := Try.checked }
namespace Rows
def none {H : Type} : Left H := { results := [], args := [] }

/-- 'zzlaws_internal_sigv4_b1.FnEscapePathIsTheCanonicalEscape': WHATEVER THE INPUT: true; the input reads as it did. -/
def fnEscapePathIsTheCanonicalEscapeSpec : ChangeSpec := { name := "fnEscapePathIsTheCanonicalEscape", fn := fun _ => fun
  | [d] => { results := [.lit (.bool true)], args := [d] }
  | _ => none }
def fnEscapePathIsTheCanonicalEscapeRow : OpenClaim := { program := "qxb6617824a", sum := "8d185ae4a18973eb0b04caf003723166cd71e59578661634380fa8f888dc02a9", func := "example.com/tokenwright/tokenwright/zzlaws_internal_sigv4_b1.FnEscapePathIsTheCanonicalEscape", spec := "fnEscapePathIsTheCanonicalEscape", inPlace := ["internal/abi.NoEscape"], apart := false }
def FnEscapePathIsTheCanonicalEscapeSaid : Prop := fnEscapePathIsTheCanonicalEscapeRow.holds Try.pinned (OpenSpec.ofChange fnEscapePathIsTheCanonicalEscapeSpec)

/-- ITS FALSE NEIGHBOUR: 'it returns false'. Refute it at one input. -/
def fnEscapePathIsTheCanonicalEscapeWrong : ChangeSpec := { name := "fnEscapePathIsTheCanonicalEscape", fn := fun _ => fun
  | [d] => { results := [.lit (.bool false)], args := [d] }
  | _ => none }
def FnEscapePathIsTheCanonicalEscapeWrongFalsely : Prop := fnEscapePathIsTheCanonicalEscapeRow.holds Try.pinned (OpenSpec.ofChange fnEscapePathIsTheCanonicalEscapeWrong)

/-- 'zzlaws_internal_sigv4_b1.FnEscapePathSplitsAtAnyCut': WHATEVER THE INPUT: true; the input reads as it did. -/
def fnEscapePathSplitsAtAnyCutSpec : ChangeSpec := { name := "fnEscapePathSplitsAtAnyCut", fn := fun _ => fun
  | [d1, d2] => { results := [.lit (.bool true)], args := [d1, d2] }
  | _ => none }
def fnEscapePathSplitsAtAnyCutRow : OpenClaim := { program := "qxb6617824a", sum := "8d185ae4a18973eb0b04caf003723166cd71e59578661634380fa8f888dc02a9", func := "example.com/tokenwright/tokenwright/zzlaws_internal_sigv4_b1.FnEscapePathSplitsAtAnyCut", spec := "fnEscapePathSplitsAtAnyCut", inPlace := ["internal/abi.NoEscape"], apart := false }
def FnEscapePathSplitsAtAnyCutSaid : Prop := fnEscapePathSplitsAtAnyCutRow.holds Try.pinned (OpenSpec.ofChange fnEscapePathSplitsAtAnyCutSpec)

/-- ITS FALSE NEIGHBOUR: 'it returns false'. Refute it at one input. -/
def fnEscapePathSplitsAtAnyCutWrong : ChangeSpec := { name := "fnEscapePathSplitsAtAnyCut", fn := fun _ => fun
  | [d1, d2] => { results := [.lit (.bool false)], args := [d1, d2] }
  | _ => none }
def FnEscapePathSplitsAtAnyCutWrongFalsely : Prop := fnEscapePathSplitsAtAnyCutRow.holds Try.pinned (OpenSpec.ofChange fnEscapePathSplitsAtAnyCutWrong)

end Rows
end Go.Proofs.Qxb6617824a

/-
  No cell of these rows narrows 'for every input' (looked for: loops, veiled, ifaces, maps, wideKeys, modest, calm, conditions, laid).
  DERIVED. THE GIVEN ROWS OF THIS SEAT. 2 by the template 'for every input the law returns true; each argument reads behind the call as it read before'; 0 by the template 'total and deterministic' (their statements: Qxb6618693aTotals.lean).
  GIVEN WITH THE SEED: the statements are not yours to turn. If you find one false, say at which input.
  Laid BY PROGRAM, IN A SANDBOX (cutbox-rows.mjs): the forced cells as the released guide's own fill.sh prints them over the translation ad3886255988fbc1… (all of the seat's roots in one cut). By AI agents, Wed Nov 11 2026. No macro, syntax, notation, axiom, sorry.
-/
import Derived.Test.Qxb6618693aChecked
import GoSem.Claim
import GoSem.ClaimJoined
import GoSem.ClaimMapViews
import Derived.JoinedTies
import Derived.KernelRfl
namespace Go.Proofs.Qxb6618693a
/- THE CELL 'sum', in the pinned program and in every row, IS THE sha256 OF THE DUMP (.gsa) THAT Qxb6618693aProg.lean LOADS. Nothing in Lean hashes anything: it is a label: what it is worth is what the hold of that sum in a sandbox is worth. -/
noncomputable def Try.pinned : Pinned := { name := "qxb6618693a", sum := "ad3886255988fbc198f625d491cb1021284dabb8b173f2dec45cab95b0119dc7", checked := Try.checked }
namespace Rows
def none {H : Type} : Left H := { results := [], args := [] }

/-- 'zzlaws_internal_fund_b1.FnTakesBalanceJoinedSelectors': WHATEVER THE INPUT: true; the input reads as it did. -/
def fnTakesBalanceJoinedSelectorsSpec : ChangeSpec := { name := "fnTakesBalanceJoinedSelectors", fn := fun _ => fun
  | [d1, d2, d3, d4, d5, d6, d7] => { results := [.lit (.bool true)], args := [d1, d2, d3, d4, d5, d6, d7] }
  | _ => none }
def fnTakesBalanceJoinedSelectorsRow : OpenClaim := { program := "qxb6618693a", sum := "ad3886255988fbc198f625d491cb1021284dabb8b173f2dec45cab95b0119dc7", func := "example.com/tuoguan/tuoguan/zzlaws_internal_fund_b1.FnTakesBalanceJoinedSelectors", spec := "fnTakesBalanceJoinedSelectors", unfollowed := true, recurses := true, apart := false }
def FnTakesBalanceJoinedSelectorsSaid : Prop := fnTakesBalanceJoinedSelectorsRow.holds Try.pinned (OpenSpec.ofChange fnTakesBalanceJoinedSelectorsSpec)

/-- ITS FALSE NEIGHBOUR: 'it returns false'. Refute it at one input. -/
def fnTakesBalanceJoinedSelectorsWrong : ChangeSpec := { name := "fnTakesBalanceJoinedSelectors", fn := fun _ => fun
  | [d1, d2, d3, d4, d5, d6, d7] => { results := [.lit (.bool false)], args := [d1, d2, d3, d4, d5, d6, d7] }
  | _ => none }
def FnTakesBalanceJoinedSelectorsWrongFalsely : Prop := fnTakesBalanceJoinedSelectorsRow.holds Try.pinned (OpenSpec.ofChange fnTakesBalanceJoinedSelectorsWrong)

/-- 'zzlaws_internal_fund_b1.FnTakesBalanceTotalAssetsIsAssetSide': WHATEVER THE INPUT: true; the input reads as it did. -/
def fnTakesBalanceTotalAssetsIsAssetSideSpec : ChangeSpec := { name := "fnTakesBalanceTotalAssetsIsAssetSide", fn := fun _ => fun
  | [d1, d2, d3, d4, d5, d6] => { results := [.lit (.bool true)], args := [d1, d2, d3, d4, d5, d6] }
  | _ => none }
def fnTakesBalanceTotalAssetsIsAssetSideRow : OpenClaim := { program := "qxb6618693a", sum := "ad3886255988fbc198f625d491cb1021284dabb8b173f2dec45cab95b0119dc7", func := "example.com/tuoguan/tuoguan/zzlaws_internal_fund_b1.FnTakesBalanceTotalAssetsIsAssetSide", spec := "fnTakesBalanceTotalAssetsIsAssetSide", unfollowed := true, recurses := true, apart := false }
def FnTakesBalanceTotalAssetsIsAssetSideSaid : Prop := fnTakesBalanceTotalAssetsIsAssetSideRow.holds Try.pinned (OpenSpec.ofChange fnTakesBalanceTotalAssetsIsAssetSideSpec)

/-- ITS FALSE NEIGHBOUR: 'it returns false'. Refute it at one input. -/
def fnTakesBalanceTotalAssetsIsAssetSideWrong : ChangeSpec := { name := "fnTakesBalanceTotalAssetsIsAssetSide", fn := fun _ => fun
  | [d1, d2, d3, d4, d5, d6] => { results := [.lit (.bool false)], args := [d1, d2, d3, d4, d5, d6] }
  | _ => none }
def FnTakesBalanceTotalAssetsIsAssetSideWrongFalsely : Prop := fnTakesBalanceTotalAssetsIsAssetSideRow.holds Try.pinned (OpenSpec.ofChange fnTakesBalanceTotalAssetsIsAssetSideWrong)

end Rows
end Go.Proofs.Qxb6618693a

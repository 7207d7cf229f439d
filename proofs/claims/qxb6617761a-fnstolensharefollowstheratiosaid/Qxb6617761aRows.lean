/-
  No cell of these rows narrows 'for every input' (looked for: loops, veiled, ifaces, maps, wideKeys, modest, calm, conditions, laid).
  DERIVED. THE GIVEN ROWS OF THIS SEAT. 1 by the template 'for every input the law returns true; each argument reads behind the call as it read before'; 0 by the template 'total and deterministic' (their statements: Qxb6617761aTotals.lean).
  GIVEN WITH THE SEED: the statements are not yours to turn. If you find one false, say at which input.
  Laid BY PROGRAM, IN A SANDBOX (cutbox-rows.mjs): the forced cells as the released guide's own fill.sh prints them over the translation f739b0f0e71a7db7… (all of the seat's roots in one cut). By AI agents, Wed Nov 11 2026. No macro, syntax, notation, axiom, sorry.
-/
import Derived.Test.Qxb6617761aChecked
import GoSem.Claim
import GoSem.ClaimJoined
import GoSem.ClaimMapViews
import Derived.JoinedTies
import Derived.KernelRfl
namespace Go.Proofs.Qxb6617761a
/- THE CELL 'sum', in the pinned program and in every row, IS THE sha256 OF THE DUMP (.gsa) THAT Qxb6617761aProg.lean LOADS. Nothing in Lean hashes anything: it is a label: what it is worth is what the hold of that sum in a sandbox is worth. -/
noncomputable def Try.pinned : Pinned := { name := "qxb6617761a", sum := "f739b0f0e71a7db7a6e81ba32332f76db4b8d3856c2378ea237610f5fb66dbc3", checked := Try.checked }
namespace Rows
def none {H : Type} : Left H := { results := [], args := [] }

/-- 'zzlaws_cpuusage_b1.FnStolenShareFollowsTheRatio': WHATEVER THE INPUT: true; the input reads as it did. -/
def fnStolenShareFollowsTheRatioSpec : ChangeSpec := { name := "fnStolenShareFollowsTheRatio", fn := fun _ => fun
  | [d1, d2, d3, d4, d5, d6, d7, d8, d9, d10, d11, d12] => { results := [.lit (.bool true)], args := [d1, d2, d3, d4, d5, d6, d7, d8, d9, d10, d11, d12] }
  | _ => none }
def fnStolenShareFollowsTheRatioRow : OpenClaim := { program := "qxb6617761a", sum := "f739b0f0e71a7db7a6e81ba32332f76db4b8d3856c2378ea237610f5fb66dbc3", func := "example.com/keelson/keelson/zzlaws_cpuusage_b1.FnStolenShareFollowsTheRatio", spec := "fnStolenShareFollowsTheRatio", apart := false }
def FnStolenShareFollowsTheRatioSaid : Prop := fnStolenShareFollowsTheRatioRow.holds Try.pinned (OpenSpec.ofChange fnStolenShareFollowsTheRatioSpec)

/-- ITS FALSE NEIGHBOUR: 'it returns false'. Refute it at one input. -/
def fnStolenShareFollowsTheRatioWrong : ChangeSpec := { name := "fnStolenShareFollowsTheRatio", fn := fun _ => fun
  | [d1, d2, d3, d4, d5, d6, d7, d8, d9, d10, d11, d12] => { results := [.lit (.bool false)], args := [d1, d2, d3, d4, d5, d6, d7, d8, d9, d10, d11, d12] }
  | _ => none }
def FnStolenShareFollowsTheRatioWrongFalsely : Prop := fnStolenShareFollowsTheRatioRow.holds Try.pinned (OpenSpec.ofChange fnStolenShareFollowsTheRatioWrong)

end Rows
end Go.Proofs.Qxb6617761a

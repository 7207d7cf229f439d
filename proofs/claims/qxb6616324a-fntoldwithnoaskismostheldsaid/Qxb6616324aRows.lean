/-
  No cell of these rows narrows 'for every input' (looked for: loops, veiled, ifaces, maps, wideKeys, modest, calm, conditions, laid).
  DERIVED. THE GIVEN ROWS OF THIS SEAT. 2 by the template 'for every input the law returns true; each argument reads behind the call as it read before'; 0 by the template 'total and deterministic' (their statements: Qxb6616324aTotals.lean).
  GIVEN WITH THE SEED: the statements are not yours to turn. If you find one false, say at which input.
  Laid BY PROGRAM, IN A SANDBOX (cutbox-rows.mjs): the forced cells as the released guide's own fill.sh prints them over the translation 52bfad76e5bc3bb0… (all of the seat's roots in one cut). By AI agents, Wed Nov 11 2026. No macro, syntax, notation, axiom, sorry.
-/
import Derived.Test.Qxb6616324aChecked
import GoSem.Claim
import GoSem.ClaimJoined
import GoSem.ClaimMapViews
import Derived.JoinedTies
import Derived.KernelRfl
namespace Go.Proofs.Qxb6616324a
/- THE CELL 'sum', in the pinned program and in every row, IS THE sha256 OF THE DUMP (.gsa) THAT Qxb6616324aProg.lean LOADS. Nothing in Lean hashes anything: it is a label: what it is worth is what the hold of that sum in a sandbox is worth. -/
noncomputable def Try.pinned : Pinned := { name := "qxb6616324a", sum := "52bfad76e5bc3bb06399a8c5e9c67321d998368b477a84e87c9ab6b3a7f499f4", checked := Try.checked }
namespace Rows
def none {H : Type} : Left H := { results := [], args := [] }

/-- 'zzlaws_internal_paxos_b1.FnToldWithNoAskIsMostHeld': WHATEVER THE INPUT: true; the input reads as it did. -/
def fnToldWithNoAskIsMostHeldSpec : ChangeSpec := { name := "fnToldWithNoAskIsMostHeld", fn := fun _ => fun
  | [d1, d2] => { results := [.lit (.bool true)], args := [d1, d2] }
  | _ => none }
def fnToldWithNoAskIsMostHeldRow : OpenClaim := { program := "qxb6616324a", sum := "52bfad76e5bc3bb06399a8c5e9c67321d998368b477a84e87c9ab6b3a7f499f4", func := "example.com/concordat/concordat/zzlaws_internal_paxos_b1.FnToldWithNoAskIsMostHeld", spec := "fnToldWithNoAskIsMostHeld", unfollowed := true, recurses := true, apart := false }
def FnToldWithNoAskIsMostHeldSaid : Prop := fnToldWithNoAskIsMostHeldRow.holds Try.pinned (OpenSpec.ofChange fnToldWithNoAskIsMostHeldSpec)

/-- ITS FALSE NEIGHBOUR: 'it returns false'. Refute it at one input. -/
def fnToldWithNoAskIsMostHeldWrong : ChangeSpec := { name := "fnToldWithNoAskIsMostHeld", fn := fun _ => fun
  | [d1, d2] => { results := [.lit (.bool false)], args := [d1, d2] }
  | _ => none }
def FnToldWithNoAskIsMostHeldWrongFalsely : Prop := fnToldWithNoAskIsMostHeldRow.holds Try.pinned (OpenSpec.ofChange fnToldWithNoAskIsMostHeldWrong)

/-- 'zzlaws_internal_paxos_b1.FnHandOverFromLeaderMakesItStalled': WHATEVER THE INPUT: true; the input reads as it did. -/
def fnHandOverFromLeaderMakesItStalledSpec : ChangeSpec := { name := "fnHandOverFromLeaderMakesItStalled", fn := fun _ => fun
  | [d1, d2, d3, d4, d5, d6, d7, d8] => { results := [.lit (.bool true)], args := [d1, d2, d3, d4, d5, d6, d7, d8] }
  | _ => none }
def fnHandOverFromLeaderMakesItStalledRow : OpenClaim := { program := "qxb6616324a", sum := "52bfad76e5bc3bb06399a8c5e9c67321d998368b477a84e87c9ab6b3a7f499f4", func := "example.com/concordat/concordat/zzlaws_internal_paxos_b1.FnHandOverFromLeaderMakesItStalled", spec := "fnHandOverFromLeaderMakesItStalled", apart := false }
def FnHandOverFromLeaderMakesItStalledSaid : Prop := fnHandOverFromLeaderMakesItStalledRow.holds Try.pinned (OpenSpec.ofChange fnHandOverFromLeaderMakesItStalledSpec)

/-- ITS FALSE NEIGHBOUR: 'it returns false'. Refute it at one input. -/
def fnHandOverFromLeaderMakesItStalledWrong : ChangeSpec := { name := "fnHandOverFromLeaderMakesItStalled", fn := fun _ => fun
  | [d1, d2, d3, d4, d5, d6, d7, d8] => { results := [.lit (.bool false)], args := [d1, d2, d3, d4, d5, d6, d7, d8] }
  | _ => none }
def FnHandOverFromLeaderMakesItStalledWrongFalsely : Prop := fnHandOverFromLeaderMakesItStalledRow.holds Try.pinned (OpenSpec.ofChange fnHandOverFromLeaderMakesItStalledWrong)

end Rows
end Go.Proofs.Qxb6616324a

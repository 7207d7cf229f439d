/-
  NARROWER THAN 'FOR EVERY INPUT', by the rows' own cells (each row's printed sentence says how): FnNameWidthSplitIsMax: loops.
  DERIVED. THE GIVEN ROWS OF THIS SEAT. 1 by the template 'for every input the law returns true; each argument reads behind the call as it read before'; 0 by the template 'total and deterministic' (their statements: Qxb6616355aTotals.lean).
  GIVEN WITH THE SEED: the statements are not yours to turn. If you find one false, say at which input.
  Laid BY PROGRAM, IN A SANDBOX (cutbox-rows.mjs): the forced cells as the released guide's own fill.sh prints them over the translation 8098522a5cfeb0a7… (all of the seat's roots in one cut). By AI agents, Wed Nov 11 2026. No macro, syntax, notation, axiom, sorry.
-/
import Derived.Test.Qxb6616355aChecked
import GoSem.Claim
import GoSem.ClaimJoined
import GoSem.ClaimMapViews
import Derived.JoinedTies
import Derived.KernelRfl
namespace Go.Proofs.Qxb6616355a
/- THE CELL 'sum', in the pinned program and in every row, IS THE sha256 OF THE DUMP (.gsa) THAT Qxb6616355aProg.lean LOADS. Nothing in Lean hashes anything: it is a label: what it is worth is what the hold of that sum in a sandbox is worth. -/
noncomputable def Try.pinned : Pinned := { name := "qxb6616355a", sum := "8098522a5cfeb0a727701d751bef078a0c19b8d6e19a29cdc5e7bee7585a5a47", checked := Try.checked }
namespace Rows
def none {H : Type} : Left H := { results := [], args := [] }

/-- 'zzlaws_root_b1.FnNameWidthSplitIsMax': WHATEVER THE INPUT: true; the input reads as it did. -/
def fnNameWidthSplitIsMaxSpec : ChangeSpec := { name := "fnNameWidthSplitIsMax", fn := fun _ => fun
  | [d1, d2] => { results := [.lit (.bool true)], args := [d1, d2] }
  | _ => none }
def fnNameWidthSplitIsMaxRow : OpenClaim := { program := "qxb6616355a", sum := "8098522a5cfeb0a727701d751bef078a0c19b8d6e19a29cdc5e7bee7585a5a47", func := "example.com/tamarack/tamarack/zzlaws_root_b1.FnNameWidthSplitIsMax", spec := "fnNameWidthSplitIsMax", recurses := true, loops := true, plainKeys := false, apart := false }
def FnNameWidthSplitIsMaxSaid : Prop := fnNameWidthSplitIsMaxRow.holds Try.pinned (OpenSpec.ofChange fnNameWidthSplitIsMaxSpec)

/-- ITS FALSE NEIGHBOUR: 'it returns false'. Refute it at one input. -/
def fnNameWidthSplitIsMaxWrong : ChangeSpec := { name := "fnNameWidthSplitIsMax", fn := fun _ => fun
  | [d1, d2] => { results := [.lit (.bool false)], args := [d1, d2] }
  | _ => none }
def FnNameWidthSplitIsMaxWrongFalsely : Prop := fnNameWidthSplitIsMaxRow.holds Try.pinned (OpenSpec.ofChange fnNameWidthSplitIsMaxWrong)

end Rows
end Go.Proofs.Qxb6616355a

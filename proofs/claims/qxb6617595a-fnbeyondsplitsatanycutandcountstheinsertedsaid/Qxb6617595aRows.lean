/-
  No cell of these rows narrows 'for every input' (looked for: loops, veiled, ifaces, maps, wideKeys, modest, calm, conditions, laid).
  DERIVED. THE GIVEN ROWS OF THIS SEAT. 1 by the template 'for every input the law returns true; each argument reads behind the call as it read before'; 0 by the template 'total and deterministic' (their statements: Qxb6617595aTotals.lean).
  GIVEN WITH THE SEED: the statements are not yours to turn. If you find one false, say at which input.
  Laid BY PROGRAM, IN A SANDBOX (cutbox-rows.mjs): the forced cells as the released guide's own fill.sh prints them over the translation f8bfc6524b9d8d2e… (all of the seat's roots in one cut). By AI agents, Wed Nov 11 2026. No macro, syntax, notation, axiom, sorry.
-/
import Derived.Test.Qxb6617595aChecked
import GoSem.Claim
import GoSem.ClaimJoined
import GoSem.ClaimMapViews
import Derived.JoinedTies
import Derived.KernelRfl
namespace Go.Proofs.Qxb6617595a
/- THE CELL 'sum', in the pinned program and in every row, IS THE sha256 OF THE DUMP (.gsa) THAT Qxb6617595aProg.lean LOADS. Nothing in Lean hashes anything: it is a label: what it is worth is what the hold of that sum in a sandbox is worth. -/
noncomputable def Try.pinned : Pinned := { name := "qxb6617595a", sum := "f8bfc6524b9d8d2e270052b323a5a7099a12ce5e933dd94b4253f46d98b211c0", checked := Try.checked }
namespace Rows
def none {H : Type} : Left H := { results := [], args := [] }

/-- 'zzlaws_internal_check_b1.FnBeyondSplitsAtAnyCutAndCountsTheInserted': WHATEVER THE INPUT: true; the input reads as it did. -/
def fnBeyondSplitsAtAnyCutAndCountsTheInsertedSpec : ChangeSpec := { name := "fnBeyondSplitsAtAnyCutAndCountsTheInserted", fn := fun _ => fun
  | [d1, d2, d3, d4, d5, d6] => { results := [.lit (.bool true)], args := [d1, d2, d3, d4, d5, d6] }
  | _ => none }
def fnBeyondSplitsAtAnyCutAndCountsTheInsertedRow : OpenClaim := { program := "qxb6617595a", sum := "f8bfc6524b9d8d2e270052b323a5a7099a12ce5e933dd94b4253f46d98b211c0", func := "example.com/lastcall/lastcall/zzlaws_internal_check_b1.FnBeyondSplitsAtAnyCutAndCountsTheInserted", spec := "fnBeyondSplitsAtAnyCutAndCountsTheInserted", apart := false }
def FnBeyondSplitsAtAnyCutAndCountsTheInsertedSaid : Prop := fnBeyondSplitsAtAnyCutAndCountsTheInsertedRow.holds Try.pinned (OpenSpec.ofChange fnBeyondSplitsAtAnyCutAndCountsTheInsertedSpec)

/-- ITS FALSE NEIGHBOUR: 'it returns false'. Refute it at one input. -/
def fnBeyondSplitsAtAnyCutAndCountsTheInsertedWrong : ChangeSpec := { name := "fnBeyondSplitsAtAnyCutAndCountsTheInserted", fn := fun _ => fun
  | [d1, d2, d3, d4, d5, d6] => { results := [.lit (.bool false)], args := [d1, d2, d3, d4, d5, d6] }
  | _ => none }
def FnBeyondSplitsAtAnyCutAndCountsTheInsertedWrongFalsely : Prop := fnBeyondSplitsAtAnyCutAndCountsTheInsertedRow.holds Try.pinned (OpenSpec.ofChange fnBeyondSplitsAtAnyCutAndCountsTheInsertedWrong)

end Rows
end Go.Proofs.Qxb6617595a

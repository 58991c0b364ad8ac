/-
  No cell of these rows narrows 'for every input' (looked for: loops, veiled, ifaces, maps, wideKeys, modest, calm, conditions, laid).
  DERIVED. THE GIVEN ROWS OF THIS SEAT. 3 by the template 'for every input the law returns true; each argument reads behind the call as it read before'; 0 by the template 'total and deterministic' (their statements: Qxb6616268aTotals.lean).
  GIVEN WITH THE SEED: the statements are not yours to turn. If you find one false, say at which input.
  Laid BY PROGRAM, IN A SANDBOX (cutbox-rows.mjs): the forced cells as the released guide's own fill.sh prints them over the translation 101a4fe3f15adcee… (all of the seat's roots in one cut). By AI agents, Wed Nov 11 2026. No macro, syntax, notation, axiom, sorry.
-/
import Derived.Test.Qxb6616268aChecked
import GoSem.Claim
import GoSem.ClaimJoined
import GoSem.ClaimMapViews
import Derived.JoinedTies
import Derived.KernelRfl
namespace Go.Proofs.Qxb6616268a
/- THE CELL 'sum', in the pinned program and in every row, IS THE sha256 OF THE DUMP (.gsa) THAT Qxb6616268aProg.lean LOADS. Nothing in Lean hashes anything: it is a label: what it is worth is what the hold of that sum in a sandbox is worth. -/
noncomputable def Try.pinned : Pinned := { name := "qxb6616268a", sum := "101a4fe3f15adceea5bde5cc93d4ab0e0e5f8e575ec25b6f27bb8d82408fca66", checked := Try.checked }
namespace Rows
def none {H : Type} : Left H := { results := [], args := [] }

/-- 'zzlaws_internal_migration_b1.FnConstraintsOfSplitsAtAnyCut': WHATEVER THE INPUT: true; the input reads as it did. -/
def fnConstraintsOfSplitsAtAnyCutSpec : ChangeSpec := { name := "fnConstraintsOfSplitsAtAnyCut", fn := fun _ => fun
  | [d1, d2, d3] => { results := [.lit (.bool true)], args := [d1, d2, d3] }
  | _ => none }
def fnConstraintsOfSplitsAtAnyCutRow : OpenClaim := { program := "qxb6616268a", sum := "101a4fe3f15adceea5bde5cc93d4ab0e0e5f8e575ec25b6f27bb8d82408fca66", func := "example.com/shattuck/shattuck/zzlaws_internal_migration_b1.FnConstraintsOfSplitsAtAnyCut", spec := "fnConstraintsOfSplitsAtAnyCut", apart := false }
def FnConstraintsOfSplitsAtAnyCutSaid : Prop := fnConstraintsOfSplitsAtAnyCutRow.holds Try.pinned (OpenSpec.ofChange fnConstraintsOfSplitsAtAnyCutSpec)

/-- ITS FALSE NEIGHBOUR: 'it returns false'. Refute it at one input. -/
def fnConstraintsOfSplitsAtAnyCutWrong : ChangeSpec := { name := "fnConstraintsOfSplitsAtAnyCut", fn := fun _ => fun
  | [d1, d2, d3] => { results := [.lit (.bool false)], args := [d1, d2, d3] }
  | _ => none }
def FnConstraintsOfSplitsAtAnyCutWrongFalsely : Prop := fnConstraintsOfSplitsAtAnyCutRow.holds Try.pinned (OpenSpec.ofChange fnConstraintsOfSplitsAtAnyCutWrong)

/-- 'zzlaws_internal_migration_b1.FnAsideColumnGrowsByItsTail': WHATEVER THE INPUT: true; the input reads as it did. -/
def fnAsideColumnGrowsByItsTailSpec : ChangeSpec := { name := "fnAsideColumnGrowsByItsTail", fn := fun _ => fun
  | [d1, d2] => { results := [.lit (.bool true)], args := [d1, d2] }
  | _ => none }
def fnAsideColumnGrowsByItsTailRow : OpenClaim := { program := "qxb6616268a", sum := "101a4fe3f15adceea5bde5cc93d4ab0e0e5f8e575ec25b6f27bb8d82408fca66", func := "example.com/shattuck/shattuck/zzlaws_internal_migration_b1.FnAsideColumnGrowsByItsTail", spec := "fnAsideColumnGrowsByItsTail", inPlace := ["internal/abi.NoEscape", "internal/bytealg.MakeNoZero"], unfollowed := true, recurses := true, apart := false }
def FnAsideColumnGrowsByItsTailSaid : Prop := fnAsideColumnGrowsByItsTailRow.holds Try.pinned (OpenSpec.ofChange fnAsideColumnGrowsByItsTailSpec)

/-- ITS FALSE NEIGHBOUR: 'it returns false'. Refute it at one input. -/
def fnAsideColumnGrowsByItsTailWrong : ChangeSpec := { name := "fnAsideColumnGrowsByItsTail", fn := fun _ => fun
  | [d1, d2] => { results := [.lit (.bool false)], args := [d1, d2] }
  | _ => none }
def FnAsideColumnGrowsByItsTailWrongFalsely : Prop := fnAsideColumnGrowsByItsTailRow.holds Try.pinned (OpenSpec.ofChange fnAsideColumnGrowsByItsTailWrong)

/-- 'zzlaws_internal_migration_b1.FnAsideColumnNeverMeetsNewColumn': WHATEVER THE INPUT: true; the input reads as it did. -/
def fnAsideColumnNeverMeetsNewColumnSpec : ChangeSpec := { name := "fnAsideColumnNeverMeetsNewColumn", fn := fun _ => fun
  | [d1, d2] => { results := [.lit (.bool true)], args := [d1, d2] }
  | _ => none }
def fnAsideColumnNeverMeetsNewColumnRow : OpenClaim := { program := "qxb6616268a", sum := "101a4fe3f15adceea5bde5cc93d4ab0e0e5f8e575ec25b6f27bb8d82408fca66", func := "example.com/shattuck/shattuck/zzlaws_internal_migration_b1.FnAsideColumnNeverMeetsNewColumn", spec := "fnAsideColumnNeverMeetsNewColumn", inPlace := ["internal/abi.NoEscape", "internal/bytealg.MakeNoZero"], unfollowed := true, recurses := true, apart := false }
def FnAsideColumnNeverMeetsNewColumnSaid : Prop := fnAsideColumnNeverMeetsNewColumnRow.holds Try.pinned (OpenSpec.ofChange fnAsideColumnNeverMeetsNewColumnSpec)

/-- ITS FALSE NEIGHBOUR: 'it returns false'. Refute it at one input. -/
def fnAsideColumnNeverMeetsNewColumnWrong : ChangeSpec := { name := "fnAsideColumnNeverMeetsNewColumn", fn := fun _ => fun
  | [d1, d2] => { results := [.lit (.bool false)], args := [d1, d2] }
  | _ => none }
def FnAsideColumnNeverMeetsNewColumnWrongFalsely : Prop := fnAsideColumnNeverMeetsNewColumnRow.holds Try.pinned (OpenSpec.ofChange fnAsideColumnNeverMeetsNewColumnWrong)

end Rows
end Go.Proofs.Qxb6616268a

/-
  No cell of these rows narrows 'for every input' (looked for: loops, veiled, ifaces, maps, wideKeys, modest, calm, conditions, laid).
  DERIVED. THE GIVEN ROWS OF THIS SEAT. 2 by the template 'for every input the law returns true; each argument reads behind the call as it read before'; 0 by the template 'total and deterministic' (their statements: Qxb6616253aTotals.lean).
  GIVEN WITH THE SEED: the statements are not yours to turn. If you find one false, say at which input.
  Laid BY PROGRAM, IN A SANDBOX (cutbox-rows.mjs): the forced cells as the released guide's own fill.sh prints them over the translation 11c865fe057890a2… (all of the seat's roots in one cut). By AI agents, Wed Nov 11 2026. No macro, syntax, notation, axiom, sorry.
-/
import Derived.Test.Qxb6616253aChecked
import GoSem.Claim
import GoSem.ClaimJoined
import GoSem.ClaimMapViews
import Derived.JoinedTies
import Derived.KernelRfl
namespace Go.Proofs.Qxb6616253a
/- THE CELL 'sum', in the pinned program and in every row, IS THE sha256 OF THE DUMP (.gsa) THAT Qxb6616253aProg.lean LOADS. Nothing in Lean hashes anything: it is a label: what it is worth is what the hold of that sum in a sandbox is worth. -/
noncomputable def Try.pinned : Pinned := { name := "qxb6616253a", sum := "11c865fe057890a2a4100f970b89ed4017f010045cd434a0764fb57133ea7810", checked := Try.checked }
namespace Rows
def none {H : Type} : Left H := { results := [], args := [] }

/-- 'zzlaws_pkg_schema_b1.FnStructMemberAgreesWithFields': WHATEVER THE INPUT: true; the input reads as it did. -/
def fnStructMemberAgreesWithFieldsSpec : ChangeSpec := { name := "fnStructMemberAgreesWithFields", fn := fun _ => fun
  | [d1, d2] => { results := [.lit (.bool true)], args := [d1, d2] }
  | _ => none }
def fnStructMemberAgreesWithFieldsRow : OpenClaim := { program := "qxb6616253a", sum := "11c865fe057890a2a4100f970b89ed4017f010045cd434a0764fb57133ea7810", func := "example.com/fieldkeeper/fieldkeeper/zzlaws_pkg_schema_b1.FnStructMemberAgreesWithFields", spec := "fnStructMemberAgreesWithFields", apart := false }
def FnStructMemberAgreesWithFieldsSaid : Prop := fnStructMemberAgreesWithFieldsRow.holds Try.pinned (OpenSpec.ofChange fnStructMemberAgreesWithFieldsSpec)

/-- ITS FALSE NEIGHBOUR: 'it returns false'. Refute it at one input. -/
def fnStructMemberAgreesWithFieldsWrong : ChangeSpec := { name := "fnStructMemberAgreesWithFields", fn := fun _ => fun
  | [d1, d2] => { results := [.lit (.bool false)], args := [d1, d2] }
  | _ => none }
def FnStructMemberAgreesWithFieldsWrongFalsely : Prop := fnStructMemberAgreesWithFieldsRow.holds Try.pinned (OpenSpec.ofChange fnStructMemberAgreesWithFieldsWrong)

/-- 'zzlaws_pkg_schema_b1.FnStructDefaultsFromFields': WHATEVER THE INPUT: true; the input reads as it did. -/
def fnStructDefaultsFromFieldsSpec : ChangeSpec := { name := "fnStructDefaultsFromFields", fn := fun _ => fun
  | [d1, d2] => { results := [.lit (.bool true)], args := [d1, d2] }
  | _ => none }
def fnStructDefaultsFromFieldsRow : OpenClaim := { program := "qxb6616253a", sum := "11c865fe057890a2a4100f970b89ed4017f010045cd434a0764fb57133ea7810", func := "example.com/fieldkeeper/fieldkeeper/zzlaws_pkg_schema_b1.FnStructDefaultsFromFields", spec := "fnStructDefaultsFromFields", apart := false }
def FnStructDefaultsFromFieldsSaid : Prop := fnStructDefaultsFromFieldsRow.holds Try.pinned (OpenSpec.ofChange fnStructDefaultsFromFieldsSpec)

/-- ITS FALSE NEIGHBOUR: 'it returns false'. Refute it at one input. -/
def fnStructDefaultsFromFieldsWrong : ChangeSpec := { name := "fnStructDefaultsFromFields", fn := fun _ => fun
  | [d1, d2] => { results := [.lit (.bool false)], args := [d1, d2] }
  | _ => none }
def FnStructDefaultsFromFieldsWrongFalsely : Prop := fnStructDefaultsFromFieldsRow.holds Try.pinned (OpenSpec.ofChange fnStructDefaultsFromFieldsWrong)

end Rows
end Go.Proofs.Qxb6616253a

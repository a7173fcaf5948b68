/-
  No cell of these rows narrows 'for every input' (looked for: loops, veiled, ifaces, maps, wideKeys, modest, calm, conditions, laid).
  DERIVED. THE GIVEN ROWS OF THIS SEAT. 1 by the template 'for every input the law returns true; each argument reads behind the call as it read before'; 0 by the template 'total and deterministic' (their statements: Qxb6600654aTotals.lean).
  GIVEN WITH THE SEED: the statements are not yours to turn. If you find one false, say at which input.
  Laid BY PROGRAM, IN A SANDBOX (cutbox-rows.mjs): the forced cells as the released guide's own fill.sh prints them over the translation 3af63858a1cf1f72… (all of the seat's roots in one cut). By AI agents, Wed Nov 11 2026. No macro, syntax, notation, axiom, sorry.
-/
import Derived.Test.Qxb6600654aChecked
import GoSem.Claim
import GoSem.ClaimJoined
import GoSem.ClaimMapViews
import Derived.JoinedTies
import Derived.KernelRfl
namespace Go.Proofs.Qxb6600654a
/- THE CELL 'sum', in the pinned program and in every row, IS THE sha256 OF THE DUMP (.gsa) THAT Qxb6600654aProg.lean LOADS. Nothing in Lean hashes anything: it is a label: what it is worth is what the hold of that sum in a sandbox is worth. -/
noncomputable def Try.pinned : Pinned := { name := "qxb6600654a", sum := "3af63858a1cf1f72c5820752c181c507f96fbad31ad3fdb3f7364a9114fba553", checked := Try.checked }
namespace Rows
def none {H : Type} : Left H := { results := [], args := [] }

/-- 'zzlaws_internal_process_b1.FnTypeDescribeNamesTheFourTypesApart': WHATEVER THE INPUT: true; the input reads as it did. -/
def fnTypeDescribeNamesTheFourTypesApartSpec : ChangeSpec := { name := "fnTypeDescribeNamesTheFourTypesApart", fn := fun _ => fun
  | [d] => { results := [.lit (.bool true)], args := [d] }
  | _ => none }
def fnTypeDescribeNamesTheFourTypesApartRow : OpenClaim := { program := "qxb6600654a", sum := "3af63858a1cf1f72c5820752c181c507f96fbad31ad3fdb3f7364a9114fba553", func := "example.com/durance/durance/zzlaws_internal_process_b1.FnTypeDescribeNamesTheFourTypesApart", spec := "fnTypeDescribeNamesTheFourTypesApart", apart := false }
def FnTypeDescribeNamesTheFourTypesApartSaid : Prop := fnTypeDescribeNamesTheFourTypesApartRow.holds Try.pinned (OpenSpec.ofChange fnTypeDescribeNamesTheFourTypesApartSpec)

/-- ITS FALSE NEIGHBOUR: 'it returns false'. Refute it at one input. -/
def fnTypeDescribeNamesTheFourTypesApartWrong : ChangeSpec := { name := "fnTypeDescribeNamesTheFourTypesApart", fn := fun _ => fun
  | [d] => { results := [.lit (.bool false)], args := [d] }
  | _ => none }
def FnTypeDescribeNamesTheFourTypesApartWrongFalsely : Prop := fnTypeDescribeNamesTheFourTypesApartRow.holds Try.pinned (OpenSpec.ofChange fnTypeDescribeNamesTheFourTypesApartWrong)

end Rows
end Go.Proofs.Qxb6600654a

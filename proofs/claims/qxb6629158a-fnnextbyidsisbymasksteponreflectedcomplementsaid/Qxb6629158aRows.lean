/-
  No cell of these rows narrows 'for every input' (looked for: loops, veiled, ifaces, maps, wideKeys, modest, calm, conditions, laid).
  DERIVED. THE GIVEN ROWS OF THIS SEAT. 2 by the template 'for every input the law returns true; each argument reads behind the call as it read before'; 0 by the template 'total and deterministic' (their statements: Qxb6629158aTotals.lean).
  GIVEN WITH THE SEED: the statements are not yours to turn. If you find one false, say at which input.
  Laid BY PROGRAM, IN A SANDBOX (cutbox-rows.mjs): the forced cells as the released guide's own fill.sh prints them over the translation ab5ba6624594d236… (all of the seat's roots in one cut). By AI agents, Wed Nov 11 2026. No macro, syntax, notation, axiom, sorry.
-/
import Derived.Test.Qxb6629158aChecked
import GoSem.Claim
import GoSem.ClaimJoined
import GoSem.ClaimMapViews
import Derived.JoinedTies
import Derived.KernelRfl
namespace Go.Proofs.Qxb6629158a
/- THE CELL 'sum', in the pinned program and in every row, IS THE sha256 OF THE DUMP (.gsa) THAT Qxb6629158aProg.lean LOADS. Nothing in Lean hashes anything: it is a label: what it is worth is what the hold of that sum in a sandbox is worth. -/
noncomputable def Try.pinned : Pinned := { name := "qxb6629158a", sum := "ab5ba6624594d236d196e57abd5598d7d03b1a46a5588f310be5509cda95ddfe", checked := Try.checked }
namespace Rows
def none {H : Type} : Left H := { results := [], args := [] }

/-- 'zzlaws_pkg_fit_b1.FnNextByMaskIsNextLargerMaskOfSameWidth': WHATEVER THE INPUT: true; the input reads as it did. -/
def fnNextByMaskIsNextLargerMaskOfSameWidthSpec : ChangeSpec := { name := "fnNextByMaskIsNextLargerMaskOfSameWidth", fn := fun _ => fun
  | [d1, d2] => { results := [.lit (.bool true)], args := [d1, d2] }
  | _ => none }
def fnNextByMaskIsNextLargerMaskOfSameWidthRow : OpenClaim := { program := "qxb6629158a", sum := "ab5ba6624594d236d196e57abd5598d7d03b1a46a5588f310be5509cda95ddfe", func := "example.com/zonewright/zonewright/zzlaws_pkg_fit_b1.FnNextByMaskIsNextLargerMaskOfSameWidth", spec := "fnNextByMaskIsNextLargerMaskOfSameWidth", apart := false }
def FnNextByMaskIsNextLargerMaskOfSameWidthSaid : Prop := fnNextByMaskIsNextLargerMaskOfSameWidthRow.holds Try.pinned (OpenSpec.ofChange fnNextByMaskIsNextLargerMaskOfSameWidthSpec)

/-- ITS FALSE NEIGHBOUR: 'it returns false'. Refute it at one input. -/
def fnNextByMaskIsNextLargerMaskOfSameWidthWrong : ChangeSpec := { name := "fnNextByMaskIsNextLargerMaskOfSameWidth", fn := fun _ => fun
  | [d1, d2] => { results := [.lit (.bool false)], args := [d1, d2] }
  | _ => none }
def FnNextByMaskIsNextLargerMaskOfSameWidthWrongFalsely : Prop := fnNextByMaskIsNextLargerMaskOfSameWidthRow.holds Try.pinned (OpenSpec.ofChange fnNextByMaskIsNextLargerMaskOfSameWidthWrong)

/-- 'zzlaws_pkg_fit_b1.FnNextByIDsIsByMaskStepOnReflectedComplement': WHATEVER THE INPUT: true; the input reads as it did. -/
def fnNextByIDsIsByMaskStepOnReflectedComplementSpec : ChangeSpec := { name := "fnNextByIDsIsByMaskStepOnReflectedComplement", fn := fun _ => fun
  | [d1, d2] => { results := [.lit (.bool true)], args := [d1, d2] }
  | _ => none }
def fnNextByIDsIsByMaskStepOnReflectedComplementRow : OpenClaim := { program := "qxb6629158a", sum := "ab5ba6624594d236d196e57abd5598d7d03b1a46a5588f310be5509cda95ddfe", func := "example.com/zonewright/zonewright/zzlaws_pkg_fit_b1.FnNextByIDsIsByMaskStepOnReflectedComplement", spec := "fnNextByIDsIsByMaskStepOnReflectedComplement", apart := false }
def FnNextByIDsIsByMaskStepOnReflectedComplementSaid : Prop := fnNextByIDsIsByMaskStepOnReflectedComplementRow.holds Try.pinned (OpenSpec.ofChange fnNextByIDsIsByMaskStepOnReflectedComplementSpec)

/-- ITS FALSE NEIGHBOUR: 'it returns false'. Refute it at one input. -/
def fnNextByIDsIsByMaskStepOnReflectedComplementWrong : ChangeSpec := { name := "fnNextByIDsIsByMaskStepOnReflectedComplement", fn := fun _ => fun
  | [d1, d2] => { results := [.lit (.bool false)], args := [d1, d2] }
  | _ => none }
def FnNextByIDsIsByMaskStepOnReflectedComplementWrongFalsely : Prop := fnNextByIDsIsByMaskStepOnReflectedComplementRow.holds Try.pinned (OpenSpec.ofChange fnNextByIDsIsByMaskStepOnReflectedComplementWrong)

end Rows
end Go.Proofs.Qxb6629158a

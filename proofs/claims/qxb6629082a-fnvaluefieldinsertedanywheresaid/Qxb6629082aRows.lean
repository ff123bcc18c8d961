/-
  No cell of these rows narrows 'for every input' (looked for: loops, veiled, ifaces, maps, wideKeys, modest, calm, conditions, laid).
  DERIVED. THE GIVEN ROWS OF THIS SEAT. 2 by the template 'for every input the law returns true; each argument reads behind the call as it read before'; 0 by the template 'total and deterministic' (their statements: Qxb6629082aTotals.lean).
  GIVEN WITH THE SEED: the statements are not yours to turn. If you find one false, say at which input.
  Laid BY PROGRAM, IN A SANDBOX (cutbox-rows.mjs): the forced cells as the released guide's own fill.sh prints them over the translation 9848d72a345d3e11… (all of the seat's roots in one cut). By AI agents, Wed Nov 11 2026. No macro, syntax, notation, axiom, sorry.
-/
import Derived.Test.Qxb6629082aChecked
import GoSem.Claim
import GoSem.ClaimJoined
import GoSem.ClaimMapViews
import Derived.JoinedTies
import Derived.KernelRfl
namespace Go.Proofs.Qxb6629082a
/- THE CELL 'sum', in the pinned program and in every row, IS THE sha256 OF THE DUMP (.gsa) THAT Qxb6629082aProg.lean LOADS. Nothing in Lean hashes anything: it is a label: what it is worth is what the hold of that sum in a sandbox is worth. -/
noncomputable def Try.pinned : Pinned := { name := "qxb6629082a", sum := "9848d72a345d3e11748f9a1a8816128572796258af23920ed7e380ae286ea63b", checked := Try.checked }
namespace Rows
def none {H : Type} : Left H := { results := [], args := [] }

/-- 'zzlaws_internal_http1_b1.FnValueIgnoresCaseAndTakesFirst': WHATEVER THE INPUT: true; the input reads as it did. -/
def fnValueIgnoresCaseAndTakesFirstSpec : ChangeSpec := { name := "fnValueIgnoresCaseAndTakesFirst", fn := fun _ => fun
  | [d1, d2, d3, d4, d5, d6, d7] => { results := [.lit (.bool true)], args := [d1, d2, d3, d4, d5, d6, d7] }
  | _ => none }
def fnValueIgnoresCaseAndTakesFirstRow : OpenClaim := { program := "qxb6629082a", sum := "9848d72a345d3e11748f9a1a8816128572796258af23920ed7e380ae286ea63b", func := "example.com/inferometer/inferometer/zzlaws_internal_http1_b1.FnValueIgnoresCaseAndTakesFirst", spec := "fnValueIgnoresCaseAndTakesFirst", apart := false }
def FnValueIgnoresCaseAndTakesFirstSaid : Prop := fnValueIgnoresCaseAndTakesFirstRow.holds Try.pinned (OpenSpec.ofChange fnValueIgnoresCaseAndTakesFirstSpec)

/-- ITS FALSE NEIGHBOUR: 'it returns false'. Refute it at one input. -/
def fnValueIgnoresCaseAndTakesFirstWrong : ChangeSpec := { name := "fnValueIgnoresCaseAndTakesFirst", fn := fun _ => fun
  | [d1, d2, d3, d4, d5, d6, d7] => { results := [.lit (.bool false)], args := [d1, d2, d3, d4, d5, d6, d7] }
  | _ => none }
def FnValueIgnoresCaseAndTakesFirstWrongFalsely : Prop := fnValueIgnoresCaseAndTakesFirstRow.holds Try.pinned (OpenSpec.ofChange fnValueIgnoresCaseAndTakesFirstWrong)

/-- 'zzlaws_internal_http1_b1.FnValueFieldInsertedAnywhere': WHATEVER THE INPUT: true; the input reads as it did. -/
def fnValueFieldInsertedAnywhereSpec : ChangeSpec := { name := "fnValueFieldInsertedAnywhere", fn := fun _ => fun
  | [d1, d2, d3, d4, d5, d6, d7, d8, d9, d10] => { results := [.lit (.bool true)], args := [d1, d2, d3, d4, d5, d6, d7, d8, d9, d10] }
  | _ => none }
def fnValueFieldInsertedAnywhereRow : OpenClaim := { program := "qxb6629082a", sum := "9848d72a345d3e11748f9a1a8816128572796258af23920ed7e380ae286ea63b", func := "example.com/inferometer/inferometer/zzlaws_internal_http1_b1.FnValueFieldInsertedAnywhere", spec := "fnValueFieldInsertedAnywhere", apart := false }
def FnValueFieldInsertedAnywhereSaid : Prop := fnValueFieldInsertedAnywhereRow.holds Try.pinned (OpenSpec.ofChange fnValueFieldInsertedAnywhereSpec)

/-- ITS FALSE NEIGHBOUR: 'it returns false'. Refute it at one input. -/
def fnValueFieldInsertedAnywhereWrong : ChangeSpec := { name := "fnValueFieldInsertedAnywhere", fn := fun _ => fun
  | [d1, d2, d3, d4, d5, d6, d7, d8, d9, d10] => { results := [.lit (.bool false)], args := [d1, d2, d3, d4, d5, d6, d7, d8, d9, d10] }
  | _ => none }
def FnValueFieldInsertedAnywhereWrongFalsely : Prop := fnValueFieldInsertedAnywhereRow.holds Try.pinned (OpenSpec.ofChange fnValueFieldInsertedAnywhereWrong)

end Rows
end Go.Proofs.Qxb6629082a

/-
  No cell of these rows narrows 'for every input' (looked for: loops, veiled, ifaces, maps, wideKeys, modest, calm, conditions, laid).
  DERIVED. THE GIVEN ROWS OF THIS SEAT. 2 by the template 'for every input the law returns true; each argument reads behind the call as it read before'; 0 by the template 'total and deterministic' (their statements: Qxb6629039aTotals.lean).
  GIVEN WITH THE SEED: the statements are not yours to turn. If you find one false, say at which input.
  Laid BY PROGRAM, IN A SANDBOX (cutbox-rows.mjs): the forced cells as the released guide's own fill.sh prints them over the translation 1c0902396bdfdd0e… (all of the seat's roots in one cut). By AI agents, Wed Nov 11 2026. No macro, syntax, notation, axiom, sorry.
-/
import Derived.Test.Qxb6629039aChecked
import GoSem.Claim
import GoSem.ClaimJoined
import GoSem.ClaimMapViews
import Derived.JoinedTies
import Derived.KernelRfl
namespace Go.Proofs.Qxb6629039a
/- THE CELL 'sum', in the pinned program and in every row, IS THE sha256 OF THE DUMP (.gsa) THAT Qxb6629039aProg.lean LOADS. Nothing in Lean hashes anything: it is a label: what it is worth is what the hold of that sum in a sandbox is worth. -/
noncomputable def Try.pinned : Pinned := { name := "qxb6629039a", sum := "1c0902396bdfdd0e87ee6ca7f353d21052a51faa8cc12acc40ced28501b64e2d", checked := Try.checked }
namespace Rows
def none {H : Type} : Left H := { results := [], args := [] }

/-- 'zzlaws_internal_calendar_b1.FnAfterComposesAndCounts': WHATEVER THE INPUT: true; the input reads as it did. -/
def fnAfterComposesAndCountsSpec : ChangeSpec := { name := "fnAfterComposesAndCounts", fn := fun _ => fun
  | [d1, d2, d3, d4] => { results := [.lit (.bool true)], args := [d1, d2, d3, d4] }
  | _ => none }
def fnAfterComposesAndCountsRow : OpenClaim := { program := "qxb6629039a", sum := "1c0902396bdfdd0e87ee6ca7f353d21052a51faa8cc12acc40ced28501b64e2d", func := "example.com/tuoguan/tuoguan/zzlaws_internal_calendar_b1.FnAfterComposesAndCounts", spec := "fnAfterComposesAndCounts", apart := false }
def FnAfterComposesAndCountsSaid : Prop := fnAfterComposesAndCountsRow.holds Try.pinned (OpenSpec.ofChange fnAfterComposesAndCountsSpec)

/-- ITS FALSE NEIGHBOUR: 'it returns false'. Refute it at one input. -/
def fnAfterComposesAndCountsWrong : ChangeSpec := { name := "fnAfterComposesAndCounts", fn := fun _ => fun
  | [d1, d2, d3, d4] => { results := [.lit (.bool false)], args := [d1, d2, d3, d4] }
  | _ => none }
def FnAfterComposesAndCountsWrongFalsely : Prop := fnAfterComposesAndCountsRow.holds Try.pinned (OpenSpec.ofChange fnAfterComposesAndCountsWrong)

/-- 'zzlaws_internal_calendar_b1.FnAfterSameAcrossADayOff': WHATEVER THE INPUT: true; the input reads as it did. -/
def fnAfterSameAcrossADayOffSpec : ChangeSpec := { name := "fnAfterSameAcrossADayOff", fn := fun _ => fun
  | [d1, d2, d3, d4] => { results := [.lit (.bool true)], args := [d1, d2, d3, d4] }
  | _ => none }
def fnAfterSameAcrossADayOffRow : OpenClaim := { program := "qxb6629039a", sum := "1c0902396bdfdd0e87ee6ca7f353d21052a51faa8cc12acc40ced28501b64e2d", func := "example.com/tuoguan/tuoguan/zzlaws_internal_calendar_b1.FnAfterSameAcrossADayOff", spec := "fnAfterSameAcrossADayOff", apart := false }
def FnAfterSameAcrossADayOffSaid : Prop := fnAfterSameAcrossADayOffRow.holds Try.pinned (OpenSpec.ofChange fnAfterSameAcrossADayOffSpec)

/-- ITS FALSE NEIGHBOUR: 'it returns false'. Refute it at one input. -/
def fnAfterSameAcrossADayOffWrong : ChangeSpec := { name := "fnAfterSameAcrossADayOff", fn := fun _ => fun
  | [d1, d2, d3, d4] => { results := [.lit (.bool false)], args := [d1, d2, d3, d4] }
  | _ => none }
def FnAfterSameAcrossADayOffWrongFalsely : Prop := fnAfterSameAcrossADayOffRow.holds Try.pinned (OpenSpec.ofChange fnAfterSameAcrossADayOffWrong)

end Rows
end Go.Proofs.Qxb6629039a

/-
  DERIVED. GIVEN WITH THE SEED: THE CARDS: each row of Qxb6629108aFmtRows.lean that lists a variable, with what it lists TIED to the program's text (the seventh form; the later family's looks); each row that meets fmt, with fmt's text TOLD by the authors' own Lean function (tested against real Go, not proved from fmt's source: count such statements apart). THE CARD IS WHAT COUNTS. Prove the row's statement (the work); the ties are given (Qxb6629108aFmtTie.lean); close each card by the builder's one call (the guide's Derived/Test/ToyasCard.lean, 'card_holds'). Laid BY PROGRAM, IN A SANDBOX (cutbox-door.mjs). By AI agents, Wed Nov 11 2026. No macro, syntax, notation, axiom, sorry.
-/
import Derived.Test.Qxb6629108aFmtRows
import GoSem.ClaimSeven
namespace Go.Proofs.Qxb6629108aFmt
namespace Rows

/-- THE TOLD CARD OF 'zzlaws_root_b1.FnUnmarshalTextRoundTrip'. -/
def fnUnmarshalTextRoundTripCard : Claim7 := { stood := { row := fnUnmarshalTextRoundTripRow, standIns := [], harness := (true, "e0bded61cf2a816e684f93503ab5b3cd3524524a8eb06d3f790f614fad70f5e7"), looks := false }, told := true, goes := false }
def FnUnmarshalTextRoundTripToldSaid : Prop := Claim7.holds Tryf.pinned (.plain (OpenSpec.ofChange fnUnmarshalTextRoundTripSpec)) fnUnmarshalTextRoundTripCard
/-- ITS FALSE NEIGHBOUR. Refute it at one input. -/
def FnUnmarshalTextRoundTripToldWrongFalsely : Prop := Claim7.holds Tryf.pinned (.plain (OpenSpec.ofChange fnUnmarshalTextRoundTripWrong)) fnUnmarshalTextRoundTripCard

/-- THE TOLD CARD OF 'zzlaws_root_b1.FnUnmarshalTextScript'. -/
def fnUnmarshalTextScriptCard : Claim7 := { stood := { row := fnUnmarshalTextScriptRow, standIns := [], harness := (true, "e0bded61cf2a816e684f93503ab5b3cd3524524a8eb06d3f790f614fad70f5e7"), looks := false }, told := true, goes := false }
def FnUnmarshalTextScriptToldSaid : Prop := Claim7.holds Tryf.pinned (.plain (OpenSpec.ofChange fnUnmarshalTextScriptSpec)) fnUnmarshalTextScriptCard
/-- ITS FALSE NEIGHBOUR. Refute it at one input. -/
def FnUnmarshalTextScriptToldWrongFalsely : Prop := Claim7.holds Tryf.pinned (.plain (OpenSpec.ofChange fnUnmarshalTextScriptWrong)) fnUnmarshalTextScriptCard
end Rows
end Go.Proofs.Qxb6629108aFmt

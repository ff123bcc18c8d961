/-
  No cell of these rows narrows 'for every input' (looked for: loops, veiled, ifaces, maps, wideKeys, modest, calm, conditions, laid).
  DERIVED. THE GIVEN ROWS OF THIS SEAT. 2 by the template 'for every input the law returns true; each argument reads behind the call as it read before'; 0 by the template 'total and deterministic' (their statements: Qxb6629108aFmtTotals.lean).
  GIVEN WITH THE SEED: the statements are not yours to turn. If you find one false, say at which input.
  Laid BY PROGRAM, IN A SANDBOX (cutbox-rows.mjs): the forced cells as the released guide's own fill.sh prints them over the translation 751fca4acafdade4… (all of the seat's roots in one cut). By AI agents, Wed Nov 11 2026. No macro, syntax, notation, axiom, sorry.
-/
import Derived.Test.Qxb6629108aFmtChecked
import GoSem.Claim
import GoSem.ClaimJoined
import GoSem.ClaimMapViews
import Derived.JoinedTies
import Derived.KernelRfl
namespace Go.Proofs.Qxb6629108aFmt
/- THE CELL 'sum', in the pinned program and in every row, IS THE sha256 OF THE DUMP (.gsa) THAT Qxb6629108aFmtProg.lean LOADS. Nothing in Lean hashes anything: it is a label: what it is worth is what the hold of that sum in a sandbox is worth. -/
noncomputable def Tryf.pinned : Pinned := { name := "qxb6629108afmt", sum := "751fca4acafdade4e4fe289381b65752cebd475fb3d8aff219e194e41defc0fa", checked := Tryf.checked }
namespace Rows
def none {H : Type} : Left H := { results := [], args := [] }

/-- 'zzlaws_root_b1.FnUnmarshalTextRoundTrip': WHATEVER THE INPUT: true; the input reads as it did. -/
def fnUnmarshalTextRoundTripSpec : ChangeSpec := { name := "fnUnmarshalTextRoundTrip", fn := fun _ => fun
  | [d1, d2] => { results := [.lit (.bool true)], args := [d1, d2] }
  | _ => none }
def fnUnmarshalTextRoundTripRow : OpenClaim := { program := "qxb6629108afmt", sum := "751fca4acafdade4e4fe289381b65752cebd475fb3d8aff219e194e41defc0fa", func := "example.com/rollchain/rollchain/zzlaws_root_b1.FnUnmarshalTextRoundTrip", spec := "fnUnmarshalTextRoundTrip", stops := ["fmt.Sprintf, its operands' methods called"], inPlace := ["fmt.Sprintf"], unfollowed := true, recurses := true, apart := false }
/-- NO THEOREM (fmt's text is open here; it may be false): for the released tool's asking of the row's closed facts alone. THE STATEMENT IS 'FnUnmarshalTextRoundTripToldSaid' (Qxb6629108aFmtCards.lean). -/
def FnUnmarshalTextRoundTripFormAsk : Prop := fnUnmarshalTextRoundTripRow.holds Tryf.pinned (OpenSpec.ofChange fnUnmarshalTextRoundTripSpec)

/-- ITS FALSE NEIGHBOUR: 'it returns false'. Refute it at one input. -/
def fnUnmarshalTextRoundTripWrong : ChangeSpec := { name := "fnUnmarshalTextRoundTrip", fn := fun _ => fun
  | [d1, d2] => { results := [.lit (.bool false)], args := [d1, d2] }
  | _ => none }
def FnUnmarshalTextRoundTripWrongFormAsk : Prop := fnUnmarshalTextRoundTripRow.holds Tryf.pinned (OpenSpec.ofChange fnUnmarshalTextRoundTripWrong)

/-- 'zzlaws_root_b1.FnUnmarshalTextScript': WHATEVER THE INPUT: true; the input reads as it did. -/
def fnUnmarshalTextScriptSpec : ChangeSpec := { name := "fnUnmarshalTextScript", fn := fun _ => fun
  | [d1, d2, d3] => { results := [.lit (.bool true)], args := [d1, d2, d3] }
  | _ => none }
def fnUnmarshalTextScriptRow : OpenClaim := { program := "qxb6629108afmt", sum := "751fca4acafdade4e4fe289381b65752cebd475fb3d8aff219e194e41defc0fa", func := "example.com/rollchain/rollchain/zzlaws_root_b1.FnUnmarshalTextScript", spec := "fnUnmarshalTextScript", stops := ["fmt.Sprintf, its operands' methods called"], inPlace := ["fmt.Sprintf"], unfollowed := true, recurses := true, apart := false }
/-- NO THEOREM (fmt's text is open here; it may be false): for the released tool's asking of the row's closed facts alone. THE STATEMENT IS 'FnUnmarshalTextScriptToldSaid' (Qxb6629108aFmtCards.lean). -/
def FnUnmarshalTextScriptFormAsk : Prop := fnUnmarshalTextScriptRow.holds Tryf.pinned (OpenSpec.ofChange fnUnmarshalTextScriptSpec)

/-- ITS FALSE NEIGHBOUR: 'it returns false'. Refute it at one input. -/
def fnUnmarshalTextScriptWrong : ChangeSpec := { name := "fnUnmarshalTextScript", fn := fun _ => fun
  | [d1, d2, d3] => { results := [.lit (.bool false)], args := [d1, d2, d3] }
  | _ => none }
def FnUnmarshalTextScriptWrongFormAsk : Prop := fnUnmarshalTextScriptRow.holds Tryf.pinned (OpenSpec.ofChange fnUnmarshalTextScriptWrong)

end Rows
end Go.Proofs.Qxb6629108aFmt

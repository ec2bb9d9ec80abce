/-
  No cell of these rows narrows 'for every input' (looked for: loops, veiled, ifaces, maps, wideKeys, modest, calm, conditions, laid).
  DERIVED. THE GIVEN ROWS OF THIS SEAT. 2 by the template 'for every input the law returns true; each argument reads behind the call as it read before'; 0 by the template 'total and deterministic' (their statements: Qxb6602745aTotals.lean).
  GIVEN WITH THE SEED: the statements are not yours to turn. If you find one false, say at which input.
  Laid BY PROGRAM, IN A SANDBOX (cutbox-rows.mjs): the forced cells as the released guide's own fill.sh prints them over the translation 720d00eaaadb8956… (all of the seat's roots in one cut). By AI agents, Wed Nov 11 2026. No macro, syntax, notation, axiom, sorry.
-/
import Derived.Test.Qxb6602745aChecked
import GoSem.Claim
import GoSem.ClaimJoined
import GoSem.ClaimMapViews
import Derived.JoinedTies
import Derived.KernelRfl
namespace Go.Proofs.Qxb6602745a
/- THE CELL 'sum', in the pinned program and in every row, IS THE sha256 OF THE DUMP (.gsa) THAT Qxb6602745aProg.lean LOADS. Nothing in Lean hashes anything: it is a label: what it is worth is what the hold of that sum in a sandbox is worth. -/
noncomputable def Try.pinned : Pinned := { name := "qxb6602745a", sum := "720d00eaaadb8956df7df4bbac40bc34031bfb2a3eb66a03ffa302a0771bb692", checked := Try.checked }
namespace Rows
def none {H : Type} : Left H := { results := [], args := [] }

/-- 'zzlaws_fetch_b1.FnBracketInjective': WHATEVER THE INPUT: true; the input reads as it did. -/
def fnBracketInjectiveSpec : ChangeSpec := { name := "fnBracketInjective", fn := fun _ => fun
  | [d1, d2] => { results := [.lit (.bool true)], args := [d1, d2] }
  | _ => none }
def fnBracketInjectiveRow : OpenClaim := { program := "qxb6602745a", sum := "720d00eaaadb8956df7df4bbac40bc34031bfb2a3eb66a03ffa302a0771bb692", func := "example.com/fingerpost/fingerpost/zzlaws_fetch_b1.FnBracketInjective", spec := "fnBracketInjective", inPlace := ["internal/bytealg.IndexByteString", "internal/bytealg.IndexString"], named := ["internal/bytealg.MaxLen"], apart := false }
def FnBracketInjectiveSaid : Prop := fnBracketInjectiveRow.holds Try.pinned (OpenSpec.ofChange fnBracketInjectiveSpec)

/-- ITS FALSE NEIGHBOUR: 'it returns false'. Refute it at one input. -/
def fnBracketInjectiveWrong : ChangeSpec := { name := "fnBracketInjective", fn := fun _ => fun
  | [d1, d2] => { results := [.lit (.bool false)], args := [d1, d2] }
  | _ => none }
def FnBracketInjectiveWrongFalsely : Prop := fnBracketInjectiveRow.holds Try.pinned (OpenSpec.ofChange fnBracketInjectiveWrong)

/-- 'zzlaws_fetch_b1.FnBracketUnbracketRoundTrip': WHATEVER THE INPUT: true; the input reads as it did. -/
def fnBracketUnbracketRoundTripSpec : ChangeSpec := { name := "fnBracketUnbracketRoundTrip", fn := fun _ => fun
  | [d] => { results := [.lit (.bool true)], args := [d] }
  | _ => none }
def fnBracketUnbracketRoundTripRow : OpenClaim := { program := "qxb6602745a", sum := "720d00eaaadb8956df7df4bbac40bc34031bfb2a3eb66a03ffa302a0771bb692", func := "example.com/fingerpost/fingerpost/zzlaws_fetch_b1.FnBracketUnbracketRoundTrip", spec := "fnBracketUnbracketRoundTrip", inPlace := ["internal/bytealg.IndexByteString", "internal/bytealg.IndexString"], named := ["internal/bytealg.MaxLen"], apart := false }
def FnBracketUnbracketRoundTripSaid : Prop := fnBracketUnbracketRoundTripRow.holds Try.pinned (OpenSpec.ofChange fnBracketUnbracketRoundTripSpec)

/-- ITS FALSE NEIGHBOUR: 'it returns false'. Refute it at one input. -/
def fnBracketUnbracketRoundTripWrong : ChangeSpec := { name := "fnBracketUnbracketRoundTrip", fn := fun _ => fun
  | [d] => { results := [.lit (.bool false)], args := [d] }
  | _ => none }
def FnBracketUnbracketRoundTripWrongFalsely : Prop := fnBracketUnbracketRoundTripRow.holds Try.pinned (OpenSpec.ofChange fnBracketUnbracketRoundTripWrong)

end Rows
end Go.Proofs.Qxb6602745a

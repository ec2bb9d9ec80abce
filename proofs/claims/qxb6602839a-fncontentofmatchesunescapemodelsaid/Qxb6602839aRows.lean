/-
  No cell of these rows narrows 'for every input' (looked for: loops, veiled, ifaces, maps, wideKeys, modest, calm, conditions, laid).
  DERIVED. THE GIVEN ROWS OF THIS SEAT. 2 by the template 'for every input the law returns true; each argument reads behind the call as it read before'; 0 by the template 'total and deterministic' (their statements: Qxb6602839aTotals.lean).
  GIVEN WITH THE SEED: the statements are not yours to turn. If you find one false, say at which input.
  Laid BY PROGRAM, IN A SANDBOX (cutbox-rows.mjs): the forced cells as the released guide's own fill.sh prints them over the translation 6770e1fb194fd33e… (all of the seat's roots in one cut). By AI agents, Wed Nov 11 2026. No macro, syntax, notation, axiom, sorry.
-/
import Derived.Test.Qxb6602839aChecked
import GoSem.Claim
import GoSem.ClaimJoined
import GoSem.ClaimMapViews
import Derived.JoinedTies
import Derived.KernelRfl
namespace Go.Proofs.Qxb6602839a
/- THE CELL 'sum', in the pinned program and in every row, IS THE sha256 OF THE DUMP (.gsa) THAT Qxb6602839aProg.lean LOADS. Nothing in Lean hashes anything: it is a label: what it is worth is what the hold of that sum in a sandbox is worth. -/
noncomputable def Try.pinned : Pinned := { name := "qxb6602839a", sum := "6770e1fb194fd33ededf6a22241824acf79705c887e724fc211ec8f3c046f49a", checked := Try.checked }
namespace Rows
def none {H : Type} : Left H := { results := [], args := [] }

/-- 'zzlaws_root_b1.FnContentOfMatchesUnescapeModel': WHATEVER THE INPUT: true; the input reads as it did. -/
def fnContentOfMatchesUnescapeModelSpec : ChangeSpec := { name := "fnContentOfMatchesUnescapeModel", fn := fun _ => fun
  | [d] => { results := [.lit (.bool true)], args := [d] }
  | _ => none }
def fnContentOfMatchesUnescapeModelRow : OpenClaim := { program := "qxb6602839a", sum := "6770e1fb194fd33ededf6a22241824acf79705c887e724fc211ec8f3c046f49a", func := "example.com/pennant/pennant/zzlaws_root_b1.FnContentOfMatchesUnescapeModel", spec := "fnContentOfMatchesUnescapeModel", inPlace := ["internal/bytealg.IndexByteString", "internal/bytealg.IndexString", "internal/abi.NoEscape", "internal/bytealg.MakeNoZero"], named := ["internal/bytealg.MaxLen"], apart := false }
def FnContentOfMatchesUnescapeModelSaid : Prop := fnContentOfMatchesUnescapeModelRow.holds Try.pinned (OpenSpec.ofChange fnContentOfMatchesUnescapeModelSpec)

/-- ITS FALSE NEIGHBOUR: 'it returns false'. Refute it at one input. -/
def fnContentOfMatchesUnescapeModelWrong : ChangeSpec := { name := "fnContentOfMatchesUnescapeModel", fn := fun _ => fun
  | [d] => { results := [.lit (.bool false)], args := [d] }
  | _ => none }
def FnContentOfMatchesUnescapeModelWrongFalsely : Prop := fnContentOfMatchesUnescapeModelRow.holds Try.pinned (OpenSpec.ofChange fnContentOfMatchesUnescapeModelWrong)

/-- 'zzlaws_root_b1.FnContentOfUndoesQuoting': WHATEVER THE INPUT: true; the input reads as it did. -/
def fnContentOfUndoesQuotingSpec : ChangeSpec := { name := "fnContentOfUndoesQuoting", fn := fun _ => fun
  | [d] => { results := [.lit (.bool true)], args := [d] }
  | _ => none }
def fnContentOfUndoesQuotingRow : OpenClaim := { program := "qxb6602839a", sum := "6770e1fb194fd33ededf6a22241824acf79705c887e724fc211ec8f3c046f49a", func := "example.com/pennant/pennant/zzlaws_root_b1.FnContentOfUndoesQuoting", spec := "fnContentOfUndoesQuoting", inPlace := ["internal/bytealg.IndexByteString", "internal/bytealg.IndexString", "internal/abi.NoEscape", "internal/bytealg.MakeNoZero"], named := ["internal/bytealg.MaxLen"], apart := false }
def FnContentOfUndoesQuotingSaid : Prop := fnContentOfUndoesQuotingRow.holds Try.pinned (OpenSpec.ofChange fnContentOfUndoesQuotingSpec)

/-- ITS FALSE NEIGHBOUR: 'it returns false'. Refute it at one input. -/
def fnContentOfUndoesQuotingWrong : ChangeSpec := { name := "fnContentOfUndoesQuoting", fn := fun _ => fun
  | [d] => { results := [.lit (.bool false)], args := [d] }
  | _ => none }
def FnContentOfUndoesQuotingWrongFalsely : Prop := fnContentOfUndoesQuotingRow.holds Try.pinned (OpenSpec.ofChange fnContentOfUndoesQuotingWrong)

end Rows
end Go.Proofs.Qxb6602839a

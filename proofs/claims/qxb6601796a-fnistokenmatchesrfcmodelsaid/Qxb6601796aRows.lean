/-
  No cell of these rows narrows 'for every input' (looked for: loops, veiled, ifaces, maps, wideKeys, modest, calm, conditions, laid).
  DERIVED. THE GIVEN ROWS OF THIS SEAT. 2 by the template 'for every input the law returns true; each argument reads behind the call as it read before'; 0 by the template 'total and deterministic' (their statements: Qxb6601796aTotals.lean).
  GIVEN WITH THE SEED: the statements are not yours to turn. If you find one false, say at which input.
  Laid BY PROGRAM, IN A SANDBOX (cutbox-rows.mjs): the forced cells as the released guide's own fill.sh prints them over the translation 2e48ec9021473bca… (all of the seat's roots in one cut). By AI agents, Wed Nov 11 2026. No macro, syntax, notation, axiom, sorry.
-/
import Derived.Test.Qxb6601796aChecked
import GoSem.Claim
import GoSem.ClaimJoined
import GoSem.ClaimMapViews
import Derived.JoinedTies
import Derived.KernelRfl
namespace Go.Proofs.Qxb6601796a
/- THE CELL 'sum', in the pinned program and in every row, IS THE sha256 OF THE DUMP (.gsa) THAT Qxb6601796aProg.lean LOADS. Nothing in Lean hashes anything: it is a label: what it is worth is what the hold of that sum in a sandbox is worth. -/
noncomputable def Try.pinned : Pinned := { name := "qxb6601796a", sum := "2e48ec9021473bca75b4bfae9f9dcda2f2d4ea467f50a2cd9d521da0a2cbfcb5", checked := Try.checked }
namespace Rows
def none {H : Type} : Left H := { results := [], args := [] }

/-- 'zzlaws_config_b1.FnIsTokenMatchesRFCModel': WHATEVER THE INPUT: true; the input reads as it did. -/
def fnIsTokenMatchesRFCModelSpec : ChangeSpec := { name := "fnIsTokenMatchesRFCModel", fn := fun _ => fun
  | [d] => { results := [.lit (.bool true)], args := [d] }
  | _ => none }
def fnIsTokenMatchesRFCModelRow : OpenClaim := { program := "qxb6601796a", sum := "2e48ec9021473bca75b4bfae9f9dcda2f2d4ea467f50a2cd9d521da0a2cbfcb5", func := "example.com/slipway/slipway/zzlaws_config_b1.FnIsTokenMatchesRFCModel", spec := "fnIsTokenMatchesRFCModel", inPlace := ["internal/bytealg.IndexByteString"], apart := false }
def FnIsTokenMatchesRFCModelSaid : Prop := fnIsTokenMatchesRFCModelRow.holds Try.pinned (OpenSpec.ofChange fnIsTokenMatchesRFCModelSpec)

/-- ITS FALSE NEIGHBOUR: 'it returns false'. Refute it at one input. -/
def fnIsTokenMatchesRFCModelWrong : ChangeSpec := { name := "fnIsTokenMatchesRFCModel", fn := fun _ => fun
  | [d] => { results := [.lit (.bool false)], args := [d] }
  | _ => none }
def FnIsTokenMatchesRFCModelWrongFalsely : Prop := fnIsTokenMatchesRFCModelRow.holds Try.pinned (OpenSpec.ofChange fnIsTokenMatchesRFCModelWrong)

/-- 'zzlaws_config_b1.FnIsTokenConcatenation': WHATEVER THE INPUT: true; the input reads as it did. -/
def fnIsTokenConcatenationSpec : ChangeSpec := { name := "fnIsTokenConcatenation", fn := fun _ => fun
  | [d1, d2] => { results := [.lit (.bool true)], args := [d1, d2] }
  | _ => none }
def fnIsTokenConcatenationRow : OpenClaim := { program := "qxb6601796a", sum := "2e48ec9021473bca75b4bfae9f9dcda2f2d4ea467f50a2cd9d521da0a2cbfcb5", func := "example.com/slipway/slipway/zzlaws_config_b1.FnIsTokenConcatenation", spec := "fnIsTokenConcatenation", inPlace := ["internal/bytealg.IndexByteString"], apart := false }
def FnIsTokenConcatenationSaid : Prop := fnIsTokenConcatenationRow.holds Try.pinned (OpenSpec.ofChange fnIsTokenConcatenationSpec)

/-- ITS FALSE NEIGHBOUR: 'it returns false'. Refute it at one input. -/
def fnIsTokenConcatenationWrong : ChangeSpec := { name := "fnIsTokenConcatenation", fn := fun _ => fun
  | [d1, d2] => { results := [.lit (.bool false)], args := [d1, d2] }
  | _ => none }
def FnIsTokenConcatenationWrongFalsely : Prop := fnIsTokenConcatenationRow.holds Try.pinned (OpenSpec.ofChange fnIsTokenConcatenationWrong)

end Rows
end Go.Proofs.Qxb6601796a

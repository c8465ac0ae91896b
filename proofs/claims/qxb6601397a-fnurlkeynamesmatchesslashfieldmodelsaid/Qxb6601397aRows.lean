/-
  No cell of these rows narrows 'for every input' (looked for: loops, veiled, ifaces, maps, wideKeys, modest, calm, conditions, laid).
  DERIVED. THE GIVEN ROWS OF THIS SEAT. 3 by the template 'for every input the law returns true; each argument reads behind the call as it read before'; 0 by the template 'total and deterministic' (their statements: Qxb6601397aTotals.lean).
  GIVEN WITH THE SEED: the statements are not yours to turn. If you find one false, say at which input.
  Laid BY PROGRAM, IN A SANDBOX (cutbox-rows.mjs): the forced cells as the released guide's own fill.sh prints them over the translation 6a34fcdfee4e65d0… (all of the seat's roots in one cut). By AI agents, Wed Nov 11 2026. No macro, syntax, notation, axiom, sorry.
-/
import Derived.Test.Qxb6601397aChecked
import GoSem.Claim
import GoSem.ClaimJoined
import GoSem.ClaimMapViews
import Derived.JoinedTies
import Derived.KernelRfl
namespace Go.Proofs.Qxb6601397a
/- THE CELL 'sum', in the pinned program and in every row, IS THE sha256 OF THE DUMP (.gsa) THAT Qxb6601397aProg.lean LOADS. Nothing in Lean hashes anything: it is a label: what it is worth is what the hold of that sum in a sandbox is worth. -/
noncomputable def Try.pinned : Pinned := { name := "qxb6601397a", sum := "6a34fcdfee4e65d0927c882b4e9bfaaf6b17e5212a79b3974af2cbb4e4cf1fc2", checked := Try.checked }
namespace Rows
def none {H : Type} : Left H := { results := [], args := [] }

/-- 'zzlaws_pkg_registry_b1.FnUrlKeyNamesMatchesSlashFieldModel': WHATEVER THE INPUT: true; the input reads as it did. -/
def fnUrlKeyNamesMatchesSlashFieldModelSpec : ChangeSpec := { name := "fnUrlKeyNamesMatchesSlashFieldModel", fn := fun _ => fun
  | [d1, d2] => { results := [.lit (.bool true)], args := [d1, d2] }
  | _ => none }
def fnUrlKeyNamesMatchesSlashFieldModelRow : OpenClaim := { program := "qxb6601397a", sum := "6a34fcdfee4e65d0927c882b4e9bfaaf6b17e5212a79b3974af2cbb4e4cf1fc2", func := "example.com/refgraph/refgraph/zzlaws_pkg_registry_b1.FnUrlKeyNamesMatchesSlashFieldModel", spec := "fnUrlKeyNamesMatchesSlashFieldModel", inPlace := ["internal/bytealg.IndexByteString", "internal/bytealg.IndexString"], named := ["internal/bytealg.MaxLen"], apart := false }
def FnUrlKeyNamesMatchesSlashFieldModelSaid : Prop := fnUrlKeyNamesMatchesSlashFieldModelRow.holds Try.pinned (OpenSpec.ofChange fnUrlKeyNamesMatchesSlashFieldModelSpec)

/-- ITS FALSE NEIGHBOUR: 'it returns false'. Refute it at one input. -/
def fnUrlKeyNamesMatchesSlashFieldModelWrong : ChangeSpec := { name := "fnUrlKeyNamesMatchesSlashFieldModel", fn := fun _ => fun
  | [d1, d2] => { results := [.lit (.bool false)], args := [d1, d2] }
  | _ => none }
def FnUrlKeyNamesMatchesSlashFieldModelWrongFalsely : Prop := fnUrlKeyNamesMatchesSlashFieldModelRow.holds Try.pinned (OpenSpec.ofChange fnUrlKeyNamesMatchesSlashFieldModelWrong)

/-- 'zzlaws_pkg_registry_b1.FnUrlKeyNamesIgnoresSchemeAndPath': WHATEVER THE INPUT: true; the input reads as it did. -/
def fnUrlKeyNamesIgnoresSchemeAndPathSpec : ChangeSpec := { name := "fnUrlKeyNamesIgnoresSchemeAndPath", fn := fun _ => fun
  | [d1, d2, d3] => { results := [.lit (.bool true)], args := [d1, d2, d3] }
  | _ => none }
def fnUrlKeyNamesIgnoresSchemeAndPathRow : OpenClaim := { program := "qxb6601397a", sum := "6a34fcdfee4e65d0927c882b4e9bfaaf6b17e5212a79b3974af2cbb4e4cf1fc2", func := "example.com/refgraph/refgraph/zzlaws_pkg_registry_b1.FnUrlKeyNamesIgnoresSchemeAndPath", spec := "fnUrlKeyNamesIgnoresSchemeAndPath", inPlace := ["internal/bytealg.IndexByteString", "internal/bytealg.IndexString"], named := ["internal/bytealg.MaxLen"], apart := false }
def FnUrlKeyNamesIgnoresSchemeAndPathSaid : Prop := fnUrlKeyNamesIgnoresSchemeAndPathRow.holds Try.pinned (OpenSpec.ofChange fnUrlKeyNamesIgnoresSchemeAndPathSpec)

/-- ITS FALSE NEIGHBOUR: 'it returns false'. Refute it at one input. -/
def fnUrlKeyNamesIgnoresSchemeAndPathWrong : ChangeSpec := { name := "fnUrlKeyNamesIgnoresSchemeAndPath", fn := fun _ => fun
  | [d1, d2, d3] => { results := [.lit (.bool false)], args := [d1, d2, d3] }
  | _ => none }
def FnUrlKeyNamesIgnoresSchemeAndPathWrongFalsely : Prop := fnUrlKeyNamesIgnoresSchemeAndPathRow.holds Try.pinned (OpenSpec.ofChange fnUrlKeyNamesIgnoresSchemeAndPathWrong)

/-- 'zzlaws_pkg_registry_b1.FnUrlKeyNamesIsAnEquivalenceOnHosts': WHATEVER THE INPUT: true; the input reads as it did. -/
def fnUrlKeyNamesIsAnEquivalenceOnHostsSpec : ChangeSpec := { name := "fnUrlKeyNamesIsAnEquivalenceOnHosts", fn := fun _ => fun
  | [d1, d2, d3] => { results := [.lit (.bool true)], args := [d1, d2, d3] }
  | _ => none }
def fnUrlKeyNamesIsAnEquivalenceOnHostsRow : OpenClaim := { program := "qxb6601397a", sum := "6a34fcdfee4e65d0927c882b4e9bfaaf6b17e5212a79b3974af2cbb4e4cf1fc2", func := "example.com/refgraph/refgraph/zzlaws_pkg_registry_b1.FnUrlKeyNamesIsAnEquivalenceOnHosts", spec := "fnUrlKeyNamesIsAnEquivalenceOnHosts", inPlace := ["internal/bytealg.IndexByteString", "internal/bytealg.IndexString"], named := ["internal/bytealg.MaxLen"], apart := false }
def FnUrlKeyNamesIsAnEquivalenceOnHostsSaid : Prop := fnUrlKeyNamesIsAnEquivalenceOnHostsRow.holds Try.pinned (OpenSpec.ofChange fnUrlKeyNamesIsAnEquivalenceOnHostsSpec)

/-- ITS FALSE NEIGHBOUR: 'it returns false'. Refute it at one input. -/
def fnUrlKeyNamesIsAnEquivalenceOnHostsWrong : ChangeSpec := { name := "fnUrlKeyNamesIsAnEquivalenceOnHosts", fn := fun _ => fun
  | [d1, d2, d3] => { results := [.lit (.bool false)], args := [d1, d2, d3] }
  | _ => none }
def FnUrlKeyNamesIsAnEquivalenceOnHostsWrongFalsely : Prop := fnUrlKeyNamesIsAnEquivalenceOnHostsRow.holds Try.pinned (OpenSpec.ofChange fnUrlKeyNamesIsAnEquivalenceOnHostsWrong)

end Rows
end Go.Proofs.Qxb6601397a

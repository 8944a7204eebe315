/-
  No cell of these rows narrows 'for every input' (looked for: loops, veiled, ifaces, maps, wideKeys, modest, calm, conditions, laid).
  DERIVED. THE GIVEN ROWS OF THIS SEAT. 2 by the template 'for every input the law returns true; each argument reads behind the call as it read before'; 0 by the template 'total and deterministic' (their statements: Qxb6003631aModsTotals.lean).
  GIVEN WITH THE SEED: the statements are not yours to turn. If you find one false, say at which input.
  Laid BY PROGRAM, IN A SANDBOX (cutbox-rows.mjs): the forced cells as the released guide's own fill.sh prints them over the translation 9c5a25ae230ee7d8… (all of the seat's roots in one cut). By AI agents, Wed Nov 11 2026. No macro, syntax, notation, axiom, sorry.
-/
import Derived.Test.Qxb6003631aModsChecked
import GoSem.Claim
import GoSem.ClaimJoined
import GoSem.ClaimMapViews
import Derived.JoinedTies
import Derived.KernelRfl
namespace Go.Proofs.Qxb6003631aMods
/- THE CELL 'sum', in the pinned program and in every row, IS THE sha256 OF THE DUMP (.gsa) THAT Qxb6003631aModsProg.lean LOADS. Nothing in Lean hashes anything: it is a label: what it is worth is what the hold of that sum in a sandbox is worth. -/
noncomputable def Trym.pinned : Pinned := { name := "qxb6003631amods", sum := "9c5a25ae230ee7d8ff62f40e7563b54bbb880d1f9d116fab15289d8852dd9819", checked := Trym.checked }
namespace Rows
def none {H : Type} : Left H := { results := [], args := [] }

/-- 'zzlaws_pkg_vrf_b1.FnCanonicalMatchesCarryModel': WHATEVER THE INPUT: true; the input reads as it did. -/
def fnCanonicalMatchesCarryModelSpec : ChangeSpec := { name := "fnCanonicalMatchesCarryModel", fn := fun _ => fun
  | [d] => { results := [.lit (.bool true)], args := [d] }
  | _ => none }
def fnCanonicalMatchesCarryModelRow : OpenClaim := { program := "qxb6003631amods", sum := "9c5a25ae230ee7d8ff62f40e7563b54bbb880d1f9d116fab15289d8852dd9819", func := "example.com/clepsydra/clepsydra/zzlaws_pkg_vrf_b1.FnCanonicalMatchesCarryModel", spec := "fnCanonicalMatchesCarryModel", make := .lifted ["publicsums"], apart := false }
def FnCanonicalMatchesCarryModelSaid : Prop := fnCanonicalMatchesCarryModelRow.holds Trym.pinned (OpenSpec.ofChange fnCanonicalMatchesCarryModelSpec)

/-- ITS FALSE NEIGHBOUR: 'it returns false'. Refute it at one input. -/
def fnCanonicalMatchesCarryModelWrong : ChangeSpec := { name := "fnCanonicalMatchesCarryModel", fn := fun _ => fun
  | [d] => { results := [.lit (.bool false)], args := [d] }
  | _ => none }
def FnCanonicalMatchesCarryModelWrongFalsely : Prop := fnCanonicalMatchesCarryModelRow.holds Trym.pinned (OpenSpec.ofChange fnCanonicalMatchesCarryModelWrong)

/-- 'zzlaws_pkg_vrf_b1.FnCanonicalReductionAndSignPair': WHATEVER THE INPUT: true; the input reads as it did. -/
def fnCanonicalReductionAndSignPairSpec : ChangeSpec := { name := "fnCanonicalReductionAndSignPair", fn := fun _ => fun
  | [d] => { results := [.lit (.bool true)], args := [d] }
  | _ => none }
def fnCanonicalReductionAndSignPairRow : OpenClaim := { program := "qxb6003631amods", sum := "9c5a25ae230ee7d8ff62f40e7563b54bbb880d1f9d116fab15289d8852dd9819", func := "example.com/clepsydra/clepsydra/zzlaws_pkg_vrf_b1.FnCanonicalReductionAndSignPair", spec := "fnCanonicalReductionAndSignPair", make := .lifted ["publicsums"], apart := false }
def FnCanonicalReductionAndSignPairSaid : Prop := fnCanonicalReductionAndSignPairRow.holds Trym.pinned (OpenSpec.ofChange fnCanonicalReductionAndSignPairSpec)

/-- ITS FALSE NEIGHBOUR: 'it returns false'. Refute it at one input. -/
def fnCanonicalReductionAndSignPairWrong : ChangeSpec := { name := "fnCanonicalReductionAndSignPair", fn := fun _ => fun
  | [d] => { results := [.lit (.bool false)], args := [d] }
  | _ => none }
def FnCanonicalReductionAndSignPairWrongFalsely : Prop := fnCanonicalReductionAndSignPairRow.holds Trym.pinned (OpenSpec.ofChange fnCanonicalReductionAndSignPairWrong)

end Rows
end Go.Proofs.Qxb6003631aMods

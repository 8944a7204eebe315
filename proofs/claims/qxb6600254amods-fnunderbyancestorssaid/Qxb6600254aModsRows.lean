/-
  No cell of these rows narrows 'for every input' (looked for: loops, veiled, ifaces, maps, wideKeys, modest, calm, conditions, laid).
  DERIVED. THE GIVEN ROWS OF THIS SEAT. 5 by the template 'for every input the law returns true; each argument reads behind the call as it read before'; 0 by the template 'total and deterministic' (their statements: Qxb6600254aModsTotals.lean).
  GIVEN WITH THE SEED: the statements are not yours to turn. If you find one false, say at which input.
  Laid BY PROGRAM, IN A SANDBOX (cutbox-rows.mjs): the forced cells as the released guide's own fill.sh prints them over the translation 782a405694280d74… (all of the seat's roots in one cut). By AI agents, Wed Nov 11 2026. No macro, syntax, notation, axiom, sorry.
-/
import Derived.Test.Qxb6600254aModsChecked
import GoSem.Claim
import GoSem.ClaimJoined
import GoSem.ClaimMapViews
import Derived.JoinedTies
import Derived.KernelRfl
namespace Go.Proofs.Qxb6600254aMods
/- THE CELL 'sum', in the pinned program and in every row, IS THE sha256 OF THE DUMP (.gsa) THAT Qxb6600254aModsProg.lean LOADS. Nothing in Lean hashes anything: it is a label: what it is worth is what the hold of that sum in a sandbox is worth. -/
noncomputable def Trym.pinned : Pinned := { name := "qxb6600254amods", sum := "782a405694280d7419f2a2f9ff74197abf47a2f47ef76b20643ac88bb13f0e53", checked := Trym.checked }
namespace Rows
def none {H : Type} : Left H := { results := [], args := [] }

/-- 'zzlaws_internal_testbed_clustertest_b1.FnQuotedShellReadsBack': WHATEVER THE INPUT: true; the input reads as it did. -/
def fnQuotedShellReadsBackSpec : ChangeSpec := { name := "fnQuotedShellReadsBack", fn := fun _ => fun
  | [d] => { results := [.lit (.bool true)], args := [d] }
  | _ => none }
def fnQuotedShellReadsBackRow : OpenClaim := { program := "qxb6600254amods", sum := "782a405694280d7419f2a2f9ff74197abf47a2f47ef76b20643ac88bb13f0e53", func := "example.com/netloom/netloom/zzlaws_internal_testbed_clustertest_b1.FnQuotedShellReadsBack", spec := "fnQuotedShellReadsBack", inPlace := ["internal/bytealg.IndexByteString", "internal/bytealg.IndexString", "internal/abi.NoEscape", "internal/bytealg.MakeNoZero"], named := ["internal/bytealg.MaxLen"], make := .lifted ["publicsums"], apart := false }
def FnQuotedShellReadsBackSaid : Prop := fnQuotedShellReadsBackRow.holds Trym.pinned (OpenSpec.ofChange fnQuotedShellReadsBackSpec)

/-- ITS FALSE NEIGHBOUR: 'it returns false'. Refute it at one input. -/
def fnQuotedShellReadsBackWrong : ChangeSpec := { name := "fnQuotedShellReadsBack", fn := fun _ => fun
  | [d] => { results := [.lit (.bool false)], args := [d] }
  | _ => none }
def FnQuotedShellReadsBackWrongFalsely : Prop := fnQuotedShellReadsBackRow.holds Trym.pinned (OpenSpec.ofChange fnQuotedShellReadsBackWrong)

/-- 'zzlaws_internal_testbed_clustertest_b1.FnQuotedJoinsLists': WHATEVER THE INPUT: true; the input reads as it did. -/
def fnQuotedJoinsListsSpec : ChangeSpec := { name := "fnQuotedJoinsLists", fn := fun _ => fun
  | [d1, d2] => { results := [.lit (.bool true)], args := [d1, d2] }
  | _ => none }
def fnQuotedJoinsListsRow : OpenClaim := { program := "qxb6600254amods", sum := "782a405694280d7419f2a2f9ff74197abf47a2f47ef76b20643ac88bb13f0e53", func := "example.com/netloom/netloom/zzlaws_internal_testbed_clustertest_b1.FnQuotedJoinsLists", spec := "fnQuotedJoinsLists", inPlace := ["internal/bytealg.IndexByteString", "internal/bytealg.IndexString", "internal/abi.NoEscape", "internal/bytealg.MakeNoZero"], named := ["internal/bytealg.MaxLen"], make := .lifted ["publicsums"], apart := false }
def FnQuotedJoinsListsSaid : Prop := fnQuotedJoinsListsRow.holds Trym.pinned (OpenSpec.ofChange fnQuotedJoinsListsSpec)

/-- ITS FALSE NEIGHBOUR: 'it returns false'. Refute it at one input. -/
def fnQuotedJoinsListsWrong : ChangeSpec := { name := "fnQuotedJoinsLists", fn := fun _ => fun
  | [d1, d2] => { results := [.lit (.bool false)], args := [d1, d2] }
  | _ => none }
def FnQuotedJoinsListsWrongFalsely : Prop := fnQuotedJoinsListsRow.holds Trym.pinned (OpenSpec.ofChange fnQuotedJoinsListsWrong)

/-- 'zzlaws_internal_testbed_clustertest_b1.FnUnderByAncestors': WHATEVER THE INPUT: true; the input reads as it did. -/
def fnUnderByAncestorsSpec : ChangeSpec := { name := "fnUnderByAncestors", fn := fun _ => fun
  | [d1, d2] => { results := [.lit (.bool true)], args := [d1, d2] }
  | _ => none }
def fnUnderByAncestorsRow : OpenClaim := { program := "qxb6600254amods", sum := "782a405694280d7419f2a2f9ff74197abf47a2f47ef76b20643ac88bb13f0e53", func := "example.com/netloom/netloom/zzlaws_internal_testbed_clustertest_b1.FnUnderByAncestors", spec := "fnUnderByAncestors", make := .lifted ["publicsums"], apart := false }
def FnUnderByAncestorsSaid : Prop := fnUnderByAncestorsRow.holds Trym.pinned (OpenSpec.ofChange fnUnderByAncestorsSpec)

/-- ITS FALSE NEIGHBOUR: 'it returns false'. Refute it at one input. -/
def fnUnderByAncestorsWrong : ChangeSpec := { name := "fnUnderByAncestors", fn := fun _ => fun
  | [d1, d2] => { results := [.lit (.bool false)], args := [d1, d2] }
  | _ => none }
def FnUnderByAncestorsWrongFalsely : Prop := fnUnderByAncestorsRow.holds Trym.pinned (OpenSpec.ofChange fnUnderByAncestorsWrong)

/-- 'zzlaws_internal_testbed_clustertest_b1.FnUnderUnion': WHATEVER THE INPUT: true; the input reads as it did. -/
def fnUnderUnionSpec : ChangeSpec := { name := "fnUnderUnion", fn := fun _ => fun
  | [d1, d2, d3] => { results := [.lit (.bool true)], args := [d1, d2, d3] }
  | _ => none }
def fnUnderUnionRow : OpenClaim := { program := "qxb6600254amods", sum := "782a405694280d7419f2a2f9ff74197abf47a2f47ef76b20643ac88bb13f0e53", func := "example.com/netloom/netloom/zzlaws_internal_testbed_clustertest_b1.FnUnderUnion", spec := "fnUnderUnion", make := .lifted ["publicsums"], apart := false }
def FnUnderUnionSaid : Prop := fnUnderUnionRow.holds Trym.pinned (OpenSpec.ofChange fnUnderUnionSpec)

/-- ITS FALSE NEIGHBOUR: 'it returns false'. Refute it at one input. -/
def fnUnderUnionWrong : ChangeSpec := { name := "fnUnderUnion", fn := fun _ => fun
  | [d1, d2, d3] => { results := [.lit (.bool false)], args := [d1, d2, d3] }
  | _ => none }
def FnUnderUnionWrongFalsely : Prop := fnUnderUnionRow.holds Trym.pinned (OpenSpec.ofChange fnUnderUnionWrong)

/-- 'zzlaws_internal_testbed_clustertest_b1.FnUnderTransitive': WHATEVER THE INPUT: true; the input reads as it did. -/
def fnUnderTransitiveSpec : ChangeSpec := { name := "fnUnderTransitive", fn := fun _ => fun
  | [d1, d2, d3] => { results := [.lit (.bool true)], args := [d1, d2, d3] }
  | _ => none }
def fnUnderTransitiveRow : OpenClaim := { program := "qxb6600254amods", sum := "782a405694280d7419f2a2f9ff74197abf47a2f47ef76b20643ac88bb13f0e53", func := "example.com/netloom/netloom/zzlaws_internal_testbed_clustertest_b1.FnUnderTransitive", spec := "fnUnderTransitive", make := .lifted ["publicsums"], apart := false }
def FnUnderTransitiveSaid : Prop := fnUnderTransitiveRow.holds Trym.pinned (OpenSpec.ofChange fnUnderTransitiveSpec)

/-- ITS FALSE NEIGHBOUR: 'it returns false'. Refute it at one input. -/
def fnUnderTransitiveWrong : ChangeSpec := { name := "fnUnderTransitive", fn := fun _ => fun
  | [d1, d2, d3] => { results := [.lit (.bool false)], args := [d1, d2, d3] }
  | _ => none }
def FnUnderTransitiveWrongFalsely : Prop := fnUnderTransitiveRow.holds Trym.pinned (OpenSpec.ofChange fnUnderTransitiveWrong)

end Rows
end Go.Proofs.Qxb6600254aMods

/-
  No cell of these rows narrows 'for every input' (looked for: loops, veiled, ifaces, maps, wideKeys, modest, calm, conditions, laid).
  DERIVED. THE GIVEN ROWS OF THIS SEAT. 2 by the template 'for every input the law returns true; each argument reads behind the call as it read before'; 0 by the template 'total and deterministic' (their statements: Qxb6001278aModsTotals.lean).
  GIVEN WITH THE SEED: the statements are not yours to turn. If you find one false, say at which input.
  Laid BY PROGRAM, IN A SANDBOX (cutbox-rows.mjs): the forced cells as the released guide's own fill.sh prints them over the translation 69077500a24b1dec… (all of the seat's roots in one cut). By AI agents, Wed Nov 11 2026. No macro, syntax, notation, axiom, sorry.
-/
import Derived.Test.Qxb6001278aModsChecked
import GoSem.Claim
import GoSem.ClaimJoined
import GoSem.ClaimMapViews
import Derived.JoinedTies
import Derived.KernelRfl
namespace Go.Proofs.Qxb6001278aMods
/- THE CELL 'sum', in the pinned program and in every row, IS THE sha256 OF THE DUMP (.gsa) THAT Qxb6001278aModsProg.lean LOADS. Nothing in Lean hashes anything: it is a label: what it is worth is what the hold of that sum in a sandbox is worth. -/
noncomputable def Trym.pinned : Pinned := { name := "qxb6001278amods", sum := "69077500a24b1decf502a45573eb886709df40b897b825954bbdbebd7a1fc77a", checked := Trym.checked }
namespace Rows
def none {H : Type} : Left H := { results := [], args := [] }

/-- 'zzlaws_internal_filter_b1.FnRaterGroupCountsTrailingSecond': WHATEVER THE INPUT: true; the input reads as it did. -/
def fnRaterGroupCountsTrailingSecondSpec : ChangeSpec := { name := "fnRaterGroupCountsTrailingSecond", fn := fun _ => fun
  | [d1, d2] => { results := [.lit (.bool true)], args := [d1, d2] }
  | _ => none }
def fnRaterGroupCountsTrailingSecondRow : OpenClaim := { program := "qxb6001278amods", sum := "69077500a24b1decf502a45573eb886709df40b897b825954bbdbebd7a1fc77a", func := "example.com/breakwater/breakwater/zzlaws_internal_filter_b1.FnRaterGroupCountsTrailingSecond", spec := "fnRaterGroupCountsTrailingSecond", make := .lifted ["publicsums"], apart := false }
def FnRaterGroupCountsTrailingSecondSaid : Prop := fnRaterGroupCountsTrailingSecondRow.holds Trym.pinned (OpenSpec.ofChange fnRaterGroupCountsTrailingSecondSpec)

/-- ITS FALSE NEIGHBOUR: 'it returns false'. Refute it at one input. -/
def fnRaterGroupCountsTrailingSecondWrong : ChangeSpec := { name := "fnRaterGroupCountsTrailingSecond", fn := fun _ => fun
  | [d1, d2] => { results := [.lit (.bool false)], args := [d1, d2] }
  | _ => none }
def FnRaterGroupCountsTrailingSecondWrongFalsely : Prop := fnRaterGroupCountsTrailingSecondRow.holds Trym.pinned (OpenSpec.ofChange fnRaterGroupCountsTrailingSecondWrong)

/-- 'zzlaws_internal_filter_b1.FnRaterGroupOrderFree': WHATEVER THE INPUT: true; the input reads as it did. -/
def fnRaterGroupOrderFreeSpec : ChangeSpec := { name := "fnRaterGroupOrderFree", fn := fun _ => fun
  | [d1, d2] => { results := [.lit (.bool true)], args := [d1, d2] }
  | _ => none }
def fnRaterGroupOrderFreeRow : OpenClaim := { program := "qxb6001278amods", sum := "69077500a24b1decf502a45573eb886709df40b897b825954bbdbebd7a1fc77a", func := "example.com/breakwater/breakwater/zzlaws_internal_filter_b1.FnRaterGroupOrderFree", spec := "fnRaterGroupOrderFree", make := .lifted ["publicsums"], apart := false }
def FnRaterGroupOrderFreeSaid : Prop := fnRaterGroupOrderFreeRow.holds Trym.pinned (OpenSpec.ofChange fnRaterGroupOrderFreeSpec)

/-- ITS FALSE NEIGHBOUR: 'it returns false'. Refute it at one input. -/
def fnRaterGroupOrderFreeWrong : ChangeSpec := { name := "fnRaterGroupOrderFree", fn := fun _ => fun
  | [d1, d2] => { results := [.lit (.bool false)], args := [d1, d2] }
  | _ => none }
def FnRaterGroupOrderFreeWrongFalsely : Prop := fnRaterGroupOrderFreeRow.holds Trym.pinned (OpenSpec.ofChange fnRaterGroupOrderFreeWrong)

end Rows
end Go.Proofs.Qxb6001278aMods

/-
  No cell of these rows narrows 'for every input' (looked for: loops, veiled, ifaces, maps, wideKeys, modest, calm, conditions, laid).
  DERIVED. THE GIVEN ROWS OF THIS SEAT. 6 by the template 'for every input the law returns true; each argument reads behind the call as it read before'; 0 by the template 'total and deterministic' (their statements: Qxb6601538aTotals.lean).
  GIVEN WITH THE SEED: the statements are not yours to turn. If you find one false, say at which input.
  Laid BY PROGRAM, IN A SANDBOX (cutbox-rows.mjs): the forced cells as the released guide's own fill.sh prints them over the translation 0099d68f78ec67ad… (all of the seat's roots in one cut). By AI agents, Wed Nov 11 2026. No macro, syntax, notation, axiom, sorry.
-/
import Derived.Test.Qxb6601538aChecked
import GoSem.Claim
import GoSem.ClaimJoined
import GoSem.ClaimMapViews
import Derived.JoinedTies
import Derived.KernelRfl
namespace Go.Proofs.Qxb6601538a
/- THE CELL 'sum', in the pinned program and in every row, IS THE sha256 OF THE DUMP (.gsa) THAT Qxb6601538aProg.lean LOADS. Nothing in Lean hashes anything: it is a label: what it is worth is what the hold of that sum in a sandbox is worth. -/
noncomputable def Try.pinned : Pinned := { name := "qxb6601538a", sum := "0099d68f78ec67ad3b480a0a0ce9393ae18866e7d764da13feeb2eb74797c888", checked := Try.checked }
namespace Rows
def none {H : Type} : Left H := { results := [], args := [] }

/-- 'zzlaws_bench_b1.FnLatencyBoundsExact': WHATEVER THE INPUT: true; the input reads as it did. -/
def fnLatencyBoundsExactSpec : ChangeSpec := { name := "fnLatencyBoundsExact", fn := fun _ => fun
  | [d1, d2] => { results := [.lit (.bool true)], args := [d1, d2] }
  | _ => none }
def fnLatencyBoundsExactRow : OpenClaim := { program := "qxb6601538a", sum := "0099d68f78ec67ad3b480a0a0ce9393ae18866e7d764da13feeb2eb74797c888", func := "example.com/sole-tenant/sole-tenant/zzlaws_bench_b1.FnLatencyBoundsExact", spec := "fnLatencyBoundsExact", apart := false }
def FnLatencyBoundsExactSaid : Prop := fnLatencyBoundsExactRow.holds Try.pinned (OpenSpec.ofChange fnLatencyBoundsExactSpec)

/-- ITS FALSE NEIGHBOUR: 'it returns false'. Refute it at one input. -/
def fnLatencyBoundsExactWrong : ChangeSpec := { name := "fnLatencyBoundsExact", fn := fun _ => fun
  | [d1, d2] => { results := [.lit (.bool false)], args := [d1, d2] }
  | _ => none }
def FnLatencyBoundsExactWrongFalsely : Prop := fnLatencyBoundsExactRow.holds Try.pinned (OpenSpec.ofChange fnLatencyBoundsExactWrong)

/-- 'zzlaws_bench_b1.FnLatencyBoundsTileAndPrecision': WHATEVER THE INPUT: true; the input reads as it did. -/
def fnLatencyBoundsTileAndPrecisionSpec : ChangeSpec := { name := "fnLatencyBoundsTileAndPrecision", fn := fun _ => fun
  | [d1, d2] => { results := [.lit (.bool true)], args := [d1, d2] }
  | _ => none }
def fnLatencyBoundsTileAndPrecisionRow : OpenClaim := { program := "qxb6601538a", sum := "0099d68f78ec67ad3b480a0a0ce9393ae18866e7d764da13feeb2eb74797c888", func := "example.com/sole-tenant/sole-tenant/zzlaws_bench_b1.FnLatencyBoundsTileAndPrecision", spec := "fnLatencyBoundsTileAndPrecision", apart := false }
def FnLatencyBoundsTileAndPrecisionSaid : Prop := fnLatencyBoundsTileAndPrecisionRow.holds Try.pinned (OpenSpec.ofChange fnLatencyBoundsTileAndPrecisionSpec)

/-- ITS FALSE NEIGHBOUR: 'it returns false'. Refute it at one input. -/
def fnLatencyBoundsTileAndPrecisionWrong : ChangeSpec := { name := "fnLatencyBoundsTileAndPrecision", fn := fun _ => fun
  | [d1, d2] => { results := [.lit (.bool false)], args := [d1, d2] }
  | _ => none }
def FnLatencyBoundsTileAndPrecisionWrongFalsely : Prop := fnLatencyBoundsTileAndPrecisionRow.holds Try.pinned (OpenSpec.ofChange fnLatencyBoundsTileAndPrecisionWrong)

/-- 'zzlaws_bench_b1.FnLeaseNamesDistinct': WHATEVER THE INPUT: true; the input reads as it did. -/
def fnLeaseNamesDistinctSpec : ChangeSpec := { name := "fnLeaseNamesDistinct", fn := fun _ => fun
  | [d1, d2, d3, d4, d5, d6, d7] => { results := [.lit (.bool true)], args := [d1, d2, d3, d4, d5, d6, d7] }
  | _ => none }
def fnLeaseNamesDistinctRow : OpenClaim := { program := "qxb6601538a", sum := "0099d68f78ec67ad3b480a0a0ce9393ae18866e7d764da13feeb2eb74797c888", func := "example.com/sole-tenant/sole-tenant/zzlaws_bench_b1.FnLeaseNamesDistinct", spec := "fnLeaseNamesDistinct", apart := false }
def FnLeaseNamesDistinctSaid : Prop := fnLeaseNamesDistinctRow.holds Try.pinned (OpenSpec.ofChange fnLeaseNamesDistinctSpec)

/-- ITS FALSE NEIGHBOUR: 'it returns false'. Refute it at one input. -/
def fnLeaseNamesDistinctWrong : ChangeSpec := { name := "fnLeaseNamesDistinct", fn := fun _ => fun
  | [d1, d2, d3, d4, d5, d6, d7] => { results := [.lit (.bool false)], args := [d1, d2, d3, d4, d5, d6, d7] }
  | _ => none }
def FnLeaseNamesDistinctWrongFalsely : Prop := fnLeaseNamesDistinctRow.holds Try.pinned (OpenSpec.ofChange fnLeaseNamesDistinctWrong)

/-- 'zzlaws_bench_b1.FnLatenciesAddExact': WHATEVER THE INPUT: true; the input reads as it did. -/
def fnLatenciesAddExactSpec : ChangeSpec := { name := "fnLatenciesAddExact", fn := fun _ => fun
  | [d1, d2, d3, d4] => { results := [.lit (.bool true)], args := [d1, d2, d3, d4] }
  | _ => none }
def fnLatenciesAddExactRow : OpenClaim := { program := "qxb6601538a", sum := "0099d68f78ec67ad3b480a0a0ce9393ae18866e7d764da13feeb2eb74797c888", func := "example.com/sole-tenant/sole-tenant/zzlaws_bench_b1.FnLatenciesAddExact", spec := "fnLatenciesAddExact", apart := false }
def FnLatenciesAddExactSaid : Prop := fnLatenciesAddExactRow.holds Try.pinned (OpenSpec.ofChange fnLatenciesAddExactSpec)

/-- ITS FALSE NEIGHBOUR: 'it returns false'. Refute it at one input. -/
def fnLatenciesAddExactWrong : ChangeSpec := { name := "fnLatenciesAddExact", fn := fun _ => fun
  | [d1, d2, d3, d4] => { results := [.lit (.bool false)], args := [d1, d2, d3, d4] }
  | _ => none }
def FnLatenciesAddExactWrongFalsely : Prop := fnLatenciesAddExactRow.holds Try.pinned (OpenSpec.ofChange fnLatenciesAddExactWrong)

/-- 'zzlaws_bench_b1.FnLatenciesAddCommutes': WHATEVER THE INPUT: true; the input reads as it did. -/
def fnLatenciesAddCommutesSpec : ChangeSpec := { name := "fnLatenciesAddCommutes", fn := fun _ => fun
  | [d1, d2, d3, d4] => { results := [.lit (.bool true)], args := [d1, d2, d3, d4] }
  | _ => none }
def fnLatenciesAddCommutesRow : OpenClaim := { program := "qxb6601538a", sum := "0099d68f78ec67ad3b480a0a0ce9393ae18866e7d764da13feeb2eb74797c888", func := "example.com/sole-tenant/sole-tenant/zzlaws_bench_b1.FnLatenciesAddCommutes", spec := "fnLatenciesAddCommutes", apart := false }
def FnLatenciesAddCommutesSaid : Prop := fnLatenciesAddCommutesRow.holds Try.pinned (OpenSpec.ofChange fnLatenciesAddCommutesSpec)

/-- ITS FALSE NEIGHBOUR: 'it returns false'. Refute it at one input. -/
def fnLatenciesAddCommutesWrong : ChangeSpec := { name := "fnLatenciesAddCommutes", fn := fun _ => fun
  | [d1, d2, d3, d4] => { results := [.lit (.bool false)], args := [d1, d2, d3, d4] }
  | _ => none }
def FnLatenciesAddCommutesWrongFalsely : Prop := fnLatenciesAddCommutesRow.holds Try.pinned (OpenSpec.ofChange fnLatenciesAddCommutesWrong)

/-- 'zzlaws_bench_b1.FnLatenciesAddKeepsCountSum': WHATEVER THE INPUT: true; the input reads as it did. -/
def fnLatenciesAddKeepsCountSumSpec : ChangeSpec := { name := "fnLatenciesAddKeepsCountSum", fn := fun _ => fun
  | [d1, d2, d3, d4] => { results := [.lit (.bool true)], args := [d1, d2, d3, d4] }
  | _ => none }
def fnLatenciesAddKeepsCountSumRow : OpenClaim := { program := "qxb6601538a", sum := "0099d68f78ec67ad3b480a0a0ce9393ae18866e7d764da13feeb2eb74797c888", func := "example.com/sole-tenant/sole-tenant/zzlaws_bench_b1.FnLatenciesAddKeepsCountSum", spec := "fnLatenciesAddKeepsCountSum", apart := false }
def FnLatenciesAddKeepsCountSumSaid : Prop := fnLatenciesAddKeepsCountSumRow.holds Try.pinned (OpenSpec.ofChange fnLatenciesAddKeepsCountSumSpec)

/-- ITS FALSE NEIGHBOUR: 'it returns false'. Refute it at one input. -/
def fnLatenciesAddKeepsCountSumWrong : ChangeSpec := { name := "fnLatenciesAddKeepsCountSum", fn := fun _ => fun
  | [d1, d2, d3, d4] => { results := [.lit (.bool false)], args := [d1, d2, d3, d4] }
  | _ => none }
def FnLatenciesAddKeepsCountSumWrongFalsely : Prop := fnLatenciesAddKeepsCountSumRow.holds Try.pinned (OpenSpec.ofChange fnLatenciesAddKeepsCountSumWrong)

end Rows
end Go.Proofs.Qxb6601538a

/-
  No cell of these rows narrows 'for every input' (looked for: loops, veiled, ifaces, maps, wideKeys, modest, calm, conditions, laid).
  DERIVED. THE GIVEN ROWS OF THIS SEAT. 7 by the template 'for every input the law returns true; each argument reads behind the call as it read before'; 0 by the template 'total and deterministic' (their statements: YtjcaibhodplojaaTotals.lean).
  GIVEN WITH THE SEED: the statements are not yours to turn. If you find one false, say at which input.
  Laid BY PROGRAM, IN A SANDBOX (cutbox-rows.mjs): the forced cells as the released guide's own fill.sh prints them over the translation d3f872b535f1b2de… (all of the seat's roots in one cut). By AI agents, Wed Nov 11 2026. No macro, syntax, notation, axiom, sorry.
-/
import Derived.Test.YtjcaibhodplojaaChecked
import GoSem.Claim
import GoSem.ClaimJoined
import GoSem.ClaimMapViews
import Derived.JoinedTies
import Derived.KernelRfl
namespace Go.Proofs.Ytjcaibhodplojaa
/- THE CELL 'sum', in the pinned program and in every row, IS THE sha256 OF THE DUMP (.gsa) THAT YtjcaibhodplojaaProg.lean LOADS. Nothing in Lean hashes anything: it is a label: what it is worth is what the hold of that sum in a sandbox is worth. -/
noncomputable def Try.pinned : Pinned := { name := "ytjcaibhodplojaa", sum := "d3f872b535f1b2de0898d3eac6fc796ab44ae1ea440f39f9970f642539b9f3fb", checked := Try.checked }
namespace Rows
def none {H : Type} : Left H := { results := [], args := [] }

/-- 'laws.FnYCbCrNew': WHATEVER THE INPUT: true; the input reads as it did. -/
def fnYCbCrNewSpec : ChangeSpec := { name := "fnYCbCrNew", fn := fun _ => fun
  | [d1, d2] => { results := [.lit (.bool true)], args := [d1, d2] }
  | _ => none }
def fnYCbCrNewRow : OpenClaim := { program := "ytjcaibhodplojaa", sum := "d3f872b535f1b2de0898d3eac6fc796ab44ae1ea440f39f9970f642539b9f3fb", func := "loop.example/lib-g01196/laws.FnYCbCrNew", spec := "fnYCbCrNew", apart := false }
def FnYCbCrNewSaid : Prop := fnYCbCrNewRow.holds Try.pinned (OpenSpec.ofChange fnYCbCrNewSpec)

/-- ITS FALSE NEIGHBOUR: 'it returns false'. Refute it at one input. -/
def fnYCbCrNewWrong : ChangeSpec := { name := "fnYCbCrNew", fn := fun _ => fun
  | [d1, d2] => { results := [.lit (.bool false)], args := [d1, d2] }
  | _ => none }
def FnYCbCrNewWrongFalsely : Prop := fnYCbCrNewRow.holds Try.pinned (OpenSpec.ofChange fnYCbCrNewWrong)

/-- 'laws.FnYCbCrNewBounds': WHATEVER THE INPUT: true; the input reads as it did. -/
def fnYCbCrNewBoundsSpec : ChangeSpec := { name := "fnYCbCrNewBounds", fn := fun _ => fun
  | [d1, d2] => { results := [.lit (.bool true)], args := [d1, d2] }
  | _ => none }
def fnYCbCrNewBoundsRow : OpenClaim := { program := "ytjcaibhodplojaa", sum := "d3f872b535f1b2de0898d3eac6fc796ab44ae1ea440f39f9970f642539b9f3fb", func := "loop.example/lib-g01196/laws.FnYCbCrNewBounds", spec := "fnYCbCrNewBounds", apart := false }
def FnYCbCrNewBoundsSaid : Prop := fnYCbCrNewBoundsRow.holds Try.pinned (OpenSpec.ofChange fnYCbCrNewBoundsSpec)

/-- ITS FALSE NEIGHBOUR: 'it returns false'. Refute it at one input. -/
def fnYCbCrNewBoundsWrong : ChangeSpec := { name := "fnYCbCrNewBounds", fn := fun _ => fun
  | [d1, d2] => { results := [.lit (.bool false)], args := [d1, d2] }
  | _ => none }
def FnYCbCrNewBoundsWrongFalsely : Prop := fnYCbCrNewBoundsRow.holds Try.pinned (OpenSpec.ofChange fnYCbCrNewBoundsWrong)

/-- 'laws.FnYCbCrOpaque': WHATEVER THE INPUT: true; the input reads as it did. -/
def fnYCbCrOpaqueSpec : ChangeSpec := { name := "fnYCbCrOpaque", fn := fun _ => fun
  | [d1, d2] => { results := [.lit (.bool true)], args := [d1, d2] }
  | _ => none }
def fnYCbCrOpaqueRow : OpenClaim := { program := "ytjcaibhodplojaa", sum := "d3f872b535f1b2de0898d3eac6fc796ab44ae1ea440f39f9970f642539b9f3fb", func := "loop.example/lib-g01196/laws.FnYCbCrOpaque", spec := "fnYCbCrOpaque", apart := false }
def FnYCbCrOpaqueSaid : Prop := fnYCbCrOpaqueRow.holds Try.pinned (OpenSpec.ofChange fnYCbCrOpaqueSpec)

/-- ITS FALSE NEIGHBOUR: 'it returns false'. Refute it at one input. -/
def fnYCbCrOpaqueWrong : ChangeSpec := { name := "fnYCbCrOpaque", fn := fun _ => fun
  | [d1, d2] => { results := [.lit (.bool false)], args := [d1, d2] }
  | _ => none }
def FnYCbCrOpaqueWrongFalsely : Prop := fnYCbCrOpaqueRow.holds Try.pinned (OpenSpec.ofChange fnYCbCrOpaqueWrong)

/-- 'laws.FnYCbCrYOffset': WHATEVER THE INPUT: true; the input reads as it did. -/
def fnYCbCrYOffsetSpec : ChangeSpec := { name := "fnYCbCrYOffset", fn := fun _ => fun
  | [d1, d2, d3, d4, d5, d6] => { results := [.lit (.bool true)], args := [d1, d2, d3, d4, d5, d6] }
  | _ => none }
def fnYCbCrYOffsetRow : OpenClaim := { program := "ytjcaibhodplojaa", sum := "d3f872b535f1b2de0898d3eac6fc796ab44ae1ea440f39f9970f642539b9f3fb", func := "loop.example/lib-g01196/laws.FnYCbCrYOffset", spec := "fnYCbCrYOffset", apart := false }
def FnYCbCrYOffsetSaid : Prop := fnYCbCrYOffsetRow.holds Try.pinned (OpenSpec.ofChange fnYCbCrYOffsetSpec)

/-- ITS FALSE NEIGHBOUR: 'it returns false'. Refute it at one input. -/
def fnYCbCrYOffsetWrong : ChangeSpec := { name := "fnYCbCrYOffset", fn := fun _ => fun
  | [d1, d2, d3, d4, d5, d6] => { results := [.lit (.bool false)], args := [d1, d2, d3, d4, d5, d6] }
  | _ => none }
def FnYCbCrYOffsetWrongFalsely : Prop := fnYCbCrYOffsetRow.holds Try.pinned (OpenSpec.ofChange fnYCbCrYOffsetWrong)

/-- 'laws.FnYCbCrCOffset': WHATEVER THE INPUT: true; the input reads as it did. -/
def fnYCbCrCOffsetSpec : ChangeSpec := { name := "fnYCbCrCOffset", fn := fun _ => fun
  | [d1, d2, d3, d4, d5, d6] => { results := [.lit (.bool true)], args := [d1, d2, d3, d4, d5, d6] }
  | _ => none }
def fnYCbCrCOffsetRow : OpenClaim := { program := "ytjcaibhodplojaa", sum := "d3f872b535f1b2de0898d3eac6fc796ab44ae1ea440f39f9970f642539b9f3fb", func := "loop.example/lib-g01196/laws.FnYCbCrCOffset", spec := "fnYCbCrCOffset", apart := false }
def FnYCbCrCOffsetSaid : Prop := fnYCbCrCOffsetRow.holds Try.pinned (OpenSpec.ofChange fnYCbCrCOffsetSpec)

/-- ITS FALSE NEIGHBOUR: 'it returns false'. Refute it at one input. -/
def fnYCbCrCOffsetWrong : ChangeSpec := { name := "fnYCbCrCOffset", fn := fun _ => fun
  | [d1, d2, d3, d4, d5, d6] => { results := [.lit (.bool false)], args := [d1, d2, d3, d4, d5, d6] }
  | _ => none }
def FnYCbCrCOffsetWrongFalsely : Prop := fnYCbCrCOffsetRow.holds Try.pinned (OpenSpec.ofChange fnYCbCrCOffsetWrong)

/-- 'laws.FnYCbCrOffsetInside': WHATEVER THE INPUT: true; the input reads as it did. -/
def fnYCbCrOffsetInsideSpec : ChangeSpec := { name := "fnYCbCrOffsetInside", fn := fun _ => fun
  | [d1, d2, d3, d4] => { results := [.lit (.bool true)], args := [d1, d2, d3, d4] }
  | _ => none }
def fnYCbCrOffsetInsideRow : OpenClaim := { program := "ytjcaibhodplojaa", sum := "d3f872b535f1b2de0898d3eac6fc796ab44ae1ea440f39f9970f642539b9f3fb", func := "loop.example/lib-g01196/laws.FnYCbCrOffsetInside", spec := "fnYCbCrOffsetInside", apart := false }
def FnYCbCrOffsetInsideSaid : Prop := fnYCbCrOffsetInsideRow.holds Try.pinned (OpenSpec.ofChange fnYCbCrOffsetInsideSpec)

/-- ITS FALSE NEIGHBOUR: 'it returns false'. Refute it at one input. -/
def fnYCbCrOffsetInsideWrong : ChangeSpec := { name := "fnYCbCrOffsetInside", fn := fun _ => fun
  | [d1, d2, d3, d4] => { results := [.lit (.bool false)], args := [d1, d2, d3, d4] }
  | _ => none }
def FnYCbCrOffsetInsideWrongFalsely : Prop := fnYCbCrOffsetInsideRow.holds Try.pinned (OpenSpec.ofChange fnYCbCrOffsetInsideWrong)

/-- 'laws.FnYCbCrStrides': WHATEVER THE INPUT: true; the input reads as it did. -/
def fnYCbCrStridesSpec : ChangeSpec := { name := "fnYCbCrStrides", fn := fun _ => fun
  | [d1, d2, d3, d4] => { results := [.lit (.bool true)], args := [d1, d2, d3, d4] }
  | _ => none }
def fnYCbCrStridesRow : OpenClaim := { program := "ytjcaibhodplojaa", sum := "d3f872b535f1b2de0898d3eac6fc796ab44ae1ea440f39f9970f642539b9f3fb", func := "loop.example/lib-g01196/laws.FnYCbCrStrides", spec := "fnYCbCrStrides", apart := false }
def FnYCbCrStridesSaid : Prop := fnYCbCrStridesRow.holds Try.pinned (OpenSpec.ofChange fnYCbCrStridesSpec)

/-- ITS FALSE NEIGHBOUR: 'it returns false'. Refute it at one input. -/
def fnYCbCrStridesWrong : ChangeSpec := { name := "fnYCbCrStrides", fn := fun _ => fun
  | [d1, d2, d3, d4] => { results := [.lit (.bool false)], args := [d1, d2, d3, d4] }
  | _ => none }
def FnYCbCrStridesWrongFalsely : Prop := fnYCbCrStridesRow.holds Try.pinned (OpenSpec.ofChange fnYCbCrStridesWrong)

/- THE SECOND FORM. 'bulk': how many values and letters a reading holds, each counted each time it is reached (what is shared counts as often as it is met; a slice's spare places count too). A statement '..UptoSaid' is the law's where the arguments, and the package variables that the reading takes, are together of bulk at most 1048576: NARROWER than '..Said'. Prove '..Said' where nothing that the law and all that it calls make is longer than what came in: it says more and counts as full. Else prove '..UptoSaid'. A law counts once. -/
mutual
def uptoBulk {H : Type} : DataW H → Nat
  | .lit (.string bytes) => bytes.length + 1
  | .lit _ => 1
  | .nil => 1
  | .ptr d => uptoBulk d + 1
  | .slice elems spare => uptoBulkAll elems + uptoBulkAll spare + 1
  | .agg parts => uptoBulkAll parts + 1
  | .iface _ d => uptoBulk d + 1
  | .map entries => uptoBulkEntries entries + 1
  | .held _ => 1
def uptoBulkAll {H : Type} : List (DataW H) → Nat
  | [] => 0
  | d :: r => uptoBulk d + uptoBulkAll r
def uptoBulkEntries {H : Type} : List (Lit × DataW H) → Nat
  | [] => 0
  | x :: r => uptoBulkEntry x + uptoBulkEntries r
def uptoBulkEntry {H : Type} : Lit × DataW H → Nat
  | (.string bytes, d) => bytes.length + uptoBulk d + 1
  | (_, d) => uptoBulk d + 1
 end
def uptoSmall : (H : Type) → List (DataW H) → Bool := fun _ ds => decide (uptoBulkAll ds ≤ 1048576)
def OpenSpec.upto (s : _root_.Go.ChangeSpec) : _root_.Go.OpenSpec := { _root_.Go.OpenSpec.ofChange s with cond := some uptoSmall }

/-- 'laws.FnYCbCrNew', WHERE WHAT IT READS IS OF BULK AT MOST 1048576: true; the input reads as it did. -/
def fnYCbCrNewUptoRow : OpenClaim := { program := "ytjcaibhodplojaa", sum := "d3f872b535f1b2de0898d3eac6fc796ab44ae1ea440f39f9970f642539b9f3fb", func := "loop.example/lib-g01196/laws.FnYCbCrNew", spec := "fnYCbCrNew", apart := false, narrowed := true }
def FnYCbCrNewUptoSaid : Prop := fnYCbCrNewUptoRow.holds Try.pinned (OpenSpec.upto fnYCbCrNewSpec)

/-- 'laws.FnYCbCrNewBounds', WHERE WHAT IT READS IS OF BULK AT MOST 1048576: true; the input reads as it did. -/
def fnYCbCrNewBoundsUptoRow : OpenClaim := { program := "ytjcaibhodplojaa", sum := "d3f872b535f1b2de0898d3eac6fc796ab44ae1ea440f39f9970f642539b9f3fb", func := "loop.example/lib-g01196/laws.FnYCbCrNewBounds", spec := "fnYCbCrNewBounds", apart := false, narrowed := true }
def FnYCbCrNewBoundsUptoSaid : Prop := fnYCbCrNewBoundsUptoRow.holds Try.pinned (OpenSpec.upto fnYCbCrNewBoundsSpec)

/-- 'laws.FnYCbCrOpaque', WHERE WHAT IT READS IS OF BULK AT MOST 1048576: true; the input reads as it did. -/
def fnYCbCrOpaqueUptoRow : OpenClaim := { program := "ytjcaibhodplojaa", sum := "d3f872b535f1b2de0898d3eac6fc796ab44ae1ea440f39f9970f642539b9f3fb", func := "loop.example/lib-g01196/laws.FnYCbCrOpaque", spec := "fnYCbCrOpaque", apart := false, narrowed := true }
def FnYCbCrOpaqueUptoSaid : Prop := fnYCbCrOpaqueUptoRow.holds Try.pinned (OpenSpec.upto fnYCbCrOpaqueSpec)

/-- 'laws.FnYCbCrYOffset', WHERE WHAT IT READS IS OF BULK AT MOST 1048576: true; the input reads as it did. -/
def fnYCbCrYOffsetUptoRow : OpenClaim := { program := "ytjcaibhodplojaa", sum := "d3f872b535f1b2de0898d3eac6fc796ab44ae1ea440f39f9970f642539b9f3fb", func := "loop.example/lib-g01196/laws.FnYCbCrYOffset", spec := "fnYCbCrYOffset", apart := false, narrowed := true }
def FnYCbCrYOffsetUptoSaid : Prop := fnYCbCrYOffsetUptoRow.holds Try.pinned (OpenSpec.upto fnYCbCrYOffsetSpec)

/-- 'laws.FnYCbCrCOffset', WHERE WHAT IT READS IS OF BULK AT MOST 1048576: true; the input reads as it did. -/
def fnYCbCrCOffsetUptoRow : OpenClaim := { program := "ytjcaibhodplojaa", sum := "d3f872b535f1b2de0898d3eac6fc796ab44ae1ea440f39f9970f642539b9f3fb", func := "loop.example/lib-g01196/laws.FnYCbCrCOffset", spec := "fnYCbCrCOffset", apart := false, narrowed := true }
def FnYCbCrCOffsetUptoSaid : Prop := fnYCbCrCOffsetUptoRow.holds Try.pinned (OpenSpec.upto fnYCbCrCOffsetSpec)

/-- 'laws.FnYCbCrOffsetInside', WHERE WHAT IT READS IS OF BULK AT MOST 1048576: true; the input reads as it did. -/
def fnYCbCrOffsetInsideUptoRow : OpenClaim := { program := "ytjcaibhodplojaa", sum := "d3f872b535f1b2de0898d3eac6fc796ab44ae1ea440f39f9970f642539b9f3fb", func := "loop.example/lib-g01196/laws.FnYCbCrOffsetInside", spec := "fnYCbCrOffsetInside", apart := false, narrowed := true }
def FnYCbCrOffsetInsideUptoSaid : Prop := fnYCbCrOffsetInsideUptoRow.holds Try.pinned (OpenSpec.upto fnYCbCrOffsetInsideSpec)

/-- 'laws.FnYCbCrStrides', WHERE WHAT IT READS IS OF BULK AT MOST 1048576: true; the input reads as it did. -/
def fnYCbCrStridesUptoRow : OpenClaim := { program := "ytjcaibhodplojaa", sum := "d3f872b535f1b2de0898d3eac6fc796ab44ae1ea440f39f9970f642539b9f3fb", func := "loop.example/lib-g01196/laws.FnYCbCrStrides", spec := "fnYCbCrStrides", apart := false, narrowed := true }
def FnYCbCrStridesUptoSaid : Prop := fnYCbCrStridesUptoRow.holds Try.pinned (OpenSpec.upto fnYCbCrStridesSpec)

end Rows
end Go.Proofs.Ytjcaibhodplojaa

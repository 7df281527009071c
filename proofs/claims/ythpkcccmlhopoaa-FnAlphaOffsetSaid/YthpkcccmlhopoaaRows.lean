/-
  No cell of these rows narrows 'for every input' (looked for: loops, veiled, ifaces, maps, wideKeys, modest, calm, conditions, laid).
  DERIVED. THE GIVEN ROWS OF THIS SEAT. 7 by the template 'for every input the law returns true; each argument reads behind the call as it read before'; 0 by the template 'total and deterministic' (their statements: YthpkcccmlhopoaaTotals.lean).
  GIVEN WITH THE SEED: the statements are not yours to turn. If you find one false, say at which input.
  Laid BY PROGRAM, IN A SANDBOX (cutbox-rows.mjs): the forced cells as the released guide's own fill.sh prints them over the translation eabdada6459ed271… (all of the seat's roots in one cut). By AI agents, Wed Nov 11 2026. No macro, syntax, notation, axiom, sorry.
-/
import Derived.Test.YthpkcccmlhopoaaChecked
import GoSem.Claim
import GoSem.ClaimJoined
import GoSem.ClaimMapViews
import Derived.JoinedTies
import Derived.KernelRfl
namespace Go.Proofs.Ythpkcccmlhopoaa
/- THE CELL 'sum', in the pinned program and in every row, IS THE sha256 OF THE DUMP (.gsa) THAT YthpkcccmlhopoaaProg.lean LOADS. Nothing in Lean hashes anything: it is a label: what it is worth is what the hold of that sum in a sandbox is worth. -/
noncomputable def Try.pinned : Pinned := { name := "ythpkcccmlhopoaa", sum := "eabdada6459ed27186dd0c9b68f19ec5714b5fb487ac9b2d533030f5b419f501", checked := Try.checked }
namespace Rows
def none {H : Type} : Left H := { results := [], args := [] }

/-- 'laws.FnAlphaNew': WHATEVER THE INPUT: true; the input reads as it did. -/
def fnAlphaNewSpec : ChangeSpec := { name := "fnAlphaNew", fn := fun _ => fun
  | [d] => { results := [.lit (.bool true)], args := [d] }
  | _ => none }
def fnAlphaNewRow : OpenClaim := { program := "ythpkcccmlhopoaa", sum := "eabdada6459ed27186dd0c9b68f19ec5714b5fb487ac9b2d533030f5b419f501", func := "loop.example/lib-g01196/laws.FnAlphaNew", spec := "fnAlphaNew", apart := false }
def FnAlphaNewSaid : Prop := fnAlphaNewRow.holds Try.pinned (OpenSpec.ofChange fnAlphaNewSpec)

/-- ITS FALSE NEIGHBOUR: 'it returns false'. Refute it at one input. -/
def fnAlphaNewWrong : ChangeSpec := { name := "fnAlphaNew", fn := fun _ => fun
  | [d] => { results := [.lit (.bool false)], args := [d] }
  | _ => none }
def FnAlphaNewWrongFalsely : Prop := fnAlphaNewRow.holds Try.pinned (OpenSpec.ofChange fnAlphaNewWrong)

/-- 'laws.FnAlphaNewBounds': WHATEVER THE INPUT: true; the input reads as it did. -/
def fnAlphaNewBoundsSpec : ChangeSpec := { name := "fnAlphaNewBounds", fn := fun _ => fun
  | [d] => { results := [.lit (.bool true)], args := [d] }
  | _ => none }
def fnAlphaNewBoundsRow : OpenClaim := { program := "ythpkcccmlhopoaa", sum := "eabdada6459ed27186dd0c9b68f19ec5714b5fb487ac9b2d533030f5b419f501", func := "loop.example/lib-g01196/laws.FnAlphaNewBounds", spec := "fnAlphaNewBounds", apart := false }
def FnAlphaNewBoundsSaid : Prop := fnAlphaNewBoundsRow.holds Try.pinned (OpenSpec.ofChange fnAlphaNewBoundsSpec)

/-- ITS FALSE NEIGHBOUR: 'it returns false'. Refute it at one input. -/
def fnAlphaNewBoundsWrong : ChangeSpec := { name := "fnAlphaNewBounds", fn := fun _ => fun
  | [d] => { results := [.lit (.bool false)], args := [d] }
  | _ => none }
def FnAlphaNewBoundsWrongFalsely : Prop := fnAlphaNewBoundsRow.holds Try.pinned (OpenSpec.ofChange fnAlphaNewBoundsWrong)

/-- 'laws.FnAlphaRead': WHATEVER THE INPUT: true; the input reads as it did. -/
def fnAlphaReadSpec : ChangeSpec := { name := "fnAlphaRead", fn := fun _ => fun
  | [d1, d2, d3, d4] => { results := [.lit (.bool true)], args := [d1, d2, d3, d4] }
  | _ => none }
def fnAlphaReadRow : OpenClaim := { program := "ythpkcccmlhopoaa", sum := "eabdada6459ed27186dd0c9b68f19ec5714b5fb487ac9b2d533030f5b419f501", func := "loop.example/lib-g01196/laws.FnAlphaRead", spec := "fnAlphaRead", apart := false }
def FnAlphaReadSaid : Prop := fnAlphaReadRow.holds Try.pinned (OpenSpec.ofChange fnAlphaReadSpec)

/-- ITS FALSE NEIGHBOUR: 'it returns false'. Refute it at one input. -/
def fnAlphaReadWrong : ChangeSpec := { name := "fnAlphaRead", fn := fun _ => fun
  | [d1, d2, d3, d4] => { results := [.lit (.bool false)], args := [d1, d2, d3, d4] }
  | _ => none }
def FnAlphaReadWrongFalsely : Prop := fnAlphaReadRow.holds Try.pinned (OpenSpec.ofChange fnAlphaReadWrong)

/-- 'laws.FnAlphaReadOutside': WHATEVER THE INPUT: true; the input reads as it did. -/
def fnAlphaReadOutsideSpec : ChangeSpec := { name := "fnAlphaReadOutside", fn := fun _ => fun
  | [d1, d2, d3, d4] => { results := [.lit (.bool true)], args := [d1, d2, d3, d4] }
  | _ => none }
def fnAlphaReadOutsideRow : OpenClaim := { program := "ythpkcccmlhopoaa", sum := "eabdada6459ed27186dd0c9b68f19ec5714b5fb487ac9b2d533030f5b419f501", func := "loop.example/lib-g01196/laws.FnAlphaReadOutside", spec := "fnAlphaReadOutside", apart := false }
def FnAlphaReadOutsideSaid : Prop := fnAlphaReadOutsideRow.holds Try.pinned (OpenSpec.ofChange fnAlphaReadOutsideSpec)

/-- ITS FALSE NEIGHBOUR: 'it returns false'. Refute it at one input. -/
def fnAlphaReadOutsideWrong : ChangeSpec := { name := "fnAlphaReadOutside", fn := fun _ => fun
  | [d1, d2, d3, d4] => { results := [.lit (.bool false)], args := [d1, d2, d3, d4] }
  | _ => none }
def FnAlphaReadOutsideWrongFalsely : Prop := fnAlphaReadOutsideRow.holds Try.pinned (OpenSpec.ofChange fnAlphaReadOutsideWrong)

/-- 'laws.FnAlphaColor': WHATEVER THE INPUT: true; the input reads as it did. -/
def fnAlphaColorSpec : ChangeSpec := { name := "fnAlphaColor", fn := fun _ => fun
  | [d1, d2, d3, d4] => { results := [.lit (.bool true)], args := [d1, d2, d3, d4] }
  | _ => none }
def fnAlphaColorRow : OpenClaim := { program := "ythpkcccmlhopoaa", sum := "eabdada6459ed27186dd0c9b68f19ec5714b5fb487ac9b2d533030f5b419f501", func := "loop.example/lib-g01196/laws.FnAlphaColor", spec := "fnAlphaColor", apart := false }
def FnAlphaColorSaid : Prop := fnAlphaColorRow.holds Try.pinned (OpenSpec.ofChange fnAlphaColorSpec)

/-- ITS FALSE NEIGHBOUR: 'it returns false'. Refute it at one input. -/
def fnAlphaColorWrong : ChangeSpec := { name := "fnAlphaColor", fn := fun _ => fun
  | [d1, d2, d3, d4] => { results := [.lit (.bool false)], args := [d1, d2, d3, d4] }
  | _ => none }
def FnAlphaColorWrongFalsely : Prop := fnAlphaColorRow.holds Try.pinned (OpenSpec.ofChange fnAlphaColorWrong)

/-- 'laws.FnAlphaOffset': WHATEVER THE INPUT: true; the input reads as it did. -/
def fnAlphaOffsetSpec : ChangeSpec := { name := "fnAlphaOffset", fn := fun _ => fun
  | [d1, d2, d3] => { results := [.lit (.bool true)], args := [d1, d2, d3] }
  | _ => none }
def fnAlphaOffsetRow : OpenClaim := { program := "ythpkcccmlhopoaa", sum := "eabdada6459ed27186dd0c9b68f19ec5714b5fb487ac9b2d533030f5b419f501", func := "loop.example/lib-g01196/laws.FnAlphaOffset", spec := "fnAlphaOffset", apart := false }
def FnAlphaOffsetSaid : Prop := fnAlphaOffsetRow.holds Try.pinned (OpenSpec.ofChange fnAlphaOffsetSpec)

/-- ITS FALSE NEIGHBOUR: 'it returns false'. Refute it at one input. -/
def fnAlphaOffsetWrong : ChangeSpec := { name := "fnAlphaOffset", fn := fun _ => fun
  | [d1, d2, d3] => { results := [.lit (.bool false)], args := [d1, d2, d3] }
  | _ => none }
def FnAlphaOffsetWrongFalsely : Prop := fnAlphaOffsetRow.holds Try.pinned (OpenSpec.ofChange fnAlphaOffsetWrong)

/-- 'laws.FnAlphaApart': WHATEVER THE INPUT: true; the input reads as it did. -/
def fnAlphaApartSpec : ChangeSpec := { name := "fnAlphaApart", fn := fun _ => fun
  | [d1, d2, d3, d4, d5] => { results := [.lit (.bool true)], args := [d1, d2, d3, d4, d5] }
  | _ => none }
def fnAlphaApartRow : OpenClaim := { program := "ythpkcccmlhopoaa", sum := "eabdada6459ed27186dd0c9b68f19ec5714b5fb487ac9b2d533030f5b419f501", func := "loop.example/lib-g01196/laws.FnAlphaApart", spec := "fnAlphaApart", apart := false }
def FnAlphaApartSaid : Prop := fnAlphaApartRow.holds Try.pinned (OpenSpec.ofChange fnAlphaApartSpec)

/-- ITS FALSE NEIGHBOUR: 'it returns false'. Refute it at one input. -/
def fnAlphaApartWrong : ChangeSpec := { name := "fnAlphaApart", fn := fun _ => fun
  | [d1, d2, d3, d4, d5] => { results := [.lit (.bool false)], args := [d1, d2, d3, d4, d5] }
  | _ => none }
def FnAlphaApartWrongFalsely : Prop := fnAlphaApartRow.holds Try.pinned (OpenSpec.ofChange fnAlphaApartWrong)

/- THE SECOND FORM. 'bulk': how many values and letters a reading holds, each counted each time it is reached (what is shared counts as often as it is met; a slice's spare places count too). A statement '..UptoSaid' is the law's where the arguments, and the package variables that the reading takes, are together of bulk at most 1048576: NARROWER than '..Said'. Prove '..Said' where nothing that the law and all that it calls make is longer than what came in: it says more and counts as full. Else prove '..UptoSaid'. A law counts once. -/
mutual
def uptoBulk {H : Type} : DataW H → Nat
  | .lit (.string bytes) => bytes.length + 1
  | .lit _ => 1
  | .nil => 1
  | .ptr d => uptoBulk d + 1
  | .slice elems spare => uptoBulkAll elems + uptoBulkAll spare + 1
  | .agg parts => uptoBulkAll parts + 1
  | .iface _ d => uptoBulk d + 1
  | .map entries => uptoBulkEntries entries + 1
  | .held _ => 1
def uptoBulkAll {H : Type} : List (DataW H) → Nat
  | [] => 0
  | d :: r => uptoBulk d + uptoBulkAll r
def uptoBulkEntries {H : Type} : List (Lit × DataW H) → Nat
  | [] => 0
  | x :: r => uptoBulkEntry x + uptoBulkEntries r
def uptoBulkEntry {H : Type} : Lit × DataW H → Nat
  | (.string bytes, d) => bytes.length + uptoBulk d + 1
  | (_, d) => uptoBulk d + 1
 end
def uptoSmall : (H : Type) → List (DataW H) → Bool := fun _ ds => decide (uptoBulkAll ds ≤ 1048576)
def OpenSpec.upto (s : _root_.Go.ChangeSpec) : _root_.Go.OpenSpec := { _root_.Go.OpenSpec.ofChange s with cond := some uptoSmall }

/-- 'laws.FnAlphaNew', WHERE WHAT IT READS IS OF BULK AT MOST 1048576: true; the input reads as it did. -/
def fnAlphaNewUptoRow : OpenClaim := { program := "ythpkcccmlhopoaa", sum := "eabdada6459ed27186dd0c9b68f19ec5714b5fb487ac9b2d533030f5b419f501", func := "loop.example/lib-g01196/laws.FnAlphaNew", spec := "fnAlphaNew", apart := false, narrowed := true }
def FnAlphaNewUptoSaid : Prop := fnAlphaNewUptoRow.holds Try.pinned (OpenSpec.upto fnAlphaNewSpec)

/-- 'laws.FnAlphaNewBounds', WHERE WHAT IT READS IS OF BULK AT MOST 1048576: true; the input reads as it did. -/
def fnAlphaNewBoundsUptoRow : OpenClaim := { program := "ythpkcccmlhopoaa", sum := "eabdada6459ed27186dd0c9b68f19ec5714b5fb487ac9b2d533030f5b419f501", func := "loop.example/lib-g01196/laws.FnAlphaNewBounds", spec := "fnAlphaNewBounds", apart := false, narrowed := true }
def FnAlphaNewBoundsUptoSaid : Prop := fnAlphaNewBoundsUptoRow.holds Try.pinned (OpenSpec.upto fnAlphaNewBoundsSpec)

/-- 'laws.FnAlphaRead', WHERE WHAT IT READS IS OF BULK AT MOST 1048576: true; the input reads as it did. -/
def fnAlphaReadUptoRow : OpenClaim := { program := "ythpkcccmlhopoaa", sum := "eabdada6459ed27186dd0c9b68f19ec5714b5fb487ac9b2d533030f5b419f501", func := "loop.example/lib-g01196/laws.FnAlphaRead", spec := "fnAlphaRead", apart := false, narrowed := true }
def FnAlphaReadUptoSaid : Prop := fnAlphaReadUptoRow.holds Try.pinned (OpenSpec.upto fnAlphaReadSpec)

/-- 'laws.FnAlphaReadOutside', WHERE WHAT IT READS IS OF BULK AT MOST 1048576: true; the input reads as it did. -/
def fnAlphaReadOutsideUptoRow : OpenClaim := { program := "ythpkcccmlhopoaa", sum := "eabdada6459ed27186dd0c9b68f19ec5714b5fb487ac9b2d533030f5b419f501", func := "loop.example/lib-g01196/laws.FnAlphaReadOutside", spec := "fnAlphaReadOutside", apart := false, narrowed := true }
def FnAlphaReadOutsideUptoSaid : Prop := fnAlphaReadOutsideUptoRow.holds Try.pinned (OpenSpec.upto fnAlphaReadOutsideSpec)

/-- 'laws.FnAlphaColor', WHERE WHAT IT READS IS OF BULK AT MOST 1048576: true; the input reads as it did. -/
def fnAlphaColorUptoRow : OpenClaim := { program := "ythpkcccmlhopoaa", sum := "eabdada6459ed27186dd0c9b68f19ec5714b5fb487ac9b2d533030f5b419f501", func := "loop.example/lib-g01196/laws.FnAlphaColor", spec := "fnAlphaColor", apart := false, narrowed := true }
def FnAlphaColorUptoSaid : Prop := fnAlphaColorUptoRow.holds Try.pinned (OpenSpec.upto fnAlphaColorSpec)

/-- 'laws.FnAlphaOffset', WHERE WHAT IT READS IS OF BULK AT MOST 1048576: true; the input reads as it did. -/
def fnAlphaOffsetUptoRow : OpenClaim := { program := "ythpkcccmlhopoaa", sum := "eabdada6459ed27186dd0c9b68f19ec5714b5fb487ac9b2d533030f5b419f501", func := "loop.example/lib-g01196/laws.FnAlphaOffset", spec := "fnAlphaOffset", apart := false, narrowed := true }
def FnAlphaOffsetUptoSaid : Prop := fnAlphaOffsetUptoRow.holds Try.pinned (OpenSpec.upto fnAlphaOffsetSpec)

/-- 'laws.FnAlphaApart', WHERE WHAT IT READS IS OF BULK AT MOST 1048576: true; the input reads as it did. -/
def fnAlphaApartUptoRow : OpenClaim := { program := "ythpkcccmlhopoaa", sum := "eabdada6459ed27186dd0c9b68f19ec5714b5fb487ac9b2d533030f5b419f501", func := "loop.example/lib-g01196/laws.FnAlphaApart", spec := "fnAlphaApart", apart := false, narrowed := true }
def FnAlphaApartUptoSaid : Prop := fnAlphaApartUptoRow.holds Try.pinned (OpenSpec.upto fnAlphaApartSpec)

end Rows
end Go.Proofs.Ythpkcccmlhopoaa

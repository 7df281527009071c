/-
  No cell of these rows narrows 'for every input' (looked for: loops, veiled, ifaces, maps, wideKeys, modest, calm, conditions, laid).
  DERIVED. THE GIVEN ROWS OF THIS SEAT. 7 by the template 'for every input the law returns true; each argument reads behind the call as it read before'; 0 by the template 'total and deterministic' (their statements: YtheijicdhfpidaaTotals.lean).
  GIVEN WITH THE SEED: the statements are not yours to turn. If you find one false, say at which input.
  Laid BY PROGRAM, IN A SANDBOX (cutbox-rows.mjs): the forced cells as the released guide's own fill.sh prints them over the translation 0f9c9593655c83dc… (all of the seat's roots in one cut). By AI agents, Wed Nov 11 2026. No macro, syntax, notation, axiom, sorry.
-/
import Derived.Test.YtheijicdhfpidaaChecked
import GoSem.Claim
import GoSem.ClaimJoined
import GoSem.ClaimMapViews
import Derived.JoinedTies
import Derived.KernelRfl
namespace Go.Proofs.Ytheijicdhfpidaa
/- THE CELL 'sum', in the pinned program and in every row, IS THE sha256 OF THE DUMP (.gsa) THAT YtheijicdhfpidaaProg.lean LOADS. Nothing in Lean hashes anything: it is a label: what it is worth is what the hold of that sum in a sandbox is worth. -/
noncomputable def Try.pinned : Pinned := { name := "ytheijicdhfpidaa", sum := "0f9c9593655c83dc1ad4ecaa2b92c12da83e60221878d1f27980c8ea6be42868", checked := Try.checked }
namespace Rows
def none {H : Type} : Left H := { results := [], args := [] }

/-- 'laws.FnAlphaRun': WHATEVER THE INPUT: true; the input reads as it did. -/
def fnAlphaRunSpec : ChangeSpec := { name := "fnAlphaRun", fn := fun _ => fun
  | [d1, d2, d3] => { results := [.lit (.bool true)], args := [d1, d2, d3] }
  | _ => none }
def fnAlphaRunRow : OpenClaim := { program := "ytheijicdhfpidaa", sum := "0f9c9593655c83dc1ad4ecaa2b92c12da83e60221878d1f27980c8ea6be42868", func := "loop.example/lib-g01196/laws.FnAlphaRun", spec := "fnAlphaRun", apart := false }
def FnAlphaRunSaid : Prop := fnAlphaRunRow.holds Try.pinned (OpenSpec.ofChange fnAlphaRunSpec)

/-- ITS FALSE NEIGHBOUR: 'it returns false'. Refute it at one input. -/
def fnAlphaRunWrong : ChangeSpec := { name := "fnAlphaRun", fn := fun _ => fun
  | [d1, d2, d3] => { results := [.lit (.bool false)], args := [d1, d2, d3] }
  | _ => none }
def FnAlphaRunWrongFalsely : Prop := fnAlphaRunRow.holds Try.pinned (OpenSpec.ofChange fnAlphaRunWrong)

/-- 'laws.FnAlphaRunAnywhere': WHATEVER THE INPUT: true; the input reads as it did. -/
def fnAlphaRunAnywhereSpec : ChangeSpec := { name := "fnAlphaRunAnywhere", fn := fun _ => fun
  | [d1, d2, d3] => { results := [.lit (.bool true)], args := [d1, d2, d3] }
  | _ => none }
def fnAlphaRunAnywhereRow : OpenClaim := { program := "ytheijicdhfpidaa", sum := "0f9c9593655c83dc1ad4ecaa2b92c12da83e60221878d1f27980c8ea6be42868", func := "loop.example/lib-g01196/laws.FnAlphaRunAnywhere", spec := "fnAlphaRunAnywhere", apart := false }
def FnAlphaRunAnywhereSaid : Prop := fnAlphaRunAnywhereRow.holds Try.pinned (OpenSpec.ofChange fnAlphaRunAnywhereSpec)

/-- ITS FALSE NEIGHBOUR: 'it returns false'. Refute it at one input. -/
def fnAlphaRunAnywhereWrong : ChangeSpec := { name := "fnAlphaRunAnywhere", fn := fun _ => fun
  | [d1, d2, d3] => { results := [.lit (.bool false)], args := [d1, d2, d3] }
  | _ => none }
def FnAlphaRunAnywhereWrongFalsely : Prop := fnAlphaRunAnywhereRow.holds Try.pinned (OpenSpec.ofChange fnAlphaRunAnywhereWrong)

/-- 'laws.FnAlphaShared': WHATEVER THE INPUT: true; the input reads as it did. -/
def fnAlphaSharedSpec : ChangeSpec := { name := "fnAlphaShared", fn := fun _ => fun
  | [d1, d2, d3, d4, d5, d6] => { results := [.lit (.bool true)], args := [d1, d2, d3, d4, d5, d6] }
  | _ => none }
def fnAlphaSharedRow : OpenClaim := { program := "ytheijicdhfpidaa", sum := "0f9c9593655c83dc1ad4ecaa2b92c12da83e60221878d1f27980c8ea6be42868", func := "loop.example/lib-g01196/laws.FnAlphaShared", spec := "fnAlphaShared", apart := false }
def FnAlphaSharedSaid : Prop := fnAlphaSharedRow.holds Try.pinned (OpenSpec.ofChange fnAlphaSharedSpec)

/-- ITS FALSE NEIGHBOUR: 'it returns false'. Refute it at one input. -/
def fnAlphaSharedWrong : ChangeSpec := { name := "fnAlphaShared", fn := fun _ => fun
  | [d1, d2, d3, d4, d5, d6] => { results := [.lit (.bool false)], args := [d1, d2, d3, d4, d5, d6] }
  | _ => none }
def FnAlphaSharedWrongFalsely : Prop := fnAlphaSharedRow.holds Try.pinned (OpenSpec.ofChange fnAlphaSharedWrong)

/-- 'laws.FnAlphaPartOfPart': WHATEVER THE INPUT: true; the input reads as it did. -/
def fnAlphaPartOfPartSpec : ChangeSpec := { name := "fnAlphaPartOfPart", fn := fun _ => fun
  | [d1, d2, d3, d4, d5, d6] => { results := [.lit (.bool true)], args := [d1, d2, d3, d4, d5, d6] }
  | _ => none }
def fnAlphaPartOfPartRow : OpenClaim := { program := "ytheijicdhfpidaa", sum := "0f9c9593655c83dc1ad4ecaa2b92c12da83e60221878d1f27980c8ea6be42868", func := "loop.example/lib-g01196/laws.FnAlphaPartOfPart", spec := "fnAlphaPartOfPart", apart := false }
def FnAlphaPartOfPartSaid : Prop := fnAlphaPartOfPartRow.holds Try.pinned (OpenSpec.ofChange fnAlphaPartOfPartSpec)

/-- ITS FALSE NEIGHBOUR: 'it returns false'. Refute it at one input. -/
def fnAlphaPartOfPartWrong : ChangeSpec := { name := "fnAlphaPartOfPart", fn := fun _ => fun
  | [d1, d2, d3, d4, d5, d6] => { results := [.lit (.bool false)], args := [d1, d2, d3, d4, d5, d6] }
  | _ => none }
def FnAlphaPartOfPartWrongFalsely : Prop := fnAlphaPartOfPartRow.holds Try.pinned (OpenSpec.ofChange fnAlphaPartOfPartWrong)

/-- 'laws.FnAlphaSplit': WHATEVER THE INPUT: true; the input reads as it did. -/
def fnAlphaSplitSpec : ChangeSpec := { name := "fnAlphaSplit", fn := fun _ => fun
  | [d1, d2, d3, d4] => { results := [.lit (.bool true)], args := [d1, d2, d3, d4] }
  | _ => none }
def fnAlphaSplitRow : OpenClaim := { program := "ytheijicdhfpidaa", sum := "0f9c9593655c83dc1ad4ecaa2b92c12da83e60221878d1f27980c8ea6be42868", func := "loop.example/lib-g01196/laws.FnAlphaSplit", spec := "fnAlphaSplit", apart := false }
def FnAlphaSplitSaid : Prop := fnAlphaSplitRow.holds Try.pinned (OpenSpec.ofChange fnAlphaSplitSpec)

/-- ITS FALSE NEIGHBOUR: 'it returns false'. Refute it at one input. -/
def fnAlphaSplitWrong : ChangeSpec := { name := "fnAlphaSplit", fn := fun _ => fun
  | [d1, d2, d3, d4] => { results := [.lit (.bool false)], args := [d1, d2, d3, d4] }
  | _ => none }
def FnAlphaSplitWrongFalsely : Prop := fnAlphaSplitRow.holds Try.pinned (OpenSpec.ofChange fnAlphaSplitWrong)

/-- 'laws.FnAlphaKeepsArgument': WHATEVER THE INPUT: true; the input reads as it did. -/
def fnAlphaKeepsArgumentSpec : ChangeSpec := { name := "fnAlphaKeepsArgument", fn := fun _ => fun
  | [d1, d2, d3, d4, d5] => { results := [.lit (.bool true)], args := [d1, d2, d3, d4, d5] }
  | _ => none }
def fnAlphaKeepsArgumentRow : OpenClaim := { program := "ytheijicdhfpidaa", sum := "0f9c9593655c83dc1ad4ecaa2b92c12da83e60221878d1f27980c8ea6be42868", func := "loop.example/lib-g01196/laws.FnAlphaKeepsArgument", spec := "fnAlphaKeepsArgument", apart := false }
def FnAlphaKeepsArgumentSaid : Prop := fnAlphaKeepsArgumentRow.holds Try.pinned (OpenSpec.ofChange fnAlphaKeepsArgumentSpec)

/-- ITS FALSE NEIGHBOUR: 'it returns false'. Refute it at one input. -/
def fnAlphaKeepsArgumentWrong : ChangeSpec := { name := "fnAlphaKeepsArgument", fn := fun _ => fun
  | [d1, d2, d3, d4, d5] => { results := [.lit (.bool false)], args := [d1, d2, d3, d4, d5] }
  | _ => none }
def FnAlphaKeepsArgumentWrongFalsely : Prop := fnAlphaKeepsArgumentRow.holds Try.pinned (OpenSpec.ofChange fnAlphaKeepsArgumentWrong)

/-- 'laws.FnAlphaSub': WHATEVER THE INPUT: true; the input reads as it did. -/
def fnAlphaSubSpec : ChangeSpec := { name := "fnAlphaSub", fn := fun _ => fun
  | [d1, d2, d3] => { results := [.lit (.bool true)], args := [d1, d2, d3] }
  | _ => none }
def fnAlphaSubRow : OpenClaim := { program := "ytheijicdhfpidaa", sum := "0f9c9593655c83dc1ad4ecaa2b92c12da83e60221878d1f27980c8ea6be42868", func := "loop.example/lib-g01196/laws.FnAlphaSub", spec := "fnAlphaSub", apart := false }
def FnAlphaSubSaid : Prop := fnAlphaSubRow.holds Try.pinned (OpenSpec.ofChange fnAlphaSubSpec)

/-- ITS FALSE NEIGHBOUR: 'it returns false'. Refute it at one input. -/
def fnAlphaSubWrong : ChangeSpec := { name := "fnAlphaSub", fn := fun _ => fun
  | [d1, d2, d3] => { results := [.lit (.bool false)], args := [d1, d2, d3] }
  | _ => none }
def FnAlphaSubWrongFalsely : Prop := fnAlphaSubRow.holds Try.pinned (OpenSpec.ofChange fnAlphaSubWrong)

/- THE SECOND FORM. 'bulk': how many values and letters a reading holds, each counted each time it is reached (what is shared counts as often as it is met; a slice's spare places count too). A statement '..UptoSaid' is the law's where the arguments, and the package variables that the reading takes, are together of bulk at most 1048576: NARROWER than '..Said'. Prove '..Said' where nothing that the law and all that it calls make is longer than what came in: it says more and counts as full. Else prove '..UptoSaid'. A law counts once. -/
mutual
def uptoBulk {H : Type} : DataW H → Nat
  | .lit (.string bytes) => bytes.length + 1
  | .lit _ => 1
  | .nil => 1
  | .ptr d => uptoBulk d + 1
  | .slice elems spare => uptoBulkAll elems + uptoBulkAll spare + 1
  | .agg parts => uptoBulkAll parts + 1
  | .iface _ d => uptoBulk d + 1
  | .map entries => uptoBulkEntries entries + 1
  | .held _ => 1
def uptoBulkAll {H : Type} : List (DataW H) → Nat
  | [] => 0
  | d :: r => uptoBulk d + uptoBulkAll r
def uptoBulkEntries {H : Type} : List (Lit × DataW H) → Nat
  | [] => 0
  | x :: r => uptoBulkEntry x + uptoBulkEntries r
def uptoBulkEntry {H : Type} : Lit × DataW H → Nat
  | (.string bytes, d) => bytes.length + uptoBulk d + 1
  | (_, d) => uptoBulk d + 1
 end
def uptoSmall : (H : Type) → List (DataW H) → Bool := fun _ ds => decide (uptoBulkAll ds ≤ 1048576)
def OpenSpec.upto (s : _root_.Go.ChangeSpec) : _root_.Go.OpenSpec := { _root_.Go.OpenSpec.ofChange s with cond := some uptoSmall }

/-- 'laws.FnAlphaRun', WHERE WHAT IT READS IS OF BULK AT MOST 1048576: true; the input reads as it did. -/
def fnAlphaRunUptoRow : OpenClaim := { program := "ytheijicdhfpidaa", sum := "0f9c9593655c83dc1ad4ecaa2b92c12da83e60221878d1f27980c8ea6be42868", func := "loop.example/lib-g01196/laws.FnAlphaRun", spec := "fnAlphaRun", apart := false, narrowed := true }
def FnAlphaRunUptoSaid : Prop := fnAlphaRunUptoRow.holds Try.pinned (OpenSpec.upto fnAlphaRunSpec)

/-- 'laws.FnAlphaRunAnywhere', WHERE WHAT IT READS IS OF BULK AT MOST 1048576: true; the input reads as it did. -/
def fnAlphaRunAnywhereUptoRow : OpenClaim := { program := "ytheijicdhfpidaa", sum := "0f9c9593655c83dc1ad4ecaa2b92c12da83e60221878d1f27980c8ea6be42868", func := "loop.example/lib-g01196/laws.FnAlphaRunAnywhere", spec := "fnAlphaRunAnywhere", apart := false, narrowed := true }
def FnAlphaRunAnywhereUptoSaid : Prop := fnAlphaRunAnywhereUptoRow.holds Try.pinned (OpenSpec.upto fnAlphaRunAnywhereSpec)

/-- 'laws.FnAlphaShared', WHERE WHAT IT READS IS OF BULK AT MOST 1048576: true; the input reads as it did. -/
def fnAlphaSharedUptoRow : OpenClaim := { program := "ytheijicdhfpidaa", sum := "0f9c9593655c83dc1ad4ecaa2b92c12da83e60221878d1f27980c8ea6be42868", func := "loop.example/lib-g01196/laws.FnAlphaShared", spec := "fnAlphaShared", apart := false, narrowed := true }
def FnAlphaSharedUptoSaid : Prop := fnAlphaSharedUptoRow.holds Try.pinned (OpenSpec.upto fnAlphaSharedSpec)

/-- 'laws.FnAlphaPartOfPart', WHERE WHAT IT READS IS OF BULK AT MOST 1048576: true; the input reads as it did. -/
def fnAlphaPartOfPartUptoRow : OpenClaim := { program := "ytheijicdhfpidaa", sum := "0f9c9593655c83dc1ad4ecaa2b92c12da83e60221878d1f27980c8ea6be42868", func := "loop.example/lib-g01196/laws.FnAlphaPartOfPart", spec := "fnAlphaPartOfPart", apart := false, narrowed := true }
def FnAlphaPartOfPartUptoSaid : Prop := fnAlphaPartOfPartUptoRow.holds Try.pinned (OpenSpec.upto fnAlphaPartOfPartSpec)

/-- 'laws.FnAlphaSplit', WHERE WHAT IT READS IS OF BULK AT MOST 1048576: true; the input reads as it did. -/
def fnAlphaSplitUptoRow : OpenClaim := { program := "ytheijicdhfpidaa", sum := "0f9c9593655c83dc1ad4ecaa2b92c12da83e60221878d1f27980c8ea6be42868", func := "loop.example/lib-g01196/laws.FnAlphaSplit", spec := "fnAlphaSplit", apart := false, narrowed := true }
def FnAlphaSplitUptoSaid : Prop := fnAlphaSplitUptoRow.holds Try.pinned (OpenSpec.upto fnAlphaSplitSpec)

/-- 'laws.FnAlphaKeepsArgument', WHERE WHAT IT READS IS OF BULK AT MOST 1048576: true; the input reads as it did. -/
def fnAlphaKeepsArgumentUptoRow : OpenClaim := { program := "ytheijicdhfpidaa", sum := "0f9c9593655c83dc1ad4ecaa2b92c12da83e60221878d1f27980c8ea6be42868", func := "loop.example/lib-g01196/laws.FnAlphaKeepsArgument", spec := "fnAlphaKeepsArgument", apart := false, narrowed := true }
def FnAlphaKeepsArgumentUptoSaid : Prop := fnAlphaKeepsArgumentUptoRow.holds Try.pinned (OpenSpec.upto fnAlphaKeepsArgumentSpec)

/-- 'laws.FnAlphaSub', WHERE WHAT IT READS IS OF BULK AT MOST 1048576: true; the input reads as it did. -/
def fnAlphaSubUptoRow : OpenClaim := { program := "ytheijicdhfpidaa", sum := "0f9c9593655c83dc1ad4ecaa2b92c12da83e60221878d1f27980c8ea6be42868", func := "loop.example/lib-g01196/laws.FnAlphaSub", spec := "fnAlphaSub", apart := false, narrowed := true }
def FnAlphaSubUptoSaid : Prop := fnAlphaSubUptoRow.holds Try.pinned (OpenSpec.upto fnAlphaSubSpec)

end Rows
end Go.Proofs.Ytheijicdhfpidaa

/-
  No cell of these rows narrows 'for every input' (looked for: loops, veiled, ifaces, maps, wideKeys, modest, calm, conditions, laid).
  DERIVED. THE GIVEN ROWS OF THIS SEAT. 7 by the template 'for every input the law returns true; each argument reads behind the call as it read before'; 0 by the template 'total and deterministic' (their statements: YtnbplionaojabaaTotals.lean).
  GIVEN WITH THE SEED: the statements are not yours to turn. If you find one false, say at which input.
  Laid BY PROGRAM, IN A SANDBOX (cutbox-rows.mjs): the forced cells as the released guide's own fill.sh prints them over the translation a3d775ec49c06ed3… (all of the seat's roots in one cut). By AI agents, Wed Nov 11 2026. No macro, syntax, notation, axiom, sorry.
-/
import Derived.Test.YtnbplionaojabaaChecked
import GoSem.Claim
import GoSem.ClaimJoined
import GoSem.ClaimMapViews
import Derived.JoinedTies
import Derived.KernelRfl
namespace Go.Proofs.Ytnbplionaojabaa
/- THE CELL 'sum', in the pinned program and in every row, IS THE sha256 OF THE DUMP (.gsa) THAT YtnbplionaojabaaProg.lean LOADS. Nothing in Lean hashes anything: it is a label: what it is worth is what the hold of that sum in a sandbox is worth. -/
noncomputable def Try.pinned : Pinned := { name := "ytnbplionaojabaa", sum := "a3d775ec49c06ed3af03a625ee411dd96f1f4a9deea5c7559547ed3b6e6c2db7", checked := Try.checked }
namespace Rows
def none {H : Type} : Left H := { results := [], args := [] }

/-- 'laws.FnRGBARun': WHATEVER THE INPUT: true; the input reads as it did. -/
def fnRGBARunSpec : ChangeSpec := { name := "fnRGBARun", fn := fun _ => fun
  | [d1, d2, d3] => { results := [.lit (.bool true)], args := [d1, d2, d3] }
  | _ => none }
def fnRGBARunRow : OpenClaim := { program := "ytnbplionaojabaa", sum := "a3d775ec49c06ed3af03a625ee411dd96f1f4a9deea5c7559547ed3b6e6c2db7", func := "loop.example/lib-g01196/laws.FnRGBARun", spec := "fnRGBARun", apart := false }
def FnRGBARunSaid : Prop := fnRGBARunRow.holds Try.pinned (OpenSpec.ofChange fnRGBARunSpec)

/-- ITS FALSE NEIGHBOUR: 'it returns false'. Refute it at one input. -/
def fnRGBARunWrong : ChangeSpec := { name := "fnRGBARun", fn := fun _ => fun
  | [d1, d2, d3] => { results := [.lit (.bool false)], args := [d1, d2, d3] }
  | _ => none }
def FnRGBARunWrongFalsely : Prop := fnRGBARunRow.holds Try.pinned (OpenSpec.ofChange fnRGBARunWrong)

/-- 'laws.FnRGBARunAnywhere': WHATEVER THE INPUT: true; the input reads as it did. -/
def fnRGBARunAnywhereSpec : ChangeSpec := { name := "fnRGBARunAnywhere", fn := fun _ => fun
  | [d1, d2, d3] => { results := [.lit (.bool true)], args := [d1, d2, d3] }
  | _ => none }
def fnRGBARunAnywhereRow : OpenClaim := { program := "ytnbplionaojabaa", sum := "a3d775ec49c06ed3af03a625ee411dd96f1f4a9deea5c7559547ed3b6e6c2db7", func := "loop.example/lib-g01196/laws.FnRGBARunAnywhere", spec := "fnRGBARunAnywhere", apart := false }
def FnRGBARunAnywhereSaid : Prop := fnRGBARunAnywhereRow.holds Try.pinned (OpenSpec.ofChange fnRGBARunAnywhereSpec)

/-- ITS FALSE NEIGHBOUR: 'it returns false'. Refute it at one input. -/
def fnRGBARunAnywhereWrong : ChangeSpec := { name := "fnRGBARunAnywhere", fn := fun _ => fun
  | [d1, d2, d3] => { results := [.lit (.bool false)], args := [d1, d2, d3] }
  | _ => none }
def FnRGBARunAnywhereWrongFalsely : Prop := fnRGBARunAnywhereRow.holds Try.pinned (OpenSpec.ofChange fnRGBARunAnywhereWrong)

/-- 'laws.FnRGBAShared': WHATEVER THE INPUT: true; the input reads as it did. -/
def fnRGBASharedSpec : ChangeSpec := { name := "fnRGBAShared", fn := fun _ => fun
  | [d1, d2, d3, d4, d5, d6] => { results := [.lit (.bool true)], args := [d1, d2, d3, d4, d5, d6] }
  | _ => none }
def fnRGBASharedRow : OpenClaim := { program := "ytnbplionaojabaa", sum := "a3d775ec49c06ed3af03a625ee411dd96f1f4a9deea5c7559547ed3b6e6c2db7", func := "loop.example/lib-g01196/laws.FnRGBAShared", spec := "fnRGBAShared", apart := false }
def FnRGBASharedSaid : Prop := fnRGBASharedRow.holds Try.pinned (OpenSpec.ofChange fnRGBASharedSpec)

/-- ITS FALSE NEIGHBOUR: 'it returns false'. Refute it at one input. -/
def fnRGBASharedWrong : ChangeSpec := { name := "fnRGBAShared", fn := fun _ => fun
  | [d1, d2, d3, d4, d5, d6] => { results := [.lit (.bool false)], args := [d1, d2, d3, d4, d5, d6] }
  | _ => none }
def FnRGBASharedWrongFalsely : Prop := fnRGBASharedRow.holds Try.pinned (OpenSpec.ofChange fnRGBASharedWrong)

/-- 'laws.FnRGBAPartOfPart': WHATEVER THE INPUT: true; the input reads as it did. -/
def fnRGBAPartOfPartSpec : ChangeSpec := { name := "fnRGBAPartOfPart", fn := fun _ => fun
  | [d1, d2, d3, d4, d5, d6] => { results := [.lit (.bool true)], args := [d1, d2, d3, d4, d5, d6] }
  | _ => none }
def fnRGBAPartOfPartRow : OpenClaim := { program := "ytnbplionaojabaa", sum := "a3d775ec49c06ed3af03a625ee411dd96f1f4a9deea5c7559547ed3b6e6c2db7", func := "loop.example/lib-g01196/laws.FnRGBAPartOfPart", spec := "fnRGBAPartOfPart", apart := false }
def FnRGBAPartOfPartSaid : Prop := fnRGBAPartOfPartRow.holds Try.pinned (OpenSpec.ofChange fnRGBAPartOfPartSpec)

/-- ITS FALSE NEIGHBOUR: 'it returns false'. Refute it at one input. -/
def fnRGBAPartOfPartWrong : ChangeSpec := { name := "fnRGBAPartOfPart", fn := fun _ => fun
  | [d1, d2, d3, d4, d5, d6] => { results := [.lit (.bool false)], args := [d1, d2, d3, d4, d5, d6] }
  | _ => none }
def FnRGBAPartOfPartWrongFalsely : Prop := fnRGBAPartOfPartRow.holds Try.pinned (OpenSpec.ofChange fnRGBAPartOfPartWrong)

/-- 'laws.FnRGBASplit': WHATEVER THE INPUT: true; the input reads as it did. -/
def fnRGBASplitSpec : ChangeSpec := { name := "fnRGBASplit", fn := fun _ => fun
  | [d1, d2, d3, d4] => { results := [.lit (.bool true)], args := [d1, d2, d3, d4] }
  | _ => none }
def fnRGBASplitRow : OpenClaim := { program := "ytnbplionaojabaa", sum := "a3d775ec49c06ed3af03a625ee411dd96f1f4a9deea5c7559547ed3b6e6c2db7", func := "loop.example/lib-g01196/laws.FnRGBASplit", spec := "fnRGBASplit", apart := false }
def FnRGBASplitSaid : Prop := fnRGBASplitRow.holds Try.pinned (OpenSpec.ofChange fnRGBASplitSpec)

/-- ITS FALSE NEIGHBOUR: 'it returns false'. Refute it at one input. -/
def fnRGBASplitWrong : ChangeSpec := { name := "fnRGBASplit", fn := fun _ => fun
  | [d1, d2, d3, d4] => { results := [.lit (.bool false)], args := [d1, d2, d3, d4] }
  | _ => none }
def FnRGBASplitWrongFalsely : Prop := fnRGBASplitRow.holds Try.pinned (OpenSpec.ofChange fnRGBASplitWrong)

/-- 'laws.FnRGBAKeepsArgument': WHATEVER THE INPUT: true; the input reads as it did. -/
def fnRGBAKeepsArgumentSpec : ChangeSpec := { name := "fnRGBAKeepsArgument", fn := fun _ => fun
  | [d1, d2, d3, d4, d5] => { results := [.lit (.bool true)], args := [d1, d2, d3, d4, d5] }
  | _ => none }
def fnRGBAKeepsArgumentRow : OpenClaim := { program := "ytnbplionaojabaa", sum := "a3d775ec49c06ed3af03a625ee411dd96f1f4a9deea5c7559547ed3b6e6c2db7", func := "loop.example/lib-g01196/laws.FnRGBAKeepsArgument", spec := "fnRGBAKeepsArgument", apart := false }
def FnRGBAKeepsArgumentSaid : Prop := fnRGBAKeepsArgumentRow.holds Try.pinned (OpenSpec.ofChange fnRGBAKeepsArgumentSpec)

/-- ITS FALSE NEIGHBOUR: 'it returns false'. Refute it at one input. -/
def fnRGBAKeepsArgumentWrong : ChangeSpec := { name := "fnRGBAKeepsArgument", fn := fun _ => fun
  | [d1, d2, d3, d4, d5] => { results := [.lit (.bool false)], args := [d1, d2, d3, d4, d5] }
  | _ => none }
def FnRGBAKeepsArgumentWrongFalsely : Prop := fnRGBAKeepsArgumentRow.holds Try.pinned (OpenSpec.ofChange fnRGBAKeepsArgumentWrong)

/-- 'laws.FnRGBASub': WHATEVER THE INPUT: true; the input reads as it did. -/
def fnRGBASubSpec : ChangeSpec := { name := "fnRGBASub", fn := fun _ => fun
  | [d1, d2, d3] => { results := [.lit (.bool true)], args := [d1, d2, d3] }
  | _ => none }
def fnRGBASubRow : OpenClaim := { program := "ytnbplionaojabaa", sum := "a3d775ec49c06ed3af03a625ee411dd96f1f4a9deea5c7559547ed3b6e6c2db7", func := "loop.example/lib-g01196/laws.FnRGBASub", spec := "fnRGBASub", apart := false }
def FnRGBASubSaid : Prop := fnRGBASubRow.holds Try.pinned (OpenSpec.ofChange fnRGBASubSpec)

/-- ITS FALSE NEIGHBOUR: 'it returns false'. Refute it at one input. -/
def fnRGBASubWrong : ChangeSpec := { name := "fnRGBASub", fn := fun _ => fun
  | [d1, d2, d3] => { results := [.lit (.bool false)], args := [d1, d2, d3] }
  | _ => none }
def FnRGBASubWrongFalsely : Prop := fnRGBASubRow.holds Try.pinned (OpenSpec.ofChange fnRGBASubWrong)

/- THE SECOND FORM. 'bulk': how many values and letters a reading holds, each counted each time it is reached (what is shared counts as often as it is met; a slice's spare places count too). A statement '..UptoSaid' is the law's where the arguments, and the package variables that the reading takes, are together of bulk at most 1048576: NARROWER than '..Said'. Prove '..Said' where nothing that the law and all that it calls make is longer than what came in: it says more and counts as full. Else prove '..UptoSaid'. A law counts once. -/
mutual
def uptoBulk {H : Type} : DataW H → Nat
  | .lit (.string bytes) => bytes.length + 1
  | .lit _ => 1
  | .nil => 1
  | .ptr d => uptoBulk d + 1
  | .slice elems spare => uptoBulkAll elems + uptoBulkAll spare + 1
  | .agg parts => uptoBulkAll parts + 1
  | .iface _ d => uptoBulk d + 1
  | .map entries => uptoBulkEntries entries + 1
  | .held _ => 1
def uptoBulkAll {H : Type} : List (DataW H) → Nat
  | [] => 0
  | d :: r => uptoBulk d + uptoBulkAll r
def uptoBulkEntries {H : Type} : List (Lit × DataW H) → Nat
  | [] => 0
  | x :: r => uptoBulkEntry x + uptoBulkEntries r
def uptoBulkEntry {H : Type} : Lit × DataW H → Nat
  | (.string bytes, d) => bytes.length + uptoBulk d + 1
  | (_, d) => uptoBulk d + 1
 end
def uptoSmall : (H : Type) → List (DataW H) → Bool := fun _ ds => decide (uptoBulkAll ds ≤ 1048576)
def OpenSpec.upto (s : _root_.Go.ChangeSpec) : _root_.Go.OpenSpec := { _root_.Go.OpenSpec.ofChange s with cond := some uptoSmall }

/-- 'laws.FnRGBARun', WHERE WHAT IT READS IS OF BULK AT MOST 1048576: true; the input reads as it did. -/
def fnRGBARunUptoRow : OpenClaim := { program := "ytnbplionaojabaa", sum := "a3d775ec49c06ed3af03a625ee411dd96f1f4a9deea5c7559547ed3b6e6c2db7", func := "loop.example/lib-g01196/laws.FnRGBARun", spec := "fnRGBARun", apart := false, narrowed := true }
def FnRGBARunUptoSaid : Prop := fnRGBARunUptoRow.holds Try.pinned (OpenSpec.upto fnRGBARunSpec)

/-- 'laws.FnRGBARunAnywhere', WHERE WHAT IT READS IS OF BULK AT MOST 1048576: true; the input reads as it did. -/
def fnRGBARunAnywhereUptoRow : OpenClaim := { program := "ytnbplionaojabaa", sum := "a3d775ec49c06ed3af03a625ee411dd96f1f4a9deea5c7559547ed3b6e6c2db7", func := "loop.example/lib-g01196/laws.FnRGBARunAnywhere", spec := "fnRGBARunAnywhere", apart := false, narrowed := true }
def FnRGBARunAnywhereUptoSaid : Prop := fnRGBARunAnywhereUptoRow.holds Try.pinned (OpenSpec.upto fnRGBARunAnywhereSpec)

/-- 'laws.FnRGBAShared', WHERE WHAT IT READS IS OF BULK AT MOST 1048576: true; the input reads as it did. -/
def fnRGBASharedUptoRow : OpenClaim := { program := "ytnbplionaojabaa", sum := "a3d775ec49c06ed3af03a625ee411dd96f1f4a9deea5c7559547ed3b6e6c2db7", func := "loop.example/lib-g01196/laws.FnRGBAShared", spec := "fnRGBAShared", apart := false, narrowed := true }
def FnRGBASharedUptoSaid : Prop := fnRGBASharedUptoRow.holds Try.pinned (OpenSpec.upto fnRGBASharedSpec)

/-- 'laws.FnRGBAPartOfPart', WHERE WHAT IT READS IS OF BULK AT MOST 1048576: true; the input reads as it did. -/
def fnRGBAPartOfPartUptoRow : OpenClaim := { program := "ytnbplionaojabaa", sum := "a3d775ec49c06ed3af03a625ee411dd96f1f4a9deea5c7559547ed3b6e6c2db7", func := "loop.example/lib-g01196/laws.FnRGBAPartOfPart", spec := "fnRGBAPartOfPart", apart := false, narrowed := true }
def FnRGBAPartOfPartUptoSaid : Prop := fnRGBAPartOfPartUptoRow.holds Try.pinned (OpenSpec.upto fnRGBAPartOfPartSpec)

/-- 'laws.FnRGBASplit', WHERE WHAT IT READS IS OF BULK AT MOST 1048576: true; the input reads as it did. -/
def fnRGBASplitUptoRow : OpenClaim := { program := "ytnbplionaojabaa", sum := "a3d775ec49c06ed3af03a625ee411dd96f1f4a9deea5c7559547ed3b6e6c2db7", func := "loop.example/lib-g01196/laws.FnRGBASplit", spec := "fnRGBASplit", apart := false, narrowed := true }
def FnRGBASplitUptoSaid : Prop := fnRGBASplitUptoRow.holds Try.pinned (OpenSpec.upto fnRGBASplitSpec)

/-- 'laws.FnRGBAKeepsArgument', WHERE WHAT IT READS IS OF BULK AT MOST 1048576: true; the input reads as it did. -/
def fnRGBAKeepsArgumentUptoRow : OpenClaim := { program := "ytnbplionaojabaa", sum := "a3d775ec49c06ed3af03a625ee411dd96f1f4a9deea5c7559547ed3b6e6c2db7", func := "loop.example/lib-g01196/laws.FnRGBAKeepsArgument", spec := "fnRGBAKeepsArgument", apart := false, narrowed := true }
def FnRGBAKeepsArgumentUptoSaid : Prop := fnRGBAKeepsArgumentUptoRow.holds Try.pinned (OpenSpec.upto fnRGBAKeepsArgumentSpec)

/-- 'laws.FnRGBASub', WHERE WHAT IT READS IS OF BULK AT MOST 1048576: true; the input reads as it did. -/
def fnRGBASubUptoRow : OpenClaim := { program := "ytnbplionaojabaa", sum := "a3d775ec49c06ed3af03a625ee411dd96f1f4a9deea5c7559547ed3b6e6c2db7", func := "loop.example/lib-g01196/laws.FnRGBASub", spec := "fnRGBASub", apart := false, narrowed := true }
def FnRGBASubUptoSaid : Prop := fnRGBASubUptoRow.holds Try.pinned (OpenSpec.upto fnRGBASubSpec)

end Rows
end Go.Proofs.Ytnbplionaojabaa

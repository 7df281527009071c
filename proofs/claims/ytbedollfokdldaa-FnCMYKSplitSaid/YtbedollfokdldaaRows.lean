/-
  No cell of these rows narrows 'for every input' (looked for: loops, veiled, ifaces, maps, wideKeys, modest, calm, conditions, laid).
  DERIVED. THE GIVEN ROWS OF THIS SEAT. 7 by the template 'for every input the law returns true; each argument reads behind the call as it read before'; 0 by the template 'total and deterministic' (their statements: YtbedollfokdldaaTotals.lean).
  GIVEN WITH THE SEED: the statements are not yours to turn. If you find one false, say at which input.
  Laid BY PROGRAM, IN A SANDBOX (cutbox-rows.mjs): the forced cells as the released guide's own fill.sh prints them over the translation 9db7f7e1837edd41… (all of the seat's roots in one cut). By AI agents, Wed Nov 11 2026. No macro, syntax, notation, axiom, sorry.
-/
import Derived.Test.YtbedollfokdldaaChecked
import GoSem.Claim
import GoSem.ClaimJoined
import GoSem.ClaimMapViews
import Derived.JoinedTies
import Derived.KernelRfl
namespace Go.Proofs.Ytbedollfokdldaa
/- THE CELL 'sum', in the pinned program and in every row, IS THE sha256 OF THE DUMP (.gsa) THAT YtbedollfokdldaaProg.lean LOADS. Nothing in Lean hashes anything: it is a label: what it is worth is what the hold of that sum in a sandbox is worth. -/
noncomputable def Try.pinned : Pinned := { name := "ytbedollfokdldaa", sum := "9db7f7e1837edd41883ef3203180c181083b2165e62360911abceb4595f0b734", checked := Try.checked }
namespace Rows
def none {H : Type} : Left H := { results := [], args := [] }

/-- 'laws.FnCMYKRun': WHATEVER THE INPUT: true; the input reads as it did. -/
def fnCMYKRunSpec : ChangeSpec := { name := "fnCMYKRun", fn := fun _ => fun
  | [d1, d2, d3] => { results := [.lit (.bool true)], args := [d1, d2, d3] }
  | _ => none }
def fnCMYKRunRow : OpenClaim := { program := "ytbedollfokdldaa", sum := "9db7f7e1837edd41883ef3203180c181083b2165e62360911abceb4595f0b734", func := "loop.example/lib-g01196/laws.FnCMYKRun", spec := "fnCMYKRun", apart := false }
def FnCMYKRunSaid : Prop := fnCMYKRunRow.holds Try.pinned (OpenSpec.ofChange fnCMYKRunSpec)

/-- ITS FALSE NEIGHBOUR: 'it returns false'. Refute it at one input. -/
def fnCMYKRunWrong : ChangeSpec := { name := "fnCMYKRun", fn := fun _ => fun
  | [d1, d2, d3] => { results := [.lit (.bool false)], args := [d1, d2, d3] }
  | _ => none }
def FnCMYKRunWrongFalsely : Prop := fnCMYKRunRow.holds Try.pinned (OpenSpec.ofChange fnCMYKRunWrong)

/-- 'laws.FnCMYKRunAnywhere': WHATEVER THE INPUT: true; the input reads as it did. -/
def fnCMYKRunAnywhereSpec : ChangeSpec := { name := "fnCMYKRunAnywhere", fn := fun _ => fun
  | [d1, d2, d3] => { results := [.lit (.bool true)], args := [d1, d2, d3] }
  | _ => none }
def fnCMYKRunAnywhereRow : OpenClaim := { program := "ytbedollfokdldaa", sum := "9db7f7e1837edd41883ef3203180c181083b2165e62360911abceb4595f0b734", func := "loop.example/lib-g01196/laws.FnCMYKRunAnywhere", spec := "fnCMYKRunAnywhere", apart := false }
def FnCMYKRunAnywhereSaid : Prop := fnCMYKRunAnywhereRow.holds Try.pinned (OpenSpec.ofChange fnCMYKRunAnywhereSpec)

/-- ITS FALSE NEIGHBOUR: 'it returns false'. Refute it at one input. -/
def fnCMYKRunAnywhereWrong : ChangeSpec := { name := "fnCMYKRunAnywhere", fn := fun _ => fun
  | [d1, d2, d3] => { results := [.lit (.bool false)], args := [d1, d2, d3] }
  | _ => none }
def FnCMYKRunAnywhereWrongFalsely : Prop := fnCMYKRunAnywhereRow.holds Try.pinned (OpenSpec.ofChange fnCMYKRunAnywhereWrong)

/-- 'laws.FnCMYKShared': WHATEVER THE INPUT: true; the input reads as it did. -/
def fnCMYKSharedSpec : ChangeSpec := { name := "fnCMYKShared", fn := fun _ => fun
  | [d1, d2, d3, d4, d5, d6] => { results := [.lit (.bool true)], args := [d1, d2, d3, d4, d5, d6] }
  | _ => none }
def fnCMYKSharedRow : OpenClaim := { program := "ytbedollfokdldaa", sum := "9db7f7e1837edd41883ef3203180c181083b2165e62360911abceb4595f0b734", func := "loop.example/lib-g01196/laws.FnCMYKShared", spec := "fnCMYKShared", apart := false }
def FnCMYKSharedSaid : Prop := fnCMYKSharedRow.holds Try.pinned (OpenSpec.ofChange fnCMYKSharedSpec)

/-- ITS FALSE NEIGHBOUR: 'it returns false'. Refute it at one input. -/
def fnCMYKSharedWrong : ChangeSpec := { name := "fnCMYKShared", fn := fun _ => fun
  | [d1, d2, d3, d4, d5, d6] => { results := [.lit (.bool false)], args := [d1, d2, d3, d4, d5, d6] }
  | _ => none }
def FnCMYKSharedWrongFalsely : Prop := fnCMYKSharedRow.holds Try.pinned (OpenSpec.ofChange fnCMYKSharedWrong)

/-- 'laws.FnCMYKPartOfPart': WHATEVER THE INPUT: true; the input reads as it did. -/
def fnCMYKPartOfPartSpec : ChangeSpec := { name := "fnCMYKPartOfPart", fn := fun _ => fun
  | [d1, d2, d3, d4, d5, d6] => { results := [.lit (.bool true)], args := [d1, d2, d3, d4, d5, d6] }
  | _ => none }
def fnCMYKPartOfPartRow : OpenClaim := { program := "ytbedollfokdldaa", sum := "9db7f7e1837edd41883ef3203180c181083b2165e62360911abceb4595f0b734", func := "loop.example/lib-g01196/laws.FnCMYKPartOfPart", spec := "fnCMYKPartOfPart", apart := false }
def FnCMYKPartOfPartSaid : Prop := fnCMYKPartOfPartRow.holds Try.pinned (OpenSpec.ofChange fnCMYKPartOfPartSpec)

/-- ITS FALSE NEIGHBOUR: 'it returns false'. Refute it at one input. -/
def fnCMYKPartOfPartWrong : ChangeSpec := { name := "fnCMYKPartOfPart", fn := fun _ => fun
  | [d1, d2, d3, d4, d5, d6] => { results := [.lit (.bool false)], args := [d1, d2, d3, d4, d5, d6] }
  | _ => none }
def FnCMYKPartOfPartWrongFalsely : Prop := fnCMYKPartOfPartRow.holds Try.pinned (OpenSpec.ofChange fnCMYKPartOfPartWrong)

/-- 'laws.FnCMYKSplit': WHATEVER THE INPUT: true; the input reads as it did. -/
def fnCMYKSplitSpec : ChangeSpec := { name := "fnCMYKSplit", fn := fun _ => fun
  | [d1, d2, d3, d4] => { results := [.lit (.bool true)], args := [d1, d2, d3, d4] }
  | _ => none }
def fnCMYKSplitRow : OpenClaim := { program := "ytbedollfokdldaa", sum := "9db7f7e1837edd41883ef3203180c181083b2165e62360911abceb4595f0b734", func := "loop.example/lib-g01196/laws.FnCMYKSplit", spec := "fnCMYKSplit", apart := false }
def FnCMYKSplitSaid : Prop := fnCMYKSplitRow.holds Try.pinned (OpenSpec.ofChange fnCMYKSplitSpec)

/-- ITS FALSE NEIGHBOUR: 'it returns false'. Refute it at one input. -/
def fnCMYKSplitWrong : ChangeSpec := { name := "fnCMYKSplit", fn := fun _ => fun
  | [d1, d2, d3, d4] => { results := [.lit (.bool false)], args := [d1, d2, d3, d4] }
  | _ => none }
def FnCMYKSplitWrongFalsely : Prop := fnCMYKSplitRow.holds Try.pinned (OpenSpec.ofChange fnCMYKSplitWrong)

/-- 'laws.FnCMYKKeepsArgument': WHATEVER THE INPUT: true; the input reads as it did. -/
def fnCMYKKeepsArgumentSpec : ChangeSpec := { name := "fnCMYKKeepsArgument", fn := fun _ => fun
  | [d1, d2, d3, d4, d5] => { results := [.lit (.bool true)], args := [d1, d2, d3, d4, d5] }
  | _ => none }
def fnCMYKKeepsArgumentRow : OpenClaim := { program := "ytbedollfokdldaa", sum := "9db7f7e1837edd41883ef3203180c181083b2165e62360911abceb4595f0b734", func := "loop.example/lib-g01196/laws.FnCMYKKeepsArgument", spec := "fnCMYKKeepsArgument", apart := false }
def FnCMYKKeepsArgumentSaid : Prop := fnCMYKKeepsArgumentRow.holds Try.pinned (OpenSpec.ofChange fnCMYKKeepsArgumentSpec)

/-- ITS FALSE NEIGHBOUR: 'it returns false'. Refute it at one input. -/
def fnCMYKKeepsArgumentWrong : ChangeSpec := { name := "fnCMYKKeepsArgument", fn := fun _ => fun
  | [d1, d2, d3, d4, d5] => { results := [.lit (.bool false)], args := [d1, d2, d3, d4, d5] }
  | _ => none }
def FnCMYKKeepsArgumentWrongFalsely : Prop := fnCMYKKeepsArgumentRow.holds Try.pinned (OpenSpec.ofChange fnCMYKKeepsArgumentWrong)

/-- 'laws.FnCMYKSub': WHATEVER THE INPUT: true; the input reads as it did. -/
def fnCMYKSubSpec : ChangeSpec := { name := "fnCMYKSub", fn := fun _ => fun
  | [d1, d2, d3] => { results := [.lit (.bool true)], args := [d1, d2, d3] }
  | _ => none }
def fnCMYKSubRow : OpenClaim := { program := "ytbedollfokdldaa", sum := "9db7f7e1837edd41883ef3203180c181083b2165e62360911abceb4595f0b734", func := "loop.example/lib-g01196/laws.FnCMYKSub", spec := "fnCMYKSub", apart := false }
def FnCMYKSubSaid : Prop := fnCMYKSubRow.holds Try.pinned (OpenSpec.ofChange fnCMYKSubSpec)

/-- ITS FALSE NEIGHBOUR: 'it returns false'. Refute it at one input. -/
def fnCMYKSubWrong : ChangeSpec := { name := "fnCMYKSub", fn := fun _ => fun
  | [d1, d2, d3] => { results := [.lit (.bool false)], args := [d1, d2, d3] }
  | _ => none }
def FnCMYKSubWrongFalsely : Prop := fnCMYKSubRow.holds Try.pinned (OpenSpec.ofChange fnCMYKSubWrong)

/- THE SECOND FORM. 'bulk': how many values and letters a reading holds, each counted each time it is reached (what is shared counts as often as it is met; a slice's spare places count too). A statement '..UptoSaid' is the law's where the arguments, and the package variables that the reading takes, are together of bulk at most 1048576: NARROWER than '..Said'. Prove '..Said' where nothing that the law and all that it calls make is longer than what came in: it says more and counts as full. Else prove '..UptoSaid'. A law counts once. -/
mutual
def uptoBulk {H : Type} : DataW H → Nat
  | .lit (.string bytes) => bytes.length + 1
  | .lit _ => 1
  | .nil => 1
  | .ptr d => uptoBulk d + 1
  | .slice elems spare => uptoBulkAll elems + uptoBulkAll spare + 1
  | .agg parts => uptoBulkAll parts + 1
  | .iface _ d => uptoBulk d + 1
  | .map entries => uptoBulkEntries entries + 1
  | .held _ => 1
def uptoBulkAll {H : Type} : List (DataW H) → Nat
  | [] => 0
  | d :: r => uptoBulk d + uptoBulkAll r
def uptoBulkEntries {H : Type} : List (Lit × DataW H) → Nat
  | [] => 0
  | x :: r => uptoBulkEntry x + uptoBulkEntries r
def uptoBulkEntry {H : Type} : Lit × DataW H → Nat
  | (.string bytes, d) => bytes.length + uptoBulk d + 1
  | (_, d) => uptoBulk d + 1
 end
def uptoSmall : (H : Type) → List (DataW H) → Bool := fun _ ds => decide (uptoBulkAll ds ≤ 1048576)
def OpenSpec.upto (s : _root_.Go.ChangeSpec) : _root_.Go.OpenSpec := { _root_.Go.OpenSpec.ofChange s with cond := some uptoSmall }

/-- 'laws.FnCMYKRun', WHERE WHAT IT READS IS OF BULK AT MOST 1048576: true; the input reads as it did. -/
def fnCMYKRunUptoRow : OpenClaim := { program := "ytbedollfokdldaa", sum := "9db7f7e1837edd41883ef3203180c181083b2165e62360911abceb4595f0b734", func := "loop.example/lib-g01196/laws.FnCMYKRun", spec := "fnCMYKRun", apart := false, narrowed := true }
def FnCMYKRunUptoSaid : Prop := fnCMYKRunUptoRow.holds Try.pinned (OpenSpec.upto fnCMYKRunSpec)

/-- 'laws.FnCMYKRunAnywhere', WHERE WHAT IT READS IS OF BULK AT MOST 1048576: true; the input reads as it did. -/
def fnCMYKRunAnywhereUptoRow : OpenClaim := { program := "ytbedollfokdldaa", sum := "9db7f7e1837edd41883ef3203180c181083b2165e62360911abceb4595f0b734", func := "loop.example/lib-g01196/laws.FnCMYKRunAnywhere", spec := "fnCMYKRunAnywhere", apart := false, narrowed := true }
def FnCMYKRunAnywhereUptoSaid : Prop := fnCMYKRunAnywhereUptoRow.holds Try.pinned (OpenSpec.upto fnCMYKRunAnywhereSpec)

/-- 'laws.FnCMYKShared', WHERE WHAT IT READS IS OF BULK AT MOST 1048576: true; the input reads as it did. -/
def fnCMYKSharedUptoRow : OpenClaim := { program := "ytbedollfokdldaa", sum := "9db7f7e1837edd41883ef3203180c181083b2165e62360911abceb4595f0b734", func := "loop.example/lib-g01196/laws.FnCMYKShared", spec := "fnCMYKShared", apart := false, narrowed := true }
def FnCMYKSharedUptoSaid : Prop := fnCMYKSharedUptoRow.holds Try.pinned (OpenSpec.upto fnCMYKSharedSpec)

/-- 'laws.FnCMYKPartOfPart', WHERE WHAT IT READS IS OF BULK AT MOST 1048576: true; the input reads as it did. -/
def fnCMYKPartOfPartUptoRow : OpenClaim := { program := "ytbedollfokdldaa", sum := "9db7f7e1837edd41883ef3203180c181083b2165e62360911abceb4595f0b734", func := "loop.example/lib-g01196/laws.FnCMYKPartOfPart", spec := "fnCMYKPartOfPart", apart := false, narrowed := true }
def FnCMYKPartOfPartUptoSaid : Prop := fnCMYKPartOfPartUptoRow.holds Try.pinned (OpenSpec.upto fnCMYKPartOfPartSpec)

/-- 'laws.FnCMYKSplit', WHERE WHAT IT READS IS OF BULK AT MOST 1048576: true; the input reads as it did. -/
def fnCMYKSplitUptoRow : OpenClaim := { program := "ytbedollfokdldaa", sum := "9db7f7e1837edd41883ef3203180c181083b2165e62360911abceb4595f0b734", func := "loop.example/lib-g01196/laws.FnCMYKSplit", spec := "fnCMYKSplit", apart := false, narrowed := true }
def FnCMYKSplitUptoSaid : Prop := fnCMYKSplitUptoRow.holds Try.pinned (OpenSpec.upto fnCMYKSplitSpec)

/-- 'laws.FnCMYKKeepsArgument', WHERE WHAT IT READS IS OF BULK AT MOST 1048576: true; the input reads as it did. -/
def fnCMYKKeepsArgumentUptoRow : OpenClaim := { program := "ytbedollfokdldaa", sum := "9db7f7e1837edd41883ef3203180c181083b2165e62360911abceb4595f0b734", func := "loop.example/lib-g01196/laws.FnCMYKKeepsArgument", spec := "fnCMYKKeepsArgument", apart := false, narrowed := true }
def FnCMYKKeepsArgumentUptoSaid : Prop := fnCMYKKeepsArgumentUptoRow.holds Try.pinned (OpenSpec.upto fnCMYKKeepsArgumentSpec)

/-- 'laws.FnCMYKSub', WHERE WHAT IT READS IS OF BULK AT MOST 1048576: true; the input reads as it did. -/
def fnCMYKSubUptoRow : OpenClaim := { program := "ytbedollfokdldaa", sum := "9db7f7e1837edd41883ef3203180c181083b2165e62360911abceb4595f0b734", func := "loop.example/lib-g01196/laws.FnCMYKSub", spec := "fnCMYKSub", apart := false, narrowed := true }
def FnCMYKSubUptoSaid : Prop := fnCMYKSubUptoRow.holds Try.pinned (OpenSpec.upto fnCMYKSubSpec)

end Rows
end Go.Proofs.Ytbedollfokdldaa

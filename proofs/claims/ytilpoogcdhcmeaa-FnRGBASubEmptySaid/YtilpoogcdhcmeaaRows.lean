/-
  No cell of these rows narrows 'for every input' (looked for: loops, veiled, ifaces, maps, wideKeys, modest, calm, conditions, laid).
  DERIVED. THE GIVEN ROWS OF THIS SEAT. 6 by the template 'for every input the law returns true; each argument reads behind the call as it read before'; 0 by the template 'total and deterministic' (their statements: YtilpoogcdhcmeaaTotals.lean).
  GIVEN WITH THE SEED: the statements are not yours to turn. If you find one false, say at which input.
  Laid BY PROGRAM, IN A SANDBOX (cutbox-rows.mjs): the forced cells as the released guide's own fill.sh prints them over the translation f77b40f771120ef3… (all of the seat's roots in one cut). By AI agents, Wed Nov 11 2026. No macro, syntax, notation, axiom, sorry.
-/
import Derived.Test.YtilpoogcdhcmeaaChecked
import GoSem.Claim
import GoSem.ClaimJoined
import GoSem.ClaimMapViews
import Derived.JoinedTies
import Derived.KernelRfl
namespace Go.Proofs.Ytilpoogcdhcmeaa
/- THE CELL 'sum', in the pinned program and in every row, IS THE sha256 OF THE DUMP (.gsa) THAT YtilpoogcdhcmeaaProg.lean LOADS. Nothing in Lean hashes anything: it is a label: what it is worth is what the hold of that sum in a sandbox is worth. -/
noncomputable def Try.pinned : Pinned := { name := "ytilpoogcdhcmeaa", sum := "f77b40f771120ef3ef0e2ccdb0ab7b33f053d7beba55273206b37553543db929", checked := Try.checked }
namespace Rows
def none {H : Type} : Left H := { results := [], args := [] }

/-- 'laws.FnRGBAWrite': WHATEVER THE INPUT: true; the input reads as it did. -/
def fnRGBAWriteSpec : ChangeSpec := { name := "fnRGBAWrite", fn := fun _ => fun
  | [d1, d2, d3, d4, d5] => { results := [.lit (.bool true)], args := [d1, d2, d3, d4, d5] }
  | _ => none }
def fnRGBAWriteRow : OpenClaim := { program := "ytilpoogcdhcmeaa", sum := "f77b40f771120ef3ef0e2ccdb0ab7b33f053d7beba55273206b37553543db929", func := "loop.example/lib-g01196/laws.FnRGBAWrite", spec := "fnRGBAWrite", apart := false }
def FnRGBAWriteSaid : Prop := fnRGBAWriteRow.holds Try.pinned (OpenSpec.ofChange fnRGBAWriteSpec)

/-- ITS FALSE NEIGHBOUR: 'it returns false'. Refute it at one input. -/
def fnRGBAWriteWrong : ChangeSpec := { name := "fnRGBAWrite", fn := fun _ => fun
  | [d1, d2, d3, d4, d5] => { results := [.lit (.bool false)], args := [d1, d2, d3, d4, d5] }
  | _ => none }
def FnRGBAWriteWrongFalsely : Prop := fnRGBAWriteRow.holds Try.pinned (OpenSpec.ofChange fnRGBAWriteWrong)

/-- 'laws.FnRGBAWriteOutside': WHATEVER THE INPUT: true; the input reads as it did. -/
def fnRGBAWriteOutsideSpec : ChangeSpec := { name := "fnRGBAWriteOutside", fn := fun _ => fun
  | [d1, d2, d3, d4, d5] => { results := [.lit (.bool true)], args := [d1, d2, d3, d4, d5] }
  | _ => none }
def fnRGBAWriteOutsideRow : OpenClaim := { program := "ytilpoogcdhcmeaa", sum := "f77b40f771120ef3ef0e2ccdb0ab7b33f053d7beba55273206b37553543db929", func := "loop.example/lib-g01196/laws.FnRGBAWriteOutside", spec := "fnRGBAWriteOutside", apart := false }
def FnRGBAWriteOutsideSaid : Prop := fnRGBAWriteOutsideRow.holds Try.pinned (OpenSpec.ofChange fnRGBAWriteOutsideSpec)

/-- ITS FALSE NEIGHBOUR: 'it returns false'. Refute it at one input. -/
def fnRGBAWriteOutsideWrong : ChangeSpec := { name := "fnRGBAWriteOutside", fn := fun _ => fun
  | [d1, d2, d3, d4, d5] => { results := [.lit (.bool false)], args := [d1, d2, d3, d4, d5] }
  | _ => none }
def FnRGBAWriteOutsideWrongFalsely : Prop := fnRGBAWriteOutsideRow.holds Try.pinned (OpenSpec.ofChange fnRGBAWriteOutsideWrong)

/-- 'laws.FnRGBAWriteRead': WHATEVER THE INPUT: true; the input reads as it did. -/
def fnRGBAWriteReadSpec : ChangeSpec := { name := "fnRGBAWriteRead", fn := fun _ => fun
  | [d1, d2, d3, d4, d5, d6, d7] => { results := [.lit (.bool true)], args := [d1, d2, d3, d4, d5, d6, d7] }
  | _ => none }
def fnRGBAWriteReadRow : OpenClaim := { program := "ytilpoogcdhcmeaa", sum := "f77b40f771120ef3ef0e2ccdb0ab7b33f053d7beba55273206b37553543db929", func := "loop.example/lib-g01196/laws.FnRGBAWriteRead", spec := "fnRGBAWriteRead", apart := false }
def FnRGBAWriteReadSaid : Prop := fnRGBAWriteReadRow.holds Try.pinned (OpenSpec.ofChange fnRGBAWriteReadSpec)

/-- ITS FALSE NEIGHBOUR: 'it returns false'. Refute it at one input. -/
def fnRGBAWriteReadWrong : ChangeSpec := { name := "fnRGBAWriteRead", fn := fun _ => fun
  | [d1, d2, d3, d4, d5, d6, d7] => { results := [.lit (.bool false)], args := [d1, d2, d3, d4, d5, d6, d7] }
  | _ => none }
def FnRGBAWriteReadWrongFalsely : Prop := fnRGBAWriteReadRow.holds Try.pinned (OpenSpec.ofChange fnRGBAWriteReadWrong)

/-- 'laws.FnRGBAWriteTwice': WHATEVER THE INPUT: true; the input reads as it did. -/
def fnRGBAWriteTwiceSpec : ChangeSpec := { name := "fnRGBAWriteTwice", fn := fun _ => fun
  | [d1, d2, d3, d4, d5, d6, d7, d8] => { results := [.lit (.bool true)], args := [d1, d2, d3, d4, d5, d6, d7, d8] }
  | _ => none }
def fnRGBAWriteTwiceRow : OpenClaim := { program := "ytilpoogcdhcmeaa", sum := "f77b40f771120ef3ef0e2ccdb0ab7b33f053d7beba55273206b37553543db929", func := "loop.example/lib-g01196/laws.FnRGBAWriteTwice", spec := "fnRGBAWriteTwice", apart := false }
def FnRGBAWriteTwiceSaid : Prop := fnRGBAWriteTwiceRow.holds Try.pinned (OpenSpec.ofChange fnRGBAWriteTwiceSpec)

/-- ITS FALSE NEIGHBOUR: 'it returns false'. Refute it at one input. -/
def fnRGBAWriteTwiceWrong : ChangeSpec := { name := "fnRGBAWriteTwice", fn := fun _ => fun
  | [d1, d2, d3, d4, d5, d6, d7, d8] => { results := [.lit (.bool false)], args := [d1, d2, d3, d4, d5, d6, d7, d8] }
  | _ => none }
def FnRGBAWriteTwiceWrongFalsely : Prop := fnRGBAWriteTwiceRow.holds Try.pinned (OpenSpec.ofChange fnRGBAWriteTwiceWrong)

/-- 'laws.FnRGBAOpaque': WHATEVER THE INPUT: true; the input reads as it did. -/
def fnRGBAOpaqueSpec : ChangeSpec := { name := "fnRGBAOpaque", fn := fun _ => fun
  | [d1, d2] => { results := [.lit (.bool true)], args := [d1, d2] }
  | _ => none }
def fnRGBAOpaqueRow : OpenClaim := { program := "ytilpoogcdhcmeaa", sum := "f77b40f771120ef3ef0e2ccdb0ab7b33f053d7beba55273206b37553543db929", func := "loop.example/lib-g01196/laws.FnRGBAOpaque", spec := "fnRGBAOpaque", apart := false }
def FnRGBAOpaqueSaid : Prop := fnRGBAOpaqueRow.holds Try.pinned (OpenSpec.ofChange fnRGBAOpaqueSpec)

/-- ITS FALSE NEIGHBOUR: 'it returns false'. Refute it at one input. -/
def fnRGBAOpaqueWrong : ChangeSpec := { name := "fnRGBAOpaque", fn := fun _ => fun
  | [d1, d2] => { results := [.lit (.bool false)], args := [d1, d2] }
  | _ => none }
def FnRGBAOpaqueWrongFalsely : Prop := fnRGBAOpaqueRow.holds Try.pinned (OpenSpec.ofChange fnRGBAOpaqueWrong)

/-- 'laws.FnRGBASubEmpty': WHATEVER THE INPUT: true; the input reads as it did. -/
def fnRGBASubEmptySpec : ChangeSpec := { name := "fnRGBASubEmpty", fn := fun _ => fun
  | [d1, d2, d3] => { results := [.lit (.bool true)], args := [d1, d2, d3] }
  | _ => none }
def fnRGBASubEmptyRow : OpenClaim := { program := "ytilpoogcdhcmeaa", sum := "f77b40f771120ef3ef0e2ccdb0ab7b33f053d7beba55273206b37553543db929", func := "loop.example/lib-g01196/laws.FnRGBASubEmpty", spec := "fnRGBASubEmpty", apart := false }
def FnRGBASubEmptySaid : Prop := fnRGBASubEmptyRow.holds Try.pinned (OpenSpec.ofChange fnRGBASubEmptySpec)

/-- ITS FALSE NEIGHBOUR: 'it returns false'. Refute it at one input. -/
def fnRGBASubEmptyWrong : ChangeSpec := { name := "fnRGBASubEmpty", fn := fun _ => fun
  | [d1, d2, d3] => { results := [.lit (.bool false)], args := [d1, d2, d3] }
  | _ => none }
def FnRGBASubEmptyWrongFalsely : Prop := fnRGBASubEmptyRow.holds Try.pinned (OpenSpec.ofChange fnRGBASubEmptyWrong)

/- THE SECOND FORM. 'bulk': how many values and letters a reading holds, each counted each time it is reached (what is shared counts as often as it is met; a slice's spare places count too). A statement '..UptoSaid' is the law's where the arguments, and the package variables that the reading takes, are together of bulk at most 1048576: NARROWER than '..Said'. Prove '..Said' where nothing that the law and all that it calls make is longer than what came in: it says more and counts as full. Else prove '..UptoSaid'. A law counts once. -/
mutual
def uptoBulk {H : Type} : DataW H → Nat
  | .lit (.string bytes) => bytes.length + 1
  | .lit _ => 1
  | .nil => 1
  | .ptr d => uptoBulk d + 1
  | .slice elems spare => uptoBulkAll elems + uptoBulkAll spare + 1
  | .agg parts => uptoBulkAll parts + 1
  | .iface _ d => uptoBulk d + 1
  | .map entries => uptoBulkEntries entries + 1
  | .held _ => 1
def uptoBulkAll {H : Type} : List (DataW H) → Nat
  | [] => 0
  | d :: r => uptoBulk d + uptoBulkAll r
def uptoBulkEntries {H : Type} : List (Lit × DataW H) → Nat
  | [] => 0
  | x :: r => uptoBulkEntry x + uptoBulkEntries r
def uptoBulkEntry {H : Type} : Lit × DataW H → Nat
  | (.string bytes, d) => bytes.length + uptoBulk d + 1
  | (_, d) => uptoBulk d + 1
 end
def uptoSmall : (H : Type) → List (DataW H) → Bool := fun _ ds => decide (uptoBulkAll ds ≤ 1048576)
def OpenSpec.upto (s : _root_.Go.ChangeSpec) : _root_.Go.OpenSpec := { _root_.Go.OpenSpec.ofChange s with cond := some uptoSmall }

/-- 'laws.FnRGBAWrite', WHERE WHAT IT READS IS OF BULK AT MOST 1048576: true; the input reads as it did. -/
def fnRGBAWriteUptoRow : OpenClaim := { program := "ytilpoogcdhcmeaa", sum := "f77b40f771120ef3ef0e2ccdb0ab7b33f053d7beba55273206b37553543db929", func := "loop.example/lib-g01196/laws.FnRGBAWrite", spec := "fnRGBAWrite", apart := false, narrowed := true }
def FnRGBAWriteUptoSaid : Prop := fnRGBAWriteUptoRow.holds Try.pinned (OpenSpec.upto fnRGBAWriteSpec)

/-- 'laws.FnRGBAWriteOutside', WHERE WHAT IT READS IS OF BULK AT MOST 1048576: true; the input reads as it did. -/
def fnRGBAWriteOutsideUptoRow : OpenClaim := { program := "ytilpoogcdhcmeaa", sum := "f77b40f771120ef3ef0e2ccdb0ab7b33f053d7beba55273206b37553543db929", func := "loop.example/lib-g01196/laws.FnRGBAWriteOutside", spec := "fnRGBAWriteOutside", apart := false, narrowed := true }
def FnRGBAWriteOutsideUptoSaid : Prop := fnRGBAWriteOutsideUptoRow.holds Try.pinned (OpenSpec.upto fnRGBAWriteOutsideSpec)

/-- 'laws.FnRGBAWriteRead', WHERE WHAT IT READS IS OF BULK AT MOST 1048576: true; the input reads as it did. -/
def fnRGBAWriteReadUptoRow : OpenClaim := { program := "ytilpoogcdhcmeaa", sum := "f77b40f771120ef3ef0e2ccdb0ab7b33f053d7beba55273206b37553543db929", func := "loop.example/lib-g01196/laws.FnRGBAWriteRead", spec := "fnRGBAWriteRead", apart := false, narrowed := true }
def FnRGBAWriteReadUptoSaid : Prop := fnRGBAWriteReadUptoRow.holds Try.pinned (OpenSpec.upto fnRGBAWriteReadSpec)

/-- 'laws.FnRGBAWriteTwice', WHERE WHAT IT READS IS OF BULK AT MOST 1048576: true; the input reads as it did. -/
def fnRGBAWriteTwiceUptoRow : OpenClaim := { program := "ytilpoogcdhcmeaa", sum := "f77b40f771120ef3ef0e2ccdb0ab7b33f053d7beba55273206b37553543db929", func := "loop.example/lib-g01196/laws.FnRGBAWriteTwice", spec := "fnRGBAWriteTwice", apart := false, narrowed := true }
def FnRGBAWriteTwiceUptoSaid : Prop := fnRGBAWriteTwiceUptoRow.holds Try.pinned (OpenSpec.upto fnRGBAWriteTwiceSpec)

/-- 'laws.FnRGBAOpaque', WHERE WHAT IT READS IS OF BULK AT MOST 1048576: true; the input reads as it did. -/
def fnRGBAOpaqueUptoRow : OpenClaim := { program := "ytilpoogcdhcmeaa", sum := "f77b40f771120ef3ef0e2ccdb0ab7b33f053d7beba55273206b37553543db929", func := "loop.example/lib-g01196/laws.FnRGBAOpaque", spec := "fnRGBAOpaque", apart := false, narrowed := true }
def FnRGBAOpaqueUptoSaid : Prop := fnRGBAOpaqueUptoRow.holds Try.pinned (OpenSpec.upto fnRGBAOpaqueSpec)

/-- 'laws.FnRGBASubEmpty', WHERE WHAT IT READS IS OF BULK AT MOST 1048576: true; the input reads as it did. -/
def fnRGBASubEmptyUptoRow : OpenClaim := { program := "ytilpoogcdhcmeaa", sum := "f77b40f771120ef3ef0e2ccdb0ab7b33f053d7beba55273206b37553543db929", func := "loop.example/lib-g01196/laws.FnRGBASubEmpty", spec := "fnRGBASubEmpty", apart := false, narrowed := true }
def FnRGBASubEmptyUptoSaid : Prop := fnRGBASubEmptyUptoRow.holds Try.pinned (OpenSpec.upto fnRGBASubEmptySpec)

end Rows
end Go.Proofs.Ytilpoogcdhcmeaa

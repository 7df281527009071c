/-
  No cell of these rows narrows 'for every input' (looked for: loops, veiled, ifaces, maps, wideKeys, modest, calm, conditions, laid).
  DERIVED. THE GIVEN ROWS OF THIS SEAT. 6 by the template 'for every input the law returns true; each argument reads behind the call as it read before'; 0 by the template 'total and deterministic' (their statements: YtcgdafcjipfccaaTotals.lean).
  GIVEN WITH THE SEED: the statements are not yours to turn. If you find one false, say at which input.
  Laid BY PROGRAM, IN A SANDBOX (cutbox-rows.mjs): the forced cells as the released guide's own fill.sh prints them over the translation d1b465671fb3fdf5… (all of the seat's roots in one cut). By AI agents, Wed Nov 11 2026. No macro, syntax, notation, axiom, sorry.
-/
import Derived.Test.YtcgdafcjipfccaaChecked
import GoSem.Claim
import GoSem.ClaimJoined
import GoSem.ClaimMapViews
import Derived.JoinedTies
import Derived.KernelRfl
namespace Go.Proofs.Ytcgdafcjipfccaa
/- THE CELL 'sum', in the pinned program and in every row, IS THE sha256 OF THE DUMP (.gsa) THAT YtcgdafcjipfccaaProg.lean LOADS. Nothing in Lean hashes anything: it is a label: what it is worth is what the hold of that sum in a sandbox is worth. -/
noncomputable def Try.pinned : Pinned := { name := "ytcgdafcjipfccaa", sum := "d1b465671fb3fdf5e8d235e89bc4eefced990f6829ca8c35ee762a946dcf529c", checked := Try.checked }
namespace Rows
def none {H : Type} : Left H := { results := [], args := [] }

/-- 'laws.FnAlphaWrite': WHATEVER THE INPUT: true; the input reads as it did. -/
def fnAlphaWriteSpec : ChangeSpec := { name := "fnAlphaWrite", fn := fun _ => fun
  | [d1, d2, d3, d4, d5] => { results := [.lit (.bool true)], args := [d1, d2, d3, d4, d5] }
  | _ => none }
def fnAlphaWriteRow : OpenClaim := { program := "ytcgdafcjipfccaa", sum := "d1b465671fb3fdf5e8d235e89bc4eefced990f6829ca8c35ee762a946dcf529c", func := "loop.example/lib-g01196/laws.FnAlphaWrite", spec := "fnAlphaWrite", apart := false }
def FnAlphaWriteSaid : Prop := fnAlphaWriteRow.holds Try.pinned (OpenSpec.ofChange fnAlphaWriteSpec)

/-- ITS FALSE NEIGHBOUR: 'it returns false'. Refute it at one input. -/
def fnAlphaWriteWrong : ChangeSpec := { name := "fnAlphaWrite", fn := fun _ => fun
  | [d1, d2, d3, d4, d5] => { results := [.lit (.bool false)], args := [d1, d2, d3, d4, d5] }
  | _ => none }
def FnAlphaWriteWrongFalsely : Prop := fnAlphaWriteRow.holds Try.pinned (OpenSpec.ofChange fnAlphaWriteWrong)

/-- 'laws.FnAlphaWriteOutside': WHATEVER THE INPUT: true; the input reads as it did. -/
def fnAlphaWriteOutsideSpec : ChangeSpec := { name := "fnAlphaWriteOutside", fn := fun _ => fun
  | [d1, d2, d3, d4, d5] => { results := [.lit (.bool true)], args := [d1, d2, d3, d4, d5] }
  | _ => none }
def fnAlphaWriteOutsideRow : OpenClaim := { program := "ytcgdafcjipfccaa", sum := "d1b465671fb3fdf5e8d235e89bc4eefced990f6829ca8c35ee762a946dcf529c", func := "loop.example/lib-g01196/laws.FnAlphaWriteOutside", spec := "fnAlphaWriteOutside", apart := false }
def FnAlphaWriteOutsideSaid : Prop := fnAlphaWriteOutsideRow.holds Try.pinned (OpenSpec.ofChange fnAlphaWriteOutsideSpec)

/-- ITS FALSE NEIGHBOUR: 'it returns false'. Refute it at one input. -/
def fnAlphaWriteOutsideWrong : ChangeSpec := { name := "fnAlphaWriteOutside", fn := fun _ => fun
  | [d1, d2, d3, d4, d5] => { results := [.lit (.bool false)], args := [d1, d2, d3, d4, d5] }
  | _ => none }
def FnAlphaWriteOutsideWrongFalsely : Prop := fnAlphaWriteOutsideRow.holds Try.pinned (OpenSpec.ofChange fnAlphaWriteOutsideWrong)

/-- 'laws.FnAlphaWriteRead': WHATEVER THE INPUT: true; the input reads as it did. -/
def fnAlphaWriteReadSpec : ChangeSpec := { name := "fnAlphaWriteRead", fn := fun _ => fun
  | [d1, d2, d3, d4, d5, d6, d7] => { results := [.lit (.bool true)], args := [d1, d2, d3, d4, d5, d6, d7] }
  | _ => none }
def fnAlphaWriteReadRow : OpenClaim := { program := "ytcgdafcjipfccaa", sum := "d1b465671fb3fdf5e8d235e89bc4eefced990f6829ca8c35ee762a946dcf529c", func := "loop.example/lib-g01196/laws.FnAlphaWriteRead", spec := "fnAlphaWriteRead", apart := false }
def FnAlphaWriteReadSaid : Prop := fnAlphaWriteReadRow.holds Try.pinned (OpenSpec.ofChange fnAlphaWriteReadSpec)

/-- ITS FALSE NEIGHBOUR: 'it returns false'. Refute it at one input. -/
def fnAlphaWriteReadWrong : ChangeSpec := { name := "fnAlphaWriteRead", fn := fun _ => fun
  | [d1, d2, d3, d4, d5, d6, d7] => { results := [.lit (.bool false)], args := [d1, d2, d3, d4, d5, d6, d7] }
  | _ => none }
def FnAlphaWriteReadWrongFalsely : Prop := fnAlphaWriteReadRow.holds Try.pinned (OpenSpec.ofChange fnAlphaWriteReadWrong)

/-- 'laws.FnAlphaWriteTwice': WHATEVER THE INPUT: true; the input reads as it did. -/
def fnAlphaWriteTwiceSpec : ChangeSpec := { name := "fnAlphaWriteTwice", fn := fun _ => fun
  | [d1, d2, d3, d4, d5, d6, d7, d8] => { results := [.lit (.bool true)], args := [d1, d2, d3, d4, d5, d6, d7, d8] }
  | _ => none }
def fnAlphaWriteTwiceRow : OpenClaim := { program := "ytcgdafcjipfccaa", sum := "d1b465671fb3fdf5e8d235e89bc4eefced990f6829ca8c35ee762a946dcf529c", func := "loop.example/lib-g01196/laws.FnAlphaWriteTwice", spec := "fnAlphaWriteTwice", apart := false }
def FnAlphaWriteTwiceSaid : Prop := fnAlphaWriteTwiceRow.holds Try.pinned (OpenSpec.ofChange fnAlphaWriteTwiceSpec)

/-- ITS FALSE NEIGHBOUR: 'it returns false'. Refute it at one input. -/
def fnAlphaWriteTwiceWrong : ChangeSpec := { name := "fnAlphaWriteTwice", fn := fun _ => fun
  | [d1, d2, d3, d4, d5, d6, d7, d8] => { results := [.lit (.bool false)], args := [d1, d2, d3, d4, d5, d6, d7, d8] }
  | _ => none }
def FnAlphaWriteTwiceWrongFalsely : Prop := fnAlphaWriteTwiceRow.holds Try.pinned (OpenSpec.ofChange fnAlphaWriteTwiceWrong)

/-- 'laws.FnAlphaOpaque': WHATEVER THE INPUT: true; the input reads as it did. -/
def fnAlphaOpaqueSpec : ChangeSpec := { name := "fnAlphaOpaque", fn := fun _ => fun
  | [d1, d2] => { results := [.lit (.bool true)], args := [d1, d2] }
  | _ => none }
def fnAlphaOpaqueRow : OpenClaim := { program := "ytcgdafcjipfccaa", sum := "d1b465671fb3fdf5e8d235e89bc4eefced990f6829ca8c35ee762a946dcf529c", func := "loop.example/lib-g01196/laws.FnAlphaOpaque", spec := "fnAlphaOpaque", apart := false }
def FnAlphaOpaqueSaid : Prop := fnAlphaOpaqueRow.holds Try.pinned (OpenSpec.ofChange fnAlphaOpaqueSpec)

/-- ITS FALSE NEIGHBOUR: 'it returns false'. Refute it at one input. -/
def fnAlphaOpaqueWrong : ChangeSpec := { name := "fnAlphaOpaque", fn := fun _ => fun
  | [d1, d2] => { results := [.lit (.bool false)], args := [d1, d2] }
  | _ => none }
def FnAlphaOpaqueWrongFalsely : Prop := fnAlphaOpaqueRow.holds Try.pinned (OpenSpec.ofChange fnAlphaOpaqueWrong)

/-- 'laws.FnAlphaSubEmpty': WHATEVER THE INPUT: true; the input reads as it did. -/
def fnAlphaSubEmptySpec : ChangeSpec := { name := "fnAlphaSubEmpty", fn := fun _ => fun
  | [d1, d2, d3] => { results := [.lit (.bool true)], args := [d1, d2, d3] }
  | _ => none }
def fnAlphaSubEmptyRow : OpenClaim := { program := "ytcgdafcjipfccaa", sum := "d1b465671fb3fdf5e8d235e89bc4eefced990f6829ca8c35ee762a946dcf529c", func := "loop.example/lib-g01196/laws.FnAlphaSubEmpty", spec := "fnAlphaSubEmpty", apart := false }
def FnAlphaSubEmptySaid : Prop := fnAlphaSubEmptyRow.holds Try.pinned (OpenSpec.ofChange fnAlphaSubEmptySpec)

/-- ITS FALSE NEIGHBOUR: 'it returns false'. Refute it at one input. -/
def fnAlphaSubEmptyWrong : ChangeSpec := { name := "fnAlphaSubEmpty", fn := fun _ => fun
  | [d1, d2, d3] => { results := [.lit (.bool false)], args := [d1, d2, d3] }
  | _ => none }
def FnAlphaSubEmptyWrongFalsely : Prop := fnAlphaSubEmptyRow.holds Try.pinned (OpenSpec.ofChange fnAlphaSubEmptyWrong)

/- THE SECOND FORM. 'bulk': how many values and letters a reading holds, each counted each time it is reached (what is shared counts as often as it is met; a slice's spare places count too). A statement '..UptoSaid' is the law's where the arguments, and the package variables that the reading takes, are together of bulk at most 1048576: NARROWER than '..Said'. Prove '..Said' where nothing that the law and all that it calls make is longer than what came in: it says more and counts as full. Else prove '..UptoSaid'. A law counts once. -/
mutual
def uptoBulk {H : Type} : DataW H → Nat
  | .lit (.string bytes) => bytes.length + 1
  | .lit _ => 1
  | .nil => 1
  | .ptr d => uptoBulk d + 1
  | .slice elems spare => uptoBulkAll elems + uptoBulkAll spare + 1
  | .agg parts => uptoBulkAll parts + 1
  | .iface _ d => uptoBulk d + 1
  | .map entries => uptoBulkEntries entries + 1
  | .held _ => 1
def uptoBulkAll {H : Type} : List (DataW H) → Nat
  | [] => 0
  | d :: r => uptoBulk d + uptoBulkAll r
def uptoBulkEntries {H : Type} : List (Lit × DataW H) → Nat
  | [] => 0
  | x :: r => uptoBulkEntry x + uptoBulkEntries r
def uptoBulkEntry {H : Type} : Lit × DataW H → Nat
  | (.string bytes, d) => bytes.length + uptoBulk d + 1
  | (_, d) => uptoBulk d + 1
 end
def uptoSmall : (H : Type) → List (DataW H) → Bool := fun _ ds => decide (uptoBulkAll ds ≤ 1048576)
def OpenSpec.upto (s : _root_.Go.ChangeSpec) : _root_.Go.OpenSpec := { _root_.Go.OpenSpec.ofChange s with cond := some uptoSmall }

/-- 'laws.FnAlphaWrite', WHERE WHAT IT READS IS OF BULK AT MOST 1048576: true; the input reads as it did. -/
def fnAlphaWriteUptoRow : OpenClaim := { program := "ytcgdafcjipfccaa", sum := "d1b465671fb3fdf5e8d235e89bc4eefced990f6829ca8c35ee762a946dcf529c", func := "loop.example/lib-g01196/laws.FnAlphaWrite", spec := "fnAlphaWrite", apart := false, narrowed := true }
def FnAlphaWriteUptoSaid : Prop := fnAlphaWriteUptoRow.holds Try.pinned (OpenSpec.upto fnAlphaWriteSpec)

/-- 'laws.FnAlphaWriteOutside', WHERE WHAT IT READS IS OF BULK AT MOST 1048576: true; the input reads as it did. -/
def fnAlphaWriteOutsideUptoRow : OpenClaim := { program := "ytcgdafcjipfccaa", sum := "d1b465671fb3fdf5e8d235e89bc4eefced990f6829ca8c35ee762a946dcf529c", func := "loop.example/lib-g01196/laws.FnAlphaWriteOutside", spec := "fnAlphaWriteOutside", apart := false, narrowed := true }
def FnAlphaWriteOutsideUptoSaid : Prop := fnAlphaWriteOutsideUptoRow.holds Try.pinned (OpenSpec.upto fnAlphaWriteOutsideSpec)

/-- 'laws.FnAlphaWriteRead', WHERE WHAT IT READS IS OF BULK AT MOST 1048576: true; the input reads as it did. -/
def fnAlphaWriteReadUptoRow : OpenClaim := { program := "ytcgdafcjipfccaa", sum := "d1b465671fb3fdf5e8d235e89bc4eefced990f6829ca8c35ee762a946dcf529c", func := "loop.example/lib-g01196/laws.FnAlphaWriteRead", spec := "fnAlphaWriteRead", apart := false, narrowed := true }
def FnAlphaWriteReadUptoSaid : Prop := fnAlphaWriteReadUptoRow.holds Try.pinned (OpenSpec.upto fnAlphaWriteReadSpec)

/-- 'laws.FnAlphaWriteTwice', WHERE WHAT IT READS IS OF BULK AT MOST 1048576: true; the input reads as it did. -/
def fnAlphaWriteTwiceUptoRow : OpenClaim := { program := "ytcgdafcjipfccaa", sum := "d1b465671fb3fdf5e8d235e89bc4eefced990f6829ca8c35ee762a946dcf529c", func := "loop.example/lib-g01196/laws.FnAlphaWriteTwice", spec := "fnAlphaWriteTwice", apart := false, narrowed := true }
def FnAlphaWriteTwiceUptoSaid : Prop := fnAlphaWriteTwiceUptoRow.holds Try.pinned (OpenSpec.upto fnAlphaWriteTwiceSpec)

/-- 'laws.FnAlphaOpaque', WHERE WHAT IT READS IS OF BULK AT MOST 1048576: true; the input reads as it did. -/
def fnAlphaOpaqueUptoRow : OpenClaim := { program := "ytcgdafcjipfccaa", sum := "d1b465671fb3fdf5e8d235e89bc4eefced990f6829ca8c35ee762a946dcf529c", func := "loop.example/lib-g01196/laws.FnAlphaOpaque", spec := "fnAlphaOpaque", apart := false, narrowed := true }
def FnAlphaOpaqueUptoSaid : Prop := fnAlphaOpaqueUptoRow.holds Try.pinned (OpenSpec.upto fnAlphaOpaqueSpec)

/-- 'laws.FnAlphaSubEmpty', WHERE WHAT IT READS IS OF BULK AT MOST 1048576: true; the input reads as it did. -/
def fnAlphaSubEmptyUptoRow : OpenClaim := { program := "ytcgdafcjipfccaa", sum := "d1b465671fb3fdf5e8d235e89bc4eefced990f6829ca8c35ee762a946dcf529c", func := "loop.example/lib-g01196/laws.FnAlphaSubEmpty", spec := "fnAlphaSubEmpty", apart := false, narrowed := true }
def FnAlphaSubEmptyUptoSaid : Prop := fnAlphaSubEmptyUptoRow.holds Try.pinned (OpenSpec.upto fnAlphaSubEmptySpec)

end Rows
end Go.Proofs.Ytcgdafcjipfccaa

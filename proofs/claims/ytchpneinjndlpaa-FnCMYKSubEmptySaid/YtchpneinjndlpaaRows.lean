/-
  No cell of these rows narrows 'for every input' (looked for: loops, veiled, ifaces, maps, wideKeys, modest, calm, conditions, laid).
  DERIVED. THE GIVEN ROWS OF THIS SEAT. 6 by the template 'for every input the law returns true; each argument reads behind the call as it read before'; 0 by the template 'total and deterministic' (their statements: YtchpneinjndlpaaTotals.lean).
  GIVEN WITH THE SEED: the statements are not yours to turn. If you find one false, say at which input.
  Laid BY PROGRAM, IN A SANDBOX (cutbox-rows.mjs): the forced cells as the released guide's own fill.sh prints them over the translation d8d522d62ace7519… (all of the seat's roots in one cut). By AI agents, Wed Nov 11 2026. No macro, syntax, notation, axiom, sorry.
-/
import Derived.Test.YtchpneinjndlpaaChecked
import GoSem.Claim
import GoSem.ClaimJoined
import GoSem.ClaimMapViews
import Derived.JoinedTies
import Derived.KernelRfl
namespace Go.Proofs.Ytchpneinjndlpaa
/- THE CELL 'sum', in the pinned program and in every row, IS THE sha256 OF THE DUMP (.gsa) THAT YtchpneinjndlpaaProg.lean LOADS. Nothing in Lean hashes anything: it is a label: what it is worth is what the hold of that sum in a sandbox is worth. -/
noncomputable def Try.pinned : Pinned := { name := "ytchpneinjndlpaa", sum := "d8d522d62ace751937cfd5f63866b41db25ce699ffefe1f89a070b1ff9f3e778", checked := Try.checked }
namespace Rows
def none {H : Type} : Left H := { results := [], args := [] }

/-- 'laws.FnCMYKWrite': WHATEVER THE INPUT: true; the input reads as it did. -/
def fnCMYKWriteSpec : ChangeSpec := { name := "fnCMYKWrite", fn := fun _ => fun
  | [d1, d2, d3, d4, d5] => { results := [.lit (.bool true)], args := [d1, d2, d3, d4, d5] }
  | _ => none }
def fnCMYKWriteRow : OpenClaim := { program := "ytchpneinjndlpaa", sum := "d8d522d62ace751937cfd5f63866b41db25ce699ffefe1f89a070b1ff9f3e778", func := "loop.example/lib-g01196/laws.FnCMYKWrite", spec := "fnCMYKWrite", apart := false }
def FnCMYKWriteSaid : Prop := fnCMYKWriteRow.holds Try.pinned (OpenSpec.ofChange fnCMYKWriteSpec)

/-- ITS FALSE NEIGHBOUR: 'it returns false'. Refute it at one input. -/
def fnCMYKWriteWrong : ChangeSpec := { name := "fnCMYKWrite", fn := fun _ => fun
  | [d1, d2, d3, d4, d5] => { results := [.lit (.bool false)], args := [d1, d2, d3, d4, d5] }
  | _ => none }
def FnCMYKWriteWrongFalsely : Prop := fnCMYKWriteRow.holds Try.pinned (OpenSpec.ofChange fnCMYKWriteWrong)

/-- 'laws.FnCMYKWriteOutside': WHATEVER THE INPUT: true; the input reads as it did. -/
def fnCMYKWriteOutsideSpec : ChangeSpec := { name := "fnCMYKWriteOutside", fn := fun _ => fun
  | [d1, d2, d3, d4, d5] => { results := [.lit (.bool true)], args := [d1, d2, d3, d4, d5] }
  | _ => none }
def fnCMYKWriteOutsideRow : OpenClaim := { program := "ytchpneinjndlpaa", sum := "d8d522d62ace751937cfd5f63866b41db25ce699ffefe1f89a070b1ff9f3e778", func := "loop.example/lib-g01196/laws.FnCMYKWriteOutside", spec := "fnCMYKWriteOutside", apart := false }
def FnCMYKWriteOutsideSaid : Prop := fnCMYKWriteOutsideRow.holds Try.pinned (OpenSpec.ofChange fnCMYKWriteOutsideSpec)

/-- ITS FALSE NEIGHBOUR: 'it returns false'. Refute it at one input. -/
def fnCMYKWriteOutsideWrong : ChangeSpec := { name := "fnCMYKWriteOutside", fn := fun _ => fun
  | [d1, d2, d3, d4, d5] => { results := [.lit (.bool false)], args := [d1, d2, d3, d4, d5] }
  | _ => none }
def FnCMYKWriteOutsideWrongFalsely : Prop := fnCMYKWriteOutsideRow.holds Try.pinned (OpenSpec.ofChange fnCMYKWriteOutsideWrong)

/-- 'laws.FnCMYKWriteRead': WHATEVER THE INPUT: true; the input reads as it did. -/
def fnCMYKWriteReadSpec : ChangeSpec := { name := "fnCMYKWriteRead", fn := fun _ => fun
  | [d1, d2, d3, d4, d5, d6, d7] => { results := [.lit (.bool true)], args := [d1, d2, d3, d4, d5, d6, d7] }
  | _ => none }
def fnCMYKWriteReadRow : OpenClaim := { program := "ytchpneinjndlpaa", sum := "d8d522d62ace751937cfd5f63866b41db25ce699ffefe1f89a070b1ff9f3e778", func := "loop.example/lib-g01196/laws.FnCMYKWriteRead", spec := "fnCMYKWriteRead", apart := false }
def FnCMYKWriteReadSaid : Prop := fnCMYKWriteReadRow.holds Try.pinned (OpenSpec.ofChange fnCMYKWriteReadSpec)

/-- ITS FALSE NEIGHBOUR: 'it returns false'. Refute it at one input. -/
def fnCMYKWriteReadWrong : ChangeSpec := { name := "fnCMYKWriteRead", fn := fun _ => fun
  | [d1, d2, d3, d4, d5, d6, d7] => { results := [.lit (.bool false)], args := [d1, d2, d3, d4, d5, d6, d7] }
  | _ => none }
def FnCMYKWriteReadWrongFalsely : Prop := fnCMYKWriteReadRow.holds Try.pinned (OpenSpec.ofChange fnCMYKWriteReadWrong)

/-- 'laws.FnCMYKWriteTwice': WHATEVER THE INPUT: true; the input reads as it did. -/
def fnCMYKWriteTwiceSpec : ChangeSpec := { name := "fnCMYKWriteTwice", fn := fun _ => fun
  | [d1, d2, d3, d4, d5, d6, d7, d8] => { results := [.lit (.bool true)], args := [d1, d2, d3, d4, d5, d6, d7, d8] }
  | _ => none }
def fnCMYKWriteTwiceRow : OpenClaim := { program := "ytchpneinjndlpaa", sum := "d8d522d62ace751937cfd5f63866b41db25ce699ffefe1f89a070b1ff9f3e778", func := "loop.example/lib-g01196/laws.FnCMYKWriteTwice", spec := "fnCMYKWriteTwice", apart := false }
def FnCMYKWriteTwiceSaid : Prop := fnCMYKWriteTwiceRow.holds Try.pinned (OpenSpec.ofChange fnCMYKWriteTwiceSpec)

/-- ITS FALSE NEIGHBOUR: 'it returns false'. Refute it at one input. -/
def fnCMYKWriteTwiceWrong : ChangeSpec := { name := "fnCMYKWriteTwice", fn := fun _ => fun
  | [d1, d2, d3, d4, d5, d6, d7, d8] => { results := [.lit (.bool false)], args := [d1, d2, d3, d4, d5, d6, d7, d8] }
  | _ => none }
def FnCMYKWriteTwiceWrongFalsely : Prop := fnCMYKWriteTwiceRow.holds Try.pinned (OpenSpec.ofChange fnCMYKWriteTwiceWrong)

/-- 'laws.FnCMYKOpaque': WHATEVER THE INPUT: true; the input reads as it did. -/
def fnCMYKOpaqueSpec : ChangeSpec := { name := "fnCMYKOpaque", fn := fun _ => fun
  | [d1, d2] => { results := [.lit (.bool true)], args := [d1, d2] }
  | _ => none }
def fnCMYKOpaqueRow : OpenClaim := { program := "ytchpneinjndlpaa", sum := "d8d522d62ace751937cfd5f63866b41db25ce699ffefe1f89a070b1ff9f3e778", func := "loop.example/lib-g01196/laws.FnCMYKOpaque", spec := "fnCMYKOpaque", apart := false }
def FnCMYKOpaqueSaid : Prop := fnCMYKOpaqueRow.holds Try.pinned (OpenSpec.ofChange fnCMYKOpaqueSpec)

/-- ITS FALSE NEIGHBOUR: 'it returns false'. Refute it at one input. -/
def fnCMYKOpaqueWrong : ChangeSpec := { name := "fnCMYKOpaque", fn := fun _ => fun
  | [d1, d2] => { results := [.lit (.bool false)], args := [d1, d2] }
  | _ => none }
def FnCMYKOpaqueWrongFalsely : Prop := fnCMYKOpaqueRow.holds Try.pinned (OpenSpec.ofChange fnCMYKOpaqueWrong)

/-- 'laws.FnCMYKSubEmpty': WHATEVER THE INPUT: true; the input reads as it did. -/
def fnCMYKSubEmptySpec : ChangeSpec := { name := "fnCMYKSubEmpty", fn := fun _ => fun
  | [d1, d2, d3] => { results := [.lit (.bool true)], args := [d1, d2, d3] }
  | _ => none }
def fnCMYKSubEmptyRow : OpenClaim := { program := "ytchpneinjndlpaa", sum := "d8d522d62ace751937cfd5f63866b41db25ce699ffefe1f89a070b1ff9f3e778", func := "loop.example/lib-g01196/laws.FnCMYKSubEmpty", spec := "fnCMYKSubEmpty", apart := false }
def FnCMYKSubEmptySaid : Prop := fnCMYKSubEmptyRow.holds Try.pinned (OpenSpec.ofChange fnCMYKSubEmptySpec)

/-- ITS FALSE NEIGHBOUR: 'it returns false'. Refute it at one input. -/
def fnCMYKSubEmptyWrong : ChangeSpec := { name := "fnCMYKSubEmpty", fn := fun _ => fun
  | [d1, d2, d3] => { results := [.lit (.bool false)], args := [d1, d2, d3] }
  | _ => none }
def FnCMYKSubEmptyWrongFalsely : Prop := fnCMYKSubEmptyRow.holds Try.pinned (OpenSpec.ofChange fnCMYKSubEmptyWrong)

/- THE SECOND FORM. 'bulk': how many values and letters a reading holds, each counted each time it is reached (what is shared counts as often as it is met; a slice's spare places count too). A statement '..UptoSaid' is the law's where the arguments, and the package variables that the reading takes, are together of bulk at most 1048576: NARROWER than '..Said'. Prove '..Said' where nothing that the law and all that it calls make is longer than what came in: it says more and counts as full. Else prove '..UptoSaid'. A law counts once. -/
mutual
def uptoBulk {H : Type} : DataW H → Nat
  | .lit (.string bytes) => bytes.length + 1
  | .lit _ => 1
  | .nil => 1
  | .ptr d => uptoBulk d + 1
  | .slice elems spare => uptoBulkAll elems + uptoBulkAll spare + 1
  | .agg parts => uptoBulkAll parts + 1
  | .iface _ d => uptoBulk d + 1
  | .map entries => uptoBulkEntries entries + 1
  | .held _ => 1
def uptoBulkAll {H : Type} : List (DataW H) → Nat
  | [] => 0
  | d :: r => uptoBulk d + uptoBulkAll r
def uptoBulkEntries {H : Type} : List (Lit × DataW H) → Nat
  | [] => 0
  | x :: r => uptoBulkEntry x + uptoBulkEntries r
def uptoBulkEntry {H : Type} : Lit × DataW H → Nat
  | (.string bytes, d) => bytes.length + uptoBulk d + 1
  | (_, d) => uptoBulk d + 1
 end
def uptoSmall : (H : Type) → List (DataW H) → Bool := fun _ ds => decide (uptoBulkAll ds ≤ 1048576)
def OpenSpec.upto (s : _root_.Go.ChangeSpec) : _root_.Go.OpenSpec := { _root_.Go.OpenSpec.ofChange s with cond := some uptoSmall }

/-- 'laws.FnCMYKWrite', WHERE WHAT IT READS IS OF BULK AT MOST 1048576: true; the input reads as it did. -/
def fnCMYKWriteUptoRow : OpenClaim := { program := "ytchpneinjndlpaa", sum := "d8d522d62ace751937cfd5f63866b41db25ce699ffefe1f89a070b1ff9f3e778", func := "loop.example/lib-g01196/laws.FnCMYKWrite", spec := "fnCMYKWrite", apart := false, narrowed := true }
def FnCMYKWriteUptoSaid : Prop := fnCMYKWriteUptoRow.holds Try.pinned (OpenSpec.upto fnCMYKWriteSpec)

/-- 'laws.FnCMYKWriteOutside', WHERE WHAT IT READS IS OF BULK AT MOST 1048576: true; the input reads as it did. -/
def fnCMYKWriteOutsideUptoRow : OpenClaim := { program := "ytchpneinjndlpaa", sum := "d8d522d62ace751937cfd5f63866b41db25ce699ffefe1f89a070b1ff9f3e778", func := "loop.example/lib-g01196/laws.FnCMYKWriteOutside", spec := "fnCMYKWriteOutside", apart := false, narrowed := true }
def FnCMYKWriteOutsideUptoSaid : Prop := fnCMYKWriteOutsideUptoRow.holds Try.pinned (OpenSpec.upto fnCMYKWriteOutsideSpec)

/-- 'laws.FnCMYKWriteRead', WHERE WHAT IT READS IS OF BULK AT MOST 1048576: true; the input reads as it did. -/
def fnCMYKWriteReadUptoRow : OpenClaim := { program := "ytchpneinjndlpaa", sum := "d8d522d62ace751937cfd5f63866b41db25ce699ffefe1f89a070b1ff9f3e778", func := "loop.example/lib-g01196/laws.FnCMYKWriteRead", spec := "fnCMYKWriteRead", apart := false, narrowed := true }
def FnCMYKWriteReadUptoSaid : Prop := fnCMYKWriteReadUptoRow.holds Try.pinned (OpenSpec.upto fnCMYKWriteReadSpec)

/-- 'laws.FnCMYKWriteTwice', WHERE WHAT IT READS IS OF BULK AT MOST 1048576: true; the input reads as it did. -/
def fnCMYKWriteTwiceUptoRow : OpenClaim := { program := "ytchpneinjndlpaa", sum := "d8d522d62ace751937cfd5f63866b41db25ce699ffefe1f89a070b1ff9f3e778", func := "loop.example/lib-g01196/laws.FnCMYKWriteTwice", spec := "fnCMYKWriteTwice", apart := false, narrowed := true }
def FnCMYKWriteTwiceUptoSaid : Prop := fnCMYKWriteTwiceUptoRow.holds Try.pinned (OpenSpec.upto fnCMYKWriteTwiceSpec)

/-- 'laws.FnCMYKOpaque', WHERE WHAT IT READS IS OF BULK AT MOST 1048576: true; the input reads as it did. -/
def fnCMYKOpaqueUptoRow : OpenClaim := { program := "ytchpneinjndlpaa", sum := "d8d522d62ace751937cfd5f63866b41db25ce699ffefe1f89a070b1ff9f3e778", func := "loop.example/lib-g01196/laws.FnCMYKOpaque", spec := "fnCMYKOpaque", apart := false, narrowed := true }
def FnCMYKOpaqueUptoSaid : Prop := fnCMYKOpaqueUptoRow.holds Try.pinned (OpenSpec.upto fnCMYKOpaqueSpec)

/-- 'laws.FnCMYKSubEmpty', WHERE WHAT IT READS IS OF BULK AT MOST 1048576: true; the input reads as it did. -/
def fnCMYKSubEmptyUptoRow : OpenClaim := { program := "ytchpneinjndlpaa", sum := "d8d522d62ace751937cfd5f63866b41db25ce699ffefe1f89a070b1ff9f3e778", func := "loop.example/lib-g01196/laws.FnCMYKSubEmpty", spec := "fnCMYKSubEmpty", apart := false, narrowed := true }
def FnCMYKSubEmptyUptoSaid : Prop := fnCMYKSubEmptyUptoRow.holds Try.pinned (OpenSpec.upto fnCMYKSubEmptySpec)

end Rows
end Go.Proofs.Ytchpneinjndlpaa

/-
  No cell of these rows narrows 'for every input' (looked for: loops, veiled, ifaces, maps, wideKeys, modest, calm, conditions, laid).
  DERIVED. THE GIVEN ROWS OF THIS SEAT. 4 by the template 'for every input the law returns true; each argument reads behind the call as it read before'; 0 by the template 'total and deterministic' (their statements: YtbmpjehahimelaaTotals.lean).
  GIVEN WITH THE SEED: the statements are not yours to turn. If you find one false, say at which input.
  Laid BY PROGRAM, IN A SANDBOX (cutbox-rows.mjs): the forced cells as the released guide's own fill.sh prints them over the translation f860a111a793f32b… (all of the seat's roots in one cut). By AI agents, Wed Nov 11 2026. No macro, syntax, notation, axiom, sorry.
-/
import Derived.Test.YtbmpjehahimelaaChecked
import GoSem.Claim
import GoSem.ClaimJoined
import GoSem.ClaimMapViews
import Derived.JoinedTies
import Derived.KernelRfl
namespace Go.Proofs.Ytbmpjehahimelaa
/- THE CELL 'sum', in the pinned program and in every row, IS THE sha256 OF THE DUMP (.gsa) THAT YtbmpjehahimelaaProg.lean LOADS. Nothing in Lean hashes anything: it is a label: what it is worth is what the hold of that sum in a sandbox is worth. -/
noncomputable def Try.pinned : Pinned := { name := "ytbmpjehahimelaa", sum := "f860a111a793f32bb8656e77b93517d1f9efe74f5b4d2892cb805d582a035c87", checked := Try.checked }
namespace Rows
def none {H : Type} : Left H := { results := [], args := [] }

/-- 'laws.FnYCbCrSub': WHATEVER THE INPUT: true; the input reads as it did. -/
def fnYCbCrSubSpec : ChangeSpec := { name := "fnYCbCrSub", fn := fun _ => fun
  | [d1, d2, d3, d4, d5, d6] => { results := [.lit (.bool true)], args := [d1, d2, d3, d4, d5, d6] }
  | _ => none }
def fnYCbCrSubRow : OpenClaim := { program := "ytbmpjehahimelaa", sum := "f860a111a793f32bb8656e77b93517d1f9efe74f5b4d2892cb805d582a035c87", func := "loop.example/lib-g01196/laws.FnYCbCrSub", spec := "fnYCbCrSub", apart := false }
def FnYCbCrSubSaid : Prop := fnYCbCrSubRow.holds Try.pinned (OpenSpec.ofChange fnYCbCrSubSpec)

/-- ITS FALSE NEIGHBOUR: 'it returns false'. Refute it at one input. -/
def fnYCbCrSubWrong : ChangeSpec := { name := "fnYCbCrSub", fn := fun _ => fun
  | [d1, d2, d3, d4, d5, d6] => { results := [.lit (.bool false)], args := [d1, d2, d3, d4, d5, d6] }
  | _ => none }
def FnYCbCrSubWrongFalsely : Prop := fnYCbCrSubRow.holds Try.pinned (OpenSpec.ofChange fnYCbCrSubWrong)

/-- 'laws.FnYCbCrSubEmpty': WHATEVER THE INPUT: true; the input reads as it did. -/
def fnYCbCrSubEmptySpec : ChangeSpec := { name := "fnYCbCrSubEmpty", fn := fun _ => fun
  | [d1, d2, d3, d4, d5, d6] => { results := [.lit (.bool true)], args := [d1, d2, d3, d4, d5, d6] }
  | _ => none }
def fnYCbCrSubEmptyRow : OpenClaim := { program := "ytbmpjehahimelaa", sum := "f860a111a793f32bb8656e77b93517d1f9efe74f5b4d2892cb805d582a035c87", func := "loop.example/lib-g01196/laws.FnYCbCrSubEmpty", spec := "fnYCbCrSubEmpty", apart := false }
def FnYCbCrSubEmptySaid : Prop := fnYCbCrSubEmptyRow.holds Try.pinned (OpenSpec.ofChange fnYCbCrSubEmptySpec)

/-- ITS FALSE NEIGHBOUR: 'it returns false'. Refute it at one input. -/
def fnYCbCrSubEmptyWrong : ChangeSpec := { name := "fnYCbCrSubEmpty", fn := fun _ => fun
  | [d1, d2, d3, d4, d5, d6] => { results := [.lit (.bool false)], args := [d1, d2, d3, d4, d5, d6] }
  | _ => none }
def FnYCbCrSubEmptyWrongFalsely : Prop := fnYCbCrSubEmptyRow.holds Try.pinned (OpenSpec.ofChange fnYCbCrSubEmptyWrong)

/-- 'laws.FnYCbCrSubRead': WHATEVER THE INPUT: true; the input reads as it did. -/
def fnYCbCrSubReadSpec : ChangeSpec := { name := "fnYCbCrSubRead", fn := fun _ => fun
  | [d1, d2, d3, d4, d5, d6, d7, d8] => { results := [.lit (.bool true)], args := [d1, d2, d3, d4, d5, d6, d7, d8] }
  | _ => none }
def fnYCbCrSubReadRow : OpenClaim := { program := "ytbmpjehahimelaa", sum := "f860a111a793f32bb8656e77b93517d1f9efe74f5b4d2892cb805d582a035c87", func := "loop.example/lib-g01196/laws.FnYCbCrSubRead", spec := "fnYCbCrSubRead", apart := false }
def FnYCbCrSubReadSaid : Prop := fnYCbCrSubReadRow.holds Try.pinned (OpenSpec.ofChange fnYCbCrSubReadSpec)

/-- ITS FALSE NEIGHBOUR: 'it returns false'. Refute it at one input. -/
def fnYCbCrSubReadWrong : ChangeSpec := { name := "fnYCbCrSubRead", fn := fun _ => fun
  | [d1, d2, d3, d4, d5, d6, d7, d8] => { results := [.lit (.bool false)], args := [d1, d2, d3, d4, d5, d6, d7, d8] }
  | _ => none }
def FnYCbCrSubReadWrongFalsely : Prop := fnYCbCrSubReadRow.holds Try.pinned (OpenSpec.ofChange fnYCbCrSubReadWrong)

/-- 'laws.FnYCbCrKeepsArgument': WHATEVER THE INPUT: true; the input reads as it did. -/
def fnYCbCrKeepsArgumentSpec : ChangeSpec := { name := "fnYCbCrKeepsArgument", fn := fun _ => fun
  | [d1, d2, d3, d4, d5, d6] => { results := [.lit (.bool true)], args := [d1, d2, d3, d4, d5, d6] }
  | _ => none }
def fnYCbCrKeepsArgumentRow : OpenClaim := { program := "ytbmpjehahimelaa", sum := "f860a111a793f32bb8656e77b93517d1f9efe74f5b4d2892cb805d582a035c87", func := "loop.example/lib-g01196/laws.FnYCbCrKeepsArgument", spec := "fnYCbCrKeepsArgument", apart := false }
def FnYCbCrKeepsArgumentSaid : Prop := fnYCbCrKeepsArgumentRow.holds Try.pinned (OpenSpec.ofChange fnYCbCrKeepsArgumentSpec)

/-- ITS FALSE NEIGHBOUR: 'it returns false'. Refute it at one input. -/
def fnYCbCrKeepsArgumentWrong : ChangeSpec := { name := "fnYCbCrKeepsArgument", fn := fun _ => fun
  | [d1, d2, d3, d4, d5, d6] => { results := [.lit (.bool false)], args := [d1, d2, d3, d4, d5, d6] }
  | _ => none }
def FnYCbCrKeepsArgumentWrongFalsely : Prop := fnYCbCrKeepsArgumentRow.holds Try.pinned (OpenSpec.ofChange fnYCbCrKeepsArgumentWrong)

/- THE SECOND FORM. 'bulk': how many values and letters a reading holds, each counted each time it is reached (what is shared counts as often as it is met; a slice's spare places count too). A statement '..UptoSaid' is the law's where the arguments, and the package variables that the reading takes, are together of bulk at most 1048576: NARROWER than '..Said'. Prove '..Said' where nothing that the law and all that it calls make is longer than what came in: it says more and counts as full. Else prove '..UptoSaid'. A law counts once. -/
mutual
def uptoBulk {H : Type} : DataW H → Nat
  | .lit (.string bytes) => bytes.length + 1
  | .lit _ => 1
  | .nil => 1
  | .ptr d => uptoBulk d + 1
  | .slice elems spare => uptoBulkAll elems + uptoBulkAll spare + 1
  | .agg parts => uptoBulkAll parts + 1
  | .iface _ d => uptoBulk d + 1
  | .map entries => uptoBulkEntries entries + 1
  | .held _ => 1
def uptoBulkAll {H : Type} : List (DataW H) → Nat
  | [] => 0
  | d :: r => uptoBulk d + uptoBulkAll r
def uptoBulkEntries {H : Type} : List (Lit × DataW H) → Nat
  | [] => 0
  | x :: r => uptoBulkEntry x + uptoBulkEntries r
def uptoBulkEntry {H : Type} : Lit × DataW H → Nat
  | (.string bytes, d) => bytes.length + uptoBulk d + 1
  | (_, d) => uptoBulk d + 1
 end
def uptoSmall : (H : Type) → List (DataW H) → Bool := fun _ ds => decide (uptoBulkAll ds ≤ 1048576)
def OpenSpec.upto (s : _root_.Go.ChangeSpec) : _root_.Go.OpenSpec := { _root_.Go.OpenSpec.ofChange s with cond := some uptoSmall }

/-- 'laws.FnYCbCrSub', WHERE WHAT IT READS IS OF BULK AT MOST 1048576: true; the input reads as it did. -/
def fnYCbCrSubUptoRow : OpenClaim := { program := "ytbmpjehahimelaa", sum := "f860a111a793f32bb8656e77b93517d1f9efe74f5b4d2892cb805d582a035c87", func := "loop.example/lib-g01196/laws.FnYCbCrSub", spec := "fnYCbCrSub", apart := false, narrowed := true }
def FnYCbCrSubUptoSaid : Prop := fnYCbCrSubUptoRow.holds Try.pinned (OpenSpec.upto fnYCbCrSubSpec)

/-- 'laws.FnYCbCrSubEmpty', WHERE WHAT IT READS IS OF BULK AT MOST 1048576: true; the input reads as it did. -/
def fnYCbCrSubEmptyUptoRow : OpenClaim := { program := "ytbmpjehahimelaa", sum := "f860a111a793f32bb8656e77b93517d1f9efe74f5b4d2892cb805d582a035c87", func := "loop.example/lib-g01196/laws.FnYCbCrSubEmpty", spec := "fnYCbCrSubEmpty", apart := false, narrowed := true }
def FnYCbCrSubEmptyUptoSaid : Prop := fnYCbCrSubEmptyUptoRow.holds Try.pinned (OpenSpec.upto fnYCbCrSubEmptySpec)

/-- 'laws.FnYCbCrSubRead', WHERE WHAT IT READS IS OF BULK AT MOST 1048576: true; the input reads as it did. -/
def fnYCbCrSubReadUptoRow : OpenClaim := { program := "ytbmpjehahimelaa", sum := "f860a111a793f32bb8656e77b93517d1f9efe74f5b4d2892cb805d582a035c87", func := "loop.example/lib-g01196/laws.FnYCbCrSubRead", spec := "fnYCbCrSubRead", apart := false, narrowed := true }
def FnYCbCrSubReadUptoSaid : Prop := fnYCbCrSubReadUptoRow.holds Try.pinned (OpenSpec.upto fnYCbCrSubReadSpec)

/-- 'laws.FnYCbCrKeepsArgument', WHERE WHAT IT READS IS OF BULK AT MOST 1048576: true; the input reads as it did. -/
def fnYCbCrKeepsArgumentUptoRow : OpenClaim := { program := "ytbmpjehahimelaa", sum := "f860a111a793f32bb8656e77b93517d1f9efe74f5b4d2892cb805d582a035c87", func := "loop.example/lib-g01196/laws.FnYCbCrKeepsArgument", spec := "fnYCbCrKeepsArgument", apart := false, narrowed := true }
def FnYCbCrKeepsArgumentUptoSaid : Prop := fnYCbCrKeepsArgumentUptoRow.holds Try.pinned (OpenSpec.upto fnYCbCrKeepsArgumentSpec)

end Rows
end Go.Proofs.Ytbmpjehahimelaa

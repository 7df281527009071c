/-
  No cell of these rows narrows 'for every input' (looked for: loops, veiled, ifaces, maps, wideKeys, modest, calm, conditions, laid).
  DERIVED. THE GIVEN ROWS OF THIS SEAT. 5 by the template 'for every input the law returns true; each argument reads behind the call as it read before'; 0 by the template 'total and deterministic' (their statements: YtcohenlemddpfaaTotals.lean).
  GIVEN WITH THE SEED: the statements are not yours to turn. If you find one false, say at which input.
  Laid BY PROGRAM, IN A SANDBOX (cutbox-rows.mjs): the forced cells as the released guide's own fill.sh prints them over the translation 087b73fbaf16734b… (all of the seat's roots in one cut). By AI agents, Wed Nov 11 2026. No macro, syntax, notation, axiom, sorry.
-/
import Derived.Test.YtcohenlemddpfaaChecked
import GoSem.Claim
import GoSem.ClaimJoined
import GoSem.ClaimMapViews
import Derived.JoinedTies
import Derived.KernelRfl
namespace Go.Proofs.Ytcohenlemddpfaa
/- THE CELL 'sum', in the pinned program and in every row, IS THE sha256 OF THE DUMP (.gsa) THAT YtcohenlemddpfaaProg.lean LOADS. Nothing in Lean hashes anything: it is a label: what it is worth is what the hold of that sum in a sandbox is worth. -/
noncomputable def Try.pinned : Pinned := { name := "ytcohenlemddpfaa", sum := "087b73fbaf16734b5d1f367f39c612f3439de3f484f7b978112b8ef9603a055d", checked := Try.checked }
namespace Rows
def none {H : Type} : Left H := { results := [], args := [] }

/-- 'laws.FnYCbCrRead': WHATEVER THE INPUT: true; the input reads as it did. -/
def fnYCbCrReadSpec : ChangeSpec := { name := "fnYCbCrRead", fn := fun _ => fun
  | [d1, d2, d3, d4, d5, d6, d7] => { results := [.lit (.bool true)], args := [d1, d2, d3, d4, d5, d6, d7] }
  | _ => none }
def fnYCbCrReadRow : OpenClaim := { program := "ytcohenlemddpfaa", sum := "087b73fbaf16734b5d1f367f39c612f3439de3f484f7b978112b8ef9603a055d", func := "loop.example/lib-g01196/laws.FnYCbCrRead", spec := "fnYCbCrRead", apart := false }
def FnYCbCrReadSaid : Prop := fnYCbCrReadRow.holds Try.pinned (OpenSpec.ofChange fnYCbCrReadSpec)

/-- ITS FALSE NEIGHBOUR: 'it returns false'. Refute it at one input. -/
def fnYCbCrReadWrong : ChangeSpec := { name := "fnYCbCrRead", fn := fun _ => fun
  | [d1, d2, d3, d4, d5, d6, d7] => { results := [.lit (.bool false)], args := [d1, d2, d3, d4, d5, d6, d7] }
  | _ => none }
def FnYCbCrReadWrongFalsely : Prop := fnYCbCrReadRow.holds Try.pinned (OpenSpec.ofChange fnYCbCrReadWrong)

/-- 'laws.FnYCbCrReadReference': WHATEVER THE INPUT: true; the input reads as it did. -/
def fnYCbCrReadReferenceSpec : ChangeSpec := { name := "fnYCbCrReadReference", fn := fun _ => fun
  | [d1, d2, d3, d4, d5, d6, d7] => { results := [.lit (.bool true)], args := [d1, d2, d3, d4, d5, d6, d7] }
  | _ => none }
def fnYCbCrReadReferenceRow : OpenClaim := { program := "ytcohenlemddpfaa", sum := "087b73fbaf16734b5d1f367f39c612f3439de3f484f7b978112b8ef9603a055d", func := "loop.example/lib-g01196/laws.FnYCbCrReadReference", spec := "fnYCbCrReadReference", apart := false }
def FnYCbCrReadReferenceSaid : Prop := fnYCbCrReadReferenceRow.holds Try.pinned (OpenSpec.ofChange fnYCbCrReadReferenceSpec)

/-- ITS FALSE NEIGHBOUR: 'it returns false'. Refute it at one input. -/
def fnYCbCrReadReferenceWrong : ChangeSpec := { name := "fnYCbCrReadReference", fn := fun _ => fun
  | [d1, d2, d3, d4, d5, d6, d7] => { results := [.lit (.bool false)], args := [d1, d2, d3, d4, d5, d6, d7] }
  | _ => none }
def FnYCbCrReadReferenceWrongFalsely : Prop := fnYCbCrReadReferenceRow.holds Try.pinned (OpenSpec.ofChange fnYCbCrReadReferenceWrong)

/-- 'laws.FnYCbCrReadOutside': WHATEVER THE INPUT: true; the input reads as it did. -/
def fnYCbCrReadOutsideSpec : ChangeSpec := { name := "fnYCbCrReadOutside", fn := fun _ => fun
  | [d1, d2, d3, d4, d5, d6, d7] => { results := [.lit (.bool true)], args := [d1, d2, d3, d4, d5, d6, d7] }
  | _ => none }
def fnYCbCrReadOutsideRow : OpenClaim := { program := "ytcohenlemddpfaa", sum := "087b73fbaf16734b5d1f367f39c612f3439de3f484f7b978112b8ef9603a055d", func := "loop.example/lib-g01196/laws.FnYCbCrReadOutside", spec := "fnYCbCrReadOutside", apart := false }
def FnYCbCrReadOutsideSaid : Prop := fnYCbCrReadOutsideRow.holds Try.pinned (OpenSpec.ofChange fnYCbCrReadOutsideSpec)

/-- ITS FALSE NEIGHBOUR: 'it returns false'. Refute it at one input. -/
def fnYCbCrReadOutsideWrong : ChangeSpec := { name := "fnYCbCrReadOutside", fn := fun _ => fun
  | [d1, d2, d3, d4, d5, d6, d7] => { results := [.lit (.bool false)], args := [d1, d2, d3, d4, d5, d6, d7] }
  | _ => none }
def FnYCbCrReadOutsideWrongFalsely : Prop := fnYCbCrReadOutsideRow.holds Try.pinned (OpenSpec.ofChange fnYCbCrReadOutsideWrong)

/-- 'laws.FnYCbCrColor': WHATEVER THE INPUT: true; the input reads as it did. -/
def fnYCbCrColorSpec : ChangeSpec := { name := "fnYCbCrColor", fn := fun _ => fun
  | [d1, d2, d3, d4, d5, d6, d7] => { results := [.lit (.bool true)], args := [d1, d2, d3, d4, d5, d6, d7] }
  | _ => none }
def fnYCbCrColorRow : OpenClaim := { program := "ytcohenlemddpfaa", sum := "087b73fbaf16734b5d1f367f39c612f3439de3f484f7b978112b8ef9603a055d", func := "loop.example/lib-g01196/laws.FnYCbCrColor", spec := "fnYCbCrColor", apart := false }
def FnYCbCrColorSaid : Prop := fnYCbCrColorRow.holds Try.pinned (OpenSpec.ofChange fnYCbCrColorSpec)

/-- ITS FALSE NEIGHBOUR: 'it returns false'. Refute it at one input. -/
def fnYCbCrColorWrong : ChangeSpec := { name := "fnYCbCrColor", fn := fun _ => fun
  | [d1, d2, d3, d4, d5, d6, d7] => { results := [.lit (.bool false)], args := [d1, d2, d3, d4, d5, d6, d7] }
  | _ => none }
def FnYCbCrColorWrongFalsely : Prop := fnYCbCrColorRow.holds Try.pinned (OpenSpec.ofChange fnYCbCrColorWrong)

/-- 'laws.FnYCbCrBlocks': WHATEVER THE INPUT: true; the input reads as it did. -/
def fnYCbCrBlocksSpec : ChangeSpec := { name := "fnYCbCrBlocks", fn := fun _ => fun
  | [d1, d2, d3, d4, d5, d6, d7, d8, d9] => { results := [.lit (.bool true)], args := [d1, d2, d3, d4, d5, d6, d7, d8, d9] }
  | _ => none }
def fnYCbCrBlocksRow : OpenClaim := { program := "ytcohenlemddpfaa", sum := "087b73fbaf16734b5d1f367f39c612f3439de3f484f7b978112b8ef9603a055d", func := "loop.example/lib-g01196/laws.FnYCbCrBlocks", spec := "fnYCbCrBlocks", apart := false }
def FnYCbCrBlocksSaid : Prop := fnYCbCrBlocksRow.holds Try.pinned (OpenSpec.ofChange fnYCbCrBlocksSpec)

/-- ITS FALSE NEIGHBOUR: 'it returns false'. Refute it at one input. -/
def fnYCbCrBlocksWrong : ChangeSpec := { name := "fnYCbCrBlocks", fn := fun _ => fun
  | [d1, d2, d3, d4, d5, d6, d7, d8, d9] => { results := [.lit (.bool false)], args := [d1, d2, d3, d4, d5, d6, d7, d8, d9] }
  | _ => none }
def FnYCbCrBlocksWrongFalsely : Prop := fnYCbCrBlocksRow.holds Try.pinned (OpenSpec.ofChange fnYCbCrBlocksWrong)

/- THE SECOND FORM. 'bulk': how many values and letters a reading holds, each counted each time it is reached (what is shared counts as often as it is met; a slice's spare places count too). A statement '..UptoSaid' is the law's where the arguments, and the package variables that the reading takes, are together of bulk at most 1048576: NARROWER than '..Said'. Prove '..Said' where nothing that the law and all that it calls make is longer than what came in: it says more and counts as full. Else prove '..UptoSaid'. A law counts once. -/
mutual
def uptoBulk {H : Type} : DataW H → Nat
  | .lit (.string bytes) => bytes.length + 1
  | .lit _ => 1
  | .nil => 1
  | .ptr d => uptoBulk d + 1
  | .slice elems spare => uptoBulkAll elems + uptoBulkAll spare + 1
  | .agg parts => uptoBulkAll parts + 1
  | .iface _ d => uptoBulk d + 1
  | .map entries => uptoBulkEntries entries + 1
  | .held _ => 1
def uptoBulkAll {H : Type} : List (DataW H) → Nat
  | [] => 0
  | d :: r => uptoBulk d + uptoBulkAll r
def uptoBulkEntries {H : Type} : List (Lit × DataW H) → Nat
  | [] => 0
  | x :: r => uptoBulkEntry x + uptoBulkEntries r
def uptoBulkEntry {H : Type} : Lit × DataW H → Nat
  | (.string bytes, d) => bytes.length + uptoBulk d + 1
  | (_, d) => uptoBulk d + 1
 end
def uptoSmall : (H : Type) → List (DataW H) → Bool := fun _ ds => decide (uptoBulkAll ds ≤ 1048576)
def OpenSpec.upto (s : _root_.Go.ChangeSpec) : _root_.Go.OpenSpec := { _root_.Go.OpenSpec.ofChange s with cond := some uptoSmall }

/-- 'laws.FnYCbCrRead', WHERE WHAT IT READS IS OF BULK AT MOST 1048576: true; the input reads as it did. -/
def fnYCbCrReadUptoRow : OpenClaim := { program := "ytcohenlemddpfaa", sum := "087b73fbaf16734b5d1f367f39c612f3439de3f484f7b978112b8ef9603a055d", func := "loop.example/lib-g01196/laws.FnYCbCrRead", spec := "fnYCbCrRead", apart := false, narrowed := true }
def FnYCbCrReadUptoSaid : Prop := fnYCbCrReadUptoRow.holds Try.pinned (OpenSpec.upto fnYCbCrReadSpec)

/-- 'laws.FnYCbCrReadReference', WHERE WHAT IT READS IS OF BULK AT MOST 1048576: true; the input reads as it did. -/
def fnYCbCrReadReferenceUptoRow : OpenClaim := { program := "ytcohenlemddpfaa", sum := "087b73fbaf16734b5d1f367f39c612f3439de3f484f7b978112b8ef9603a055d", func := "loop.example/lib-g01196/laws.FnYCbCrReadReference", spec := "fnYCbCrReadReference", apart := false, narrowed := true }
def FnYCbCrReadReferenceUptoSaid : Prop := fnYCbCrReadReferenceUptoRow.holds Try.pinned (OpenSpec.upto fnYCbCrReadReferenceSpec)

/-- 'laws.FnYCbCrReadOutside', WHERE WHAT IT READS IS OF BULK AT MOST 1048576: true; the input reads as it did. -/
def fnYCbCrReadOutsideUptoRow : OpenClaim := { program := "ytcohenlemddpfaa", sum := "087b73fbaf16734b5d1f367f39c612f3439de3f484f7b978112b8ef9603a055d", func := "loop.example/lib-g01196/laws.FnYCbCrReadOutside", spec := "fnYCbCrReadOutside", apart := false, narrowed := true }
def FnYCbCrReadOutsideUptoSaid : Prop := fnYCbCrReadOutsideUptoRow.holds Try.pinned (OpenSpec.upto fnYCbCrReadOutsideSpec)

/-- 'laws.FnYCbCrColor', WHERE WHAT IT READS IS OF BULK AT MOST 1048576: true; the input reads as it did. -/
def fnYCbCrColorUptoRow : OpenClaim := { program := "ytcohenlemddpfaa", sum := "087b73fbaf16734b5d1f367f39c612f3439de3f484f7b978112b8ef9603a055d", func := "loop.example/lib-g01196/laws.FnYCbCrColor", spec := "fnYCbCrColor", apart := false, narrowed := true }
def FnYCbCrColorUptoSaid : Prop := fnYCbCrColorUptoRow.holds Try.pinned (OpenSpec.upto fnYCbCrColorSpec)

/-- 'laws.FnYCbCrBlocks', WHERE WHAT IT READS IS OF BULK AT MOST 1048576: true; the input reads as it did. -/
def fnYCbCrBlocksUptoRow : OpenClaim := { program := "ytcohenlemddpfaa", sum := "087b73fbaf16734b5d1f367f39c612f3439de3f484f7b978112b8ef9603a055d", func := "loop.example/lib-g01196/laws.FnYCbCrBlocks", spec := "fnYCbCrBlocks", apart := false, narrowed := true }
def FnYCbCrBlocksUptoSaid : Prop := fnYCbCrBlocksUptoRow.holds Try.pinned (OpenSpec.upto fnYCbCrBlocksSpec)

end Rows
end Go.Proofs.Ytcohenlemddpfaa

/-
  No cell of these rows narrows 'for every input' (looked for: loops, veiled, ifaces, maps, wideKeys, modest, calm, conditions, laid).
  DERIVED. THE GIVEN ROWS OF THIS SEAT. 8 by the template 'for every input the law returns true; each argument reads behind the call as it read before'; 0 by the template 'total and deterministic' (their statements: YtfnmgkbeeckjnaaTotals.lean).
  GIVEN WITH THE SEED: the statements are not yours to turn. If you find one false, say at which input.
  Laid BY PROGRAM, IN A SANDBOX (cutbox-rows.mjs): the forced cells as the released guide's own fill.sh prints them over the translation 2a1e83e92fcb75eb… (all of the seat's roots in one cut). By AI agents, Wed Nov 11 2026. No macro, syntax, notation, axiom, sorry.
-/
import Derived.Test.YtfnmgkbeeckjnaaChecked
import GoSem.Claim
import GoSem.ClaimJoined
import GoSem.ClaimMapViews
import Derived.JoinedTies
import Derived.KernelRfl
namespace Go.Proofs.Ytfnmgkbeeckjnaa
/- THE CELL 'sum', in the pinned program and in every row, IS THE sha256 OF THE DUMP (.gsa) THAT YtfnmgkbeeckjnaaProg.lean LOADS. Nothing in Lean hashes anything: it is a label: what it is worth is what the hold of that sum in a sandbox is worth. -/
noncomputable def Try.pinned : Pinned := { name := "ytfnmgkbeeckjnaa", sum := "2a1e83e92fcb75ebb5573407e73527d27a6a3647a5373b76af117b8e87d6d24c", checked := Try.checked }
namespace Rows
def none {H : Type} : Left H := { results := [], args := [] }

/-- 'laws.FnExactAlphaWide': WHATEVER THE INPUT: true; the input reads as it did. -/
def fnExactAlphaWideSpec : ChangeSpec := { name := "fnExactAlphaWide", fn := fun _ => fun
  | [d] => { results := [.lit (.bool true)], args := [d] }
  | _ => none }
def fnExactAlphaWideRow : OpenClaim := { program := "ytfnmgkbeeckjnaa", sum := "2a1e83e92fcb75ebb5573407e73527d27a6a3647a5373b76af117b8e87d6d24c", func := "loop.example/lib-g01196/laws.FnExactAlphaWide", spec := "fnExactAlphaWide", apart := false }
def FnExactAlphaWideSaid : Prop := fnExactAlphaWideRow.holds Try.pinned (OpenSpec.ofChange fnExactAlphaWideSpec)

/-- ITS FALSE NEIGHBOUR: 'it returns false'. Refute it at one input. -/
def fnExactAlphaWideWrong : ChangeSpec := { name := "fnExactAlphaWide", fn := fun _ => fun
  | [d] => { results := [.lit (.bool false)], args := [d] }
  | _ => none }
def FnExactAlphaWideWrongFalsely : Prop := fnExactAlphaWideRow.holds Try.pinned (OpenSpec.ofChange fnExactAlphaWideWrong)

/-- 'laws.FnCMYKWideIsOpaque': WHATEVER THE INPUT: true; the input reads as it did. -/
def fnCMYKWideIsOpaqueSpec : ChangeSpec := { name := "fnCMYKWideIsOpaque", fn := fun _ => fun
  | [d] => { results := [.lit (.bool true)], args := [d] }
  | _ => none }
def fnCMYKWideIsOpaqueRow : OpenClaim := { program := "ytfnmgkbeeckjnaa", sum := "2a1e83e92fcb75ebb5573407e73527d27a6a3647a5373b76af117b8e87d6d24c", func := "loop.example/lib-g01196/laws.FnCMYKWideIsOpaque", spec := "fnCMYKWideIsOpaque", apart := false }
def FnCMYKWideIsOpaqueSaid : Prop := fnCMYKWideIsOpaqueRow.holds Try.pinned (OpenSpec.ofChange fnCMYKWideIsOpaqueSpec)

/-- ITS FALSE NEIGHBOUR: 'it returns false'. Refute it at one input. -/
def fnCMYKWideIsOpaqueWrong : ChangeSpec := { name := "fnCMYKWideIsOpaque", fn := fun _ => fun
  | [d] => { results := [.lit (.bool false)], args := [d] }
  | _ => none }
def FnCMYKWideIsOpaqueWrongFalsely : Prop := fnCMYKWideIsOpaqueRow.holds Try.pinned (OpenSpec.ofChange fnCMYKWideIsOpaqueWrong)

/-- 'laws.FnCMYKWideMonotone': WHATEVER THE INPUT: true; the input reads as it did. -/
def fnCMYKWideMonotoneSpec : ChangeSpec := { name := "fnCMYKWideMonotone", fn := fun _ => fun
  | [d1, d2] => { results := [.lit (.bool true)], args := [d1, d2] }
  | _ => none }
def fnCMYKWideMonotoneRow : OpenClaim := { program := "ytfnmgkbeeckjnaa", sum := "2a1e83e92fcb75ebb5573407e73527d27a6a3647a5373b76af117b8e87d6d24c", func := "loop.example/lib-g01196/laws.FnCMYKWideMonotone", spec := "fnCMYKWideMonotone", apart := false }
def FnCMYKWideMonotoneSaid : Prop := fnCMYKWideMonotoneRow.holds Try.pinned (OpenSpec.ofChange fnCMYKWideMonotoneSpec)

/-- ITS FALSE NEIGHBOUR: 'it returns false'. Refute it at one input. -/
def fnCMYKWideMonotoneWrong : ChangeSpec := { name := "fnCMYKWideMonotone", fn := fun _ => fun
  | [d1, d2] => { results := [.lit (.bool false)], args := [d1, d2] }
  | _ => none }
def FnCMYKWideMonotoneWrongFalsely : Prop := fnCMYKWideMonotoneRow.holds Try.pinned (OpenSpec.ofChange fnCMYKWideMonotoneWrong)

/-- 'laws.FnCMYKWideOfFull': WHATEVER THE INPUT: true; the input reads as it did. -/
def fnCMYKWideOfFullSpec : ChangeSpec := { name := "fnCMYKWideOfFull", fn := fun _ => fun
  | [d] => { results := [.lit (.bool true)], args := [d] }
  | _ => none }
def fnCMYKWideOfFullRow : OpenClaim := { program := "ytfnmgkbeeckjnaa", sum := "2a1e83e92fcb75ebb5573407e73527d27a6a3647a5373b76af117b8e87d6d24c", func := "loop.example/lib-g01196/laws.FnCMYKWideOfFull", spec := "fnCMYKWideOfFull", apart := false }
def FnCMYKWideOfFullSaid : Prop := fnCMYKWideOfFullRow.holds Try.pinned (OpenSpec.ofChange fnCMYKWideOfFullSpec)

/-- ITS FALSE NEIGHBOUR: 'it returns false'. Refute it at one input. -/
def fnCMYKWideOfFullWrong : ChangeSpec := { name := "fnCMYKWideOfFull", fn := fun _ => fun
  | [d] => { results := [.lit (.bool false)], args := [d] }
  | _ => none }
def FnCMYKWideOfFullWrongFalsely : Prop := fnCMYKWideOfFullRow.holds Try.pinned (OpenSpec.ofChange fnCMYKWideOfFullWrong)

/-- 'laws.FnCMYKWideScaled': WHATEVER THE INPUT: true; the input reads as it did. -/
def fnCMYKWideScaledSpec : ChangeSpec := { name := "fnCMYKWideScaled", fn := fun _ => fun
  | [d] => { results := [.lit (.bool true)], args := [d] }
  | _ => none }
def fnCMYKWideScaledRow : OpenClaim := { program := "ytfnmgkbeeckjnaa", sum := "2a1e83e92fcb75ebb5573407e73527d27a6a3647a5373b76af117b8e87d6d24c", func := "loop.example/lib-g01196/laws.FnCMYKWideScaled", spec := "fnCMYKWideScaled", apart := false }
def FnCMYKWideScaledSaid : Prop := fnCMYKWideScaledRow.holds Try.pinned (OpenSpec.ofChange fnCMYKWideScaledSpec)

/-- ITS FALSE NEIGHBOUR: 'it returns false'. Refute it at one input. -/
def fnCMYKWideScaledWrong : ChangeSpec := { name := "fnCMYKWideScaled", fn := fun _ => fun
  | [d] => { results := [.lit (.bool false)], args := [d] }
  | _ => none }
def FnCMYKWideScaledWrongFalsely : Prop := fnCMYKWideScaledRow.holds Try.pinned (OpenSpec.ofChange fnCMYKWideScaledWrong)

/-- 'laws.FnExactRGBAWide': WHATEVER THE INPUT: true; the input reads as it did. -/
def fnExactRGBAWideSpec : ChangeSpec := { name := "fnExactRGBAWide", fn := fun _ => fun
  | [d] => { results := [.lit (.bool true)], args := [d] }
  | _ => none }
def fnExactRGBAWideRow : OpenClaim := { program := "ytfnmgkbeeckjnaa", sum := "2a1e83e92fcb75ebb5573407e73527d27a6a3647a5373b76af117b8e87d6d24c", func := "loop.example/lib-g01196/laws.FnExactRGBAWide", spec := "fnExactRGBAWide", apart := false }
def FnExactRGBAWideSaid : Prop := fnExactRGBAWideRow.holds Try.pinned (OpenSpec.ofChange fnExactRGBAWideSpec)

/-- ITS FALSE NEIGHBOUR: 'it returns false'. Refute it at one input. -/
def fnExactRGBAWideWrong : ChangeSpec := { name := "fnExactRGBAWide", fn := fun _ => fun
  | [d] => { results := [.lit (.bool false)], args := [d] }
  | _ => none }
def FnExactRGBAWideWrongFalsely : Prop := fnExactRGBAWideRow.holds Try.pinned (OpenSpec.ofChange fnExactRGBAWideWrong)

/-- 'laws.FnRGBAWideOfBytes': WHATEVER THE INPUT: true; the input reads as it did. -/
def fnRGBAWideOfBytesSpec : ChangeSpec := { name := "fnRGBAWideOfBytes", fn := fun _ => fun
  | [d] => { results := [.lit (.bool true)], args := [d] }
  | _ => none }
def fnRGBAWideOfBytesRow : OpenClaim := { program := "ytfnmgkbeeckjnaa", sum := "2a1e83e92fcb75ebb5573407e73527d27a6a3647a5373b76af117b8e87d6d24c", func := "loop.example/lib-g01196/laws.FnRGBAWideOfBytes", spec := "fnRGBAWideOfBytes", apart := false }
def FnRGBAWideOfBytesSaid : Prop := fnRGBAWideOfBytesRow.holds Try.pinned (OpenSpec.ofChange fnRGBAWideOfBytesSpec)

/-- ITS FALSE NEIGHBOUR: 'it returns false'. Refute it at one input. -/
def fnRGBAWideOfBytesWrong : ChangeSpec := { name := "fnRGBAWideOfBytes", fn := fun _ => fun
  | [d] => { results := [.lit (.bool false)], args := [d] }
  | _ => none }
def FnRGBAWideOfBytesWrongFalsely : Prop := fnRGBAWideOfBytesRow.holds Try.pinned (OpenSpec.ofChange fnRGBAWideOfBytesWrong)

/-- 'laws.FnCMYKSubAll': WHATEVER THE INPUT: true; the input reads as it did. -/
def fnCMYKSubAllSpec : ChangeSpec := { name := "fnCMYKSubAll", fn := fun _ => fun
  | [d1, d2] => { results := [.lit (.bool true)], args := [d1, d2] }
  | _ => none }
def fnCMYKSubAllRow : OpenClaim := { program := "ytfnmgkbeeckjnaa", sum := "2a1e83e92fcb75ebb5573407e73527d27a6a3647a5373b76af117b8e87d6d24c", func := "loop.example/lib-g01196/laws.FnCMYKSubAll", spec := "fnCMYKSubAll", apart := false }
def FnCMYKSubAllSaid : Prop := fnCMYKSubAllRow.holds Try.pinned (OpenSpec.ofChange fnCMYKSubAllSpec)

/-- ITS FALSE NEIGHBOUR: 'it returns false'. Refute it at one input. -/
def fnCMYKSubAllWrong : ChangeSpec := { name := "fnCMYKSubAll", fn := fun _ => fun
  | [d1, d2] => { results := [.lit (.bool false)], args := [d1, d2] }
  | _ => none }
def FnCMYKSubAllWrongFalsely : Prop := fnCMYKSubAllRow.holds Try.pinned (OpenSpec.ofChange fnCMYKSubAllWrong)

/- THE SECOND FORM. 'bulk': how many values and letters a reading holds, each counted each time it is reached (what is shared counts as often as it is met; a slice's spare places count too). A statement '..UptoSaid' is the law's where the arguments, and the package variables that the reading takes, are together of bulk at most 1048576: NARROWER than '..Said'. Prove '..Said' where nothing that the law and all that it calls make is longer than what came in: it says more and counts as full. Else prove '..UptoSaid'. A law counts once. -/
mutual
def uptoBulk {H : Type} : DataW H → Nat
  | .lit (.string bytes) => bytes.length + 1
  | .lit _ => 1
  | .nil => 1
  | .ptr d => uptoBulk d + 1
  | .slice elems spare => uptoBulkAll elems + uptoBulkAll spare + 1
  | .agg parts => uptoBulkAll parts + 1
  | .iface _ d => uptoBulk d + 1
  | .map entries => uptoBulkEntries entries + 1
  | .held _ => 1
def uptoBulkAll {H : Type} : List (DataW H) → Nat
  | [] => 0
  | d :: r => uptoBulk d + uptoBulkAll r
def uptoBulkEntries {H : Type} : List (Lit × DataW H) → Nat
  | [] => 0
  | x :: r => uptoBulkEntry x + uptoBulkEntries r
def uptoBulkEntry {H : Type} : Lit × DataW H → Nat
  | (.string bytes, d) => bytes.length + uptoBulk d + 1
  | (_, d) => uptoBulk d + 1
 end
def uptoSmall : (H : Type) → List (DataW H) → Bool := fun _ ds => decide (uptoBulkAll ds ≤ 1048576)
def OpenSpec.upto (s : _root_.Go.ChangeSpec) : _root_.Go.OpenSpec := { _root_.Go.OpenSpec.ofChange s with cond := some uptoSmall }

/-- 'laws.FnExactAlphaWide', WHERE WHAT IT READS IS OF BULK AT MOST 1048576: true; the input reads as it did. -/
def fnExactAlphaWideUptoRow : OpenClaim := { program := "ytfnmgkbeeckjnaa", sum := "2a1e83e92fcb75ebb5573407e73527d27a6a3647a5373b76af117b8e87d6d24c", func := "loop.example/lib-g01196/laws.FnExactAlphaWide", spec := "fnExactAlphaWide", apart := false, narrowed := true }
def FnExactAlphaWideUptoSaid : Prop := fnExactAlphaWideUptoRow.holds Try.pinned (OpenSpec.upto fnExactAlphaWideSpec)

/-- 'laws.FnCMYKWideIsOpaque', WHERE WHAT IT READS IS OF BULK AT MOST 1048576: true; the input reads as it did. -/
def fnCMYKWideIsOpaqueUptoRow : OpenClaim := { program := "ytfnmgkbeeckjnaa", sum := "2a1e83e92fcb75ebb5573407e73527d27a6a3647a5373b76af117b8e87d6d24c", func := "loop.example/lib-g01196/laws.FnCMYKWideIsOpaque", spec := "fnCMYKWideIsOpaque", apart := false, narrowed := true }
def FnCMYKWideIsOpaqueUptoSaid : Prop := fnCMYKWideIsOpaqueUptoRow.holds Try.pinned (OpenSpec.upto fnCMYKWideIsOpaqueSpec)

/-- 'laws.FnCMYKWideMonotone', WHERE WHAT IT READS IS OF BULK AT MOST 1048576: true; the input reads as it did. -/
def fnCMYKWideMonotoneUptoRow : OpenClaim := { program := "ytfnmgkbeeckjnaa", sum := "2a1e83e92fcb75ebb5573407e73527d27a6a3647a5373b76af117b8e87d6d24c", func := "loop.example/lib-g01196/laws.FnCMYKWideMonotone", spec := "fnCMYKWideMonotone", apart := false, narrowed := true }
def FnCMYKWideMonotoneUptoSaid : Prop := fnCMYKWideMonotoneUptoRow.holds Try.pinned (OpenSpec.upto fnCMYKWideMonotoneSpec)

/-- 'laws.FnCMYKWideOfFull', WHERE WHAT IT READS IS OF BULK AT MOST 1048576: true; the input reads as it did. -/
def fnCMYKWideOfFullUptoRow : OpenClaim := { program := "ytfnmgkbeeckjnaa", sum := "2a1e83e92fcb75ebb5573407e73527d27a6a3647a5373b76af117b8e87d6d24c", func := "loop.example/lib-g01196/laws.FnCMYKWideOfFull", spec := "fnCMYKWideOfFull", apart := false, narrowed := true }
def FnCMYKWideOfFullUptoSaid : Prop := fnCMYKWideOfFullUptoRow.holds Try.pinned (OpenSpec.upto fnCMYKWideOfFullSpec)

/-- 'laws.FnCMYKWideScaled', WHERE WHAT IT READS IS OF BULK AT MOST 1048576: true; the input reads as it did. -/
def fnCMYKWideScaledUptoRow : OpenClaim := { program := "ytfnmgkbeeckjnaa", sum := "2a1e83e92fcb75ebb5573407e73527d27a6a3647a5373b76af117b8e87d6d24c", func := "loop.example/lib-g01196/laws.FnCMYKWideScaled", spec := "fnCMYKWideScaled", apart := false, narrowed := true }
def FnCMYKWideScaledUptoSaid : Prop := fnCMYKWideScaledUptoRow.holds Try.pinned (OpenSpec.upto fnCMYKWideScaledSpec)

/-- 'laws.FnExactRGBAWide', WHERE WHAT IT READS IS OF BULK AT MOST 1048576: true; the input reads as it did. -/
def fnExactRGBAWideUptoRow : OpenClaim := { program := "ytfnmgkbeeckjnaa", sum := "2a1e83e92fcb75ebb5573407e73527d27a6a3647a5373b76af117b8e87d6d24c", func := "loop.example/lib-g01196/laws.FnExactRGBAWide", spec := "fnExactRGBAWide", apart := false, narrowed := true }
def FnExactRGBAWideUptoSaid : Prop := fnExactRGBAWideUptoRow.holds Try.pinned (OpenSpec.upto fnExactRGBAWideSpec)

/-- 'laws.FnRGBAWideOfBytes', WHERE WHAT IT READS IS OF BULK AT MOST 1048576: true; the input reads as it did. -/
def fnRGBAWideOfBytesUptoRow : OpenClaim := { program := "ytfnmgkbeeckjnaa", sum := "2a1e83e92fcb75ebb5573407e73527d27a6a3647a5373b76af117b8e87d6d24c", func := "loop.example/lib-g01196/laws.FnRGBAWideOfBytes", spec := "fnRGBAWideOfBytes", apart := false, narrowed := true }
def FnRGBAWideOfBytesUptoSaid : Prop := fnRGBAWideOfBytesUptoRow.holds Try.pinned (OpenSpec.upto fnRGBAWideOfBytesSpec)

/-- 'laws.FnCMYKSubAll', WHERE WHAT IT READS IS OF BULK AT MOST 1048576: true; the input reads as it did. -/
def fnCMYKSubAllUptoRow : OpenClaim := { program := "ytfnmgkbeeckjnaa", sum := "2a1e83e92fcb75ebb5573407e73527d27a6a3647a5373b76af117b8e87d6d24c", func := "loop.example/lib-g01196/laws.FnCMYKSubAll", spec := "fnCMYKSubAll", apart := false, narrowed := true }
def FnCMYKSubAllUptoSaid : Prop := fnCMYKSubAllUptoRow.holds Try.pinned (OpenSpec.upto fnCMYKSubAllSpec)

end Rows
end Go.Proofs.Ytfnmgkbeeckjnaa

/-
  No cell of these rows narrows 'for every input' (looked for: loops, veiled, ifaces, maps, wideKeys, modest, calm, conditions, laid).
  DERIVED. THE GIVEN ROWS OF THIS SEAT. 7 by the template 'for every input the law returns true; each argument reads behind the call as it read before'; 0 by the template 'total and deterministic' (their statements: YtlkmpaoapcpolaaTotals.lean).
  GIVEN WITH THE SEED: the statements are not yours to turn. If you find one false, say at which input.
  Laid BY PROGRAM, IN A SANDBOX (cutbox-rows.mjs): the forced cells as the released guide's own fill.sh prints them over the translation 49ef5169b0096e7a… (all of the seat's roots in one cut). By AI agents, Wed Nov 11 2026. No macro, syntax, notation, axiom, sorry.
-/
import Derived.Test.YtlkmpaoapcpolaaChecked
import GoSem.Claim
import GoSem.ClaimJoined
import GoSem.ClaimMapViews
import Derived.JoinedTies
import Derived.KernelRfl
namespace Go.Proofs.Ytlkmpaoapcpolaa
/- THE CELL 'sum', in the pinned program and in every row, IS THE sha256 OF THE DUMP (.gsa) THAT YtlkmpaoapcpolaaProg.lean LOADS. Nothing in Lean hashes anything: it is a label: what it is worth is what the hold of that sum in a sandbox is worth. -/
noncomputable def Try.pinned : Pinned := { name := "ytlkmpaoapcpolaa", sum := "49ef5169b0096e7a923e57e69820ff0c176e4e64ce811a692c541bac39f8fd48", checked := Try.checked }
namespace Rows
def none {H : Type} : Left H := { results := [], args := [] }

/-- 'laws.FnRGBANew': WHATEVER THE INPUT: true; the input reads as it did. -/
def fnRGBANewSpec : ChangeSpec := { name := "fnRGBANew", fn := fun _ => fun
  | [d] => { results := [.lit (.bool true)], args := [d] }
  | _ => none }
def fnRGBANewRow : OpenClaim := { program := "ytlkmpaoapcpolaa", sum := "49ef5169b0096e7a923e57e69820ff0c176e4e64ce811a692c541bac39f8fd48", func := "loop.example/lib-g01196/laws.FnRGBANew", spec := "fnRGBANew", apart := false }
def FnRGBANewSaid : Prop := fnRGBANewRow.holds Try.pinned (OpenSpec.ofChange fnRGBANewSpec)

/-- ITS FALSE NEIGHBOUR: 'it returns false'. Refute it at one input. -/
def fnRGBANewWrong : ChangeSpec := { name := "fnRGBANew", fn := fun _ => fun
  | [d] => { results := [.lit (.bool false)], args := [d] }
  | _ => none }
def FnRGBANewWrongFalsely : Prop := fnRGBANewRow.holds Try.pinned (OpenSpec.ofChange fnRGBANewWrong)

/-- 'laws.FnRGBANewBounds': WHATEVER THE INPUT: true; the input reads as it did. -/
def fnRGBANewBoundsSpec : ChangeSpec := { name := "fnRGBANewBounds", fn := fun _ => fun
  | [d] => { results := [.lit (.bool true)], args := [d] }
  | _ => none }
def fnRGBANewBoundsRow : OpenClaim := { program := "ytlkmpaoapcpolaa", sum := "49ef5169b0096e7a923e57e69820ff0c176e4e64ce811a692c541bac39f8fd48", func := "loop.example/lib-g01196/laws.FnRGBANewBounds", spec := "fnRGBANewBounds", apart := false }
def FnRGBANewBoundsSaid : Prop := fnRGBANewBoundsRow.holds Try.pinned (OpenSpec.ofChange fnRGBANewBoundsSpec)

/-- ITS FALSE NEIGHBOUR: 'it returns false'. Refute it at one input. -/
def fnRGBANewBoundsWrong : ChangeSpec := { name := "fnRGBANewBounds", fn := fun _ => fun
  | [d] => { results := [.lit (.bool false)], args := [d] }
  | _ => none }
def FnRGBANewBoundsWrongFalsely : Prop := fnRGBANewBoundsRow.holds Try.pinned (OpenSpec.ofChange fnRGBANewBoundsWrong)

/-- 'laws.FnRGBARead': WHATEVER THE INPUT: true; the input reads as it did. -/
def fnRGBAReadSpec : ChangeSpec := { name := "fnRGBARead", fn := fun _ => fun
  | [d1, d2, d3, d4] => { results := [.lit (.bool true)], args := [d1, d2, d3, d4] }
  | _ => none }
def fnRGBAReadRow : OpenClaim := { program := "ytlkmpaoapcpolaa", sum := "49ef5169b0096e7a923e57e69820ff0c176e4e64ce811a692c541bac39f8fd48", func := "loop.example/lib-g01196/laws.FnRGBARead", spec := "fnRGBARead", apart := false }
def FnRGBAReadSaid : Prop := fnRGBAReadRow.holds Try.pinned (OpenSpec.ofChange fnRGBAReadSpec)

/-- ITS FALSE NEIGHBOUR: 'it returns false'. Refute it at one input. -/
def fnRGBAReadWrong : ChangeSpec := { name := "fnRGBARead", fn := fun _ => fun
  | [d1, d2, d3, d4] => { results := [.lit (.bool false)], args := [d1, d2, d3, d4] }
  | _ => none }
def FnRGBAReadWrongFalsely : Prop := fnRGBAReadRow.holds Try.pinned (OpenSpec.ofChange fnRGBAReadWrong)

/-- 'laws.FnRGBAReadOutside': WHATEVER THE INPUT: true; the input reads as it did. -/
def fnRGBAReadOutsideSpec : ChangeSpec := { name := "fnRGBAReadOutside", fn := fun _ => fun
  | [d1, d2, d3, d4] => { results := [.lit (.bool true)], args := [d1, d2, d3, d4] }
  | _ => none }
def fnRGBAReadOutsideRow : OpenClaim := { program := "ytlkmpaoapcpolaa", sum := "49ef5169b0096e7a923e57e69820ff0c176e4e64ce811a692c541bac39f8fd48", func := "loop.example/lib-g01196/laws.FnRGBAReadOutside", spec := "fnRGBAReadOutside", apart := false }
def FnRGBAReadOutsideSaid : Prop := fnRGBAReadOutsideRow.holds Try.pinned (OpenSpec.ofChange fnRGBAReadOutsideSpec)

/-- ITS FALSE NEIGHBOUR: 'it returns false'. Refute it at one input. -/
def fnRGBAReadOutsideWrong : ChangeSpec := { name := "fnRGBAReadOutside", fn := fun _ => fun
  | [d1, d2, d3, d4] => { results := [.lit (.bool false)], args := [d1, d2, d3, d4] }
  | _ => none }
def FnRGBAReadOutsideWrongFalsely : Prop := fnRGBAReadOutsideRow.holds Try.pinned (OpenSpec.ofChange fnRGBAReadOutsideWrong)

/-- 'laws.FnRGBAColor': WHATEVER THE INPUT: true; the input reads as it did. -/
def fnRGBAColorSpec : ChangeSpec := { name := "fnRGBAColor", fn := fun _ => fun
  | [d1, d2, d3, d4] => { results := [.lit (.bool true)], args := [d1, d2, d3, d4] }
  | _ => none }
def fnRGBAColorRow : OpenClaim := { program := "ytlkmpaoapcpolaa", sum := "49ef5169b0096e7a923e57e69820ff0c176e4e64ce811a692c541bac39f8fd48", func := "loop.example/lib-g01196/laws.FnRGBAColor", spec := "fnRGBAColor", apart := false }
def FnRGBAColorSaid : Prop := fnRGBAColorRow.holds Try.pinned (OpenSpec.ofChange fnRGBAColorSpec)

/-- ITS FALSE NEIGHBOUR: 'it returns false'. Refute it at one input. -/
def fnRGBAColorWrong : ChangeSpec := { name := "fnRGBAColor", fn := fun _ => fun
  | [d1, d2, d3, d4] => { results := [.lit (.bool false)], args := [d1, d2, d3, d4] }
  | _ => none }
def FnRGBAColorWrongFalsely : Prop := fnRGBAColorRow.holds Try.pinned (OpenSpec.ofChange fnRGBAColorWrong)

/-- 'laws.FnRGBAOffset': WHATEVER THE INPUT: true; the input reads as it did. -/
def fnRGBAOffsetSpec : ChangeSpec := { name := "fnRGBAOffset", fn := fun _ => fun
  | [d1, d2, d3] => { results := [.lit (.bool true)], args := [d1, d2, d3] }
  | _ => none }
def fnRGBAOffsetRow : OpenClaim := { program := "ytlkmpaoapcpolaa", sum := "49ef5169b0096e7a923e57e69820ff0c176e4e64ce811a692c541bac39f8fd48", func := "loop.example/lib-g01196/laws.FnRGBAOffset", spec := "fnRGBAOffset", apart := false }
def FnRGBAOffsetSaid : Prop := fnRGBAOffsetRow.holds Try.pinned (OpenSpec.ofChange fnRGBAOffsetSpec)

/-- ITS FALSE NEIGHBOUR: 'it returns false'. Refute it at one input. -/
def fnRGBAOffsetWrong : ChangeSpec := { name := "fnRGBAOffset", fn := fun _ => fun
  | [d1, d2, d3] => { results := [.lit (.bool false)], args := [d1, d2, d3] }
  | _ => none }
def FnRGBAOffsetWrongFalsely : Prop := fnRGBAOffsetRow.holds Try.pinned (OpenSpec.ofChange fnRGBAOffsetWrong)

/-- 'laws.FnRGBAApart': WHATEVER THE INPUT: true; the input reads as it did. -/
def fnRGBAApartSpec : ChangeSpec := { name := "fnRGBAApart", fn := fun _ => fun
  | [d1, d2, d3, d4, d5] => { results := [.lit (.bool true)], args := [d1, d2, d3, d4, d5] }
  | _ => none }
def fnRGBAApartRow : OpenClaim := { program := "ytlkmpaoapcpolaa", sum := "49ef5169b0096e7a923e57e69820ff0c176e4e64ce811a692c541bac39f8fd48", func := "loop.example/lib-g01196/laws.FnRGBAApart", spec := "fnRGBAApart", apart := false }
def FnRGBAApartSaid : Prop := fnRGBAApartRow.holds Try.pinned (OpenSpec.ofChange fnRGBAApartSpec)

/-- ITS FALSE NEIGHBOUR: 'it returns false'. Refute it at one input. -/
def fnRGBAApartWrong : ChangeSpec := { name := "fnRGBAApart", fn := fun _ => fun
  | [d1, d2, d3, d4, d5] => { results := [.lit (.bool false)], args := [d1, d2, d3, d4, d5] }
  | _ => none }
def FnRGBAApartWrongFalsely : Prop := fnRGBAApartRow.holds Try.pinned (OpenSpec.ofChange fnRGBAApartWrong)

/- THE SECOND FORM. 'bulk': how many values and letters a reading holds, each counted each time it is reached (what is shared counts as often as it is met; a slice's spare places count too). A statement '..UptoSaid' is the law's where the arguments, and the package variables that the reading takes, are together of bulk at most 1048576: NARROWER than '..Said'. Prove '..Said' where nothing that the law and all that it calls make is longer than what came in: it says more and counts as full. Else prove '..UptoSaid'. A law counts once. -/
mutual
def uptoBulk {H : Type} : DataW H → Nat
  | .lit (.string bytes) => bytes.length + 1
  | .lit _ => 1
  | .nil => 1
  | .ptr d => uptoBulk d + 1
  | .slice elems spare => uptoBulkAll elems + uptoBulkAll spare + 1
  | .agg parts => uptoBulkAll parts + 1
  | .iface _ d => uptoBulk d + 1
  | .map entries => uptoBulkEntries entries + 1
  | .held _ => 1
def uptoBulkAll {H : Type} : List (DataW H) → Nat
  | [] => 0
  | d :: r => uptoBulk d + uptoBulkAll r
def uptoBulkEntries {H : Type} : List (Lit × DataW H) → Nat
  | [] => 0
  | x :: r => uptoBulkEntry x + uptoBulkEntries r
def uptoBulkEntry {H : Type} : Lit × DataW H → Nat
  | (.string bytes, d) => bytes.length + uptoBulk d + 1
  | (_, d) => uptoBulk d + 1
 end
def uptoSmall : (H : Type) → List (DataW H) → Bool := fun _ ds => decide (uptoBulkAll ds ≤ 1048576)
def OpenSpec.upto (s : _root_.Go.ChangeSpec) : _root_.Go.OpenSpec := { _root_.Go.OpenSpec.ofChange s with cond := some uptoSmall }

/-- 'laws.FnRGBANew', WHERE WHAT IT READS IS OF BULK AT MOST 1048576: true; the input reads as it did. -/
def fnRGBANewUptoRow : OpenClaim := { program := "ytlkmpaoapcpolaa", sum := "49ef5169b0096e7a923e57e69820ff0c176e4e64ce811a692c541bac39f8fd48", func := "loop.example/lib-g01196/laws.FnRGBANew", spec := "fnRGBANew", apart := false, narrowed := true }
def FnRGBANewUptoSaid : Prop := fnRGBANewUptoRow.holds Try.pinned (OpenSpec.upto fnRGBANewSpec)

/-- 'laws.FnRGBANewBounds', WHERE WHAT IT READS IS OF BULK AT MOST 1048576: true; the input reads as it did. -/
def fnRGBANewBoundsUptoRow : OpenClaim := { program := "ytlkmpaoapcpolaa", sum := "49ef5169b0096e7a923e57e69820ff0c176e4e64ce811a692c541bac39f8fd48", func := "loop.example/lib-g01196/laws.FnRGBANewBounds", spec := "fnRGBANewBounds", apart := false, narrowed := true }
def FnRGBANewBoundsUptoSaid : Prop := fnRGBANewBoundsUptoRow.holds Try.pinned (OpenSpec.upto fnRGBANewBoundsSpec)

/-- 'laws.FnRGBARead', WHERE WHAT IT READS IS OF BULK AT MOST 1048576: true; the input reads as it did. -/
def fnRGBAReadUptoRow : OpenClaim := { program := "ytlkmpaoapcpolaa", sum := "49ef5169b0096e7a923e57e69820ff0c176e4e64ce811a692c541bac39f8fd48", func := "loop.example/lib-g01196/laws.FnRGBARead", spec := "fnRGBARead", apart := false, narrowed := true }
def FnRGBAReadUptoSaid : Prop := fnRGBAReadUptoRow.holds Try.pinned (OpenSpec.upto fnRGBAReadSpec)

/-- 'laws.FnRGBAReadOutside', WHERE WHAT IT READS IS OF BULK AT MOST 1048576: true; the input reads as it did. -/
def fnRGBAReadOutsideUptoRow : OpenClaim := { program := "ytlkmpaoapcpolaa", sum := "49ef5169b0096e7a923e57e69820ff0c176e4e64ce811a692c541bac39f8fd48", func := "loop.example/lib-g01196/laws.FnRGBAReadOutside", spec := "fnRGBAReadOutside", apart := false, narrowed := true }
def FnRGBAReadOutsideUptoSaid : Prop := fnRGBAReadOutsideUptoRow.holds Try.pinned (OpenSpec.upto fnRGBAReadOutsideSpec)

/-- 'laws.FnRGBAColor', WHERE WHAT IT READS IS OF BULK AT MOST 1048576: true; the input reads as it did. -/
def fnRGBAColorUptoRow : OpenClaim := { program := "ytlkmpaoapcpolaa", sum := "49ef5169b0096e7a923e57e69820ff0c176e4e64ce811a692c541bac39f8fd48", func := "loop.example/lib-g01196/laws.FnRGBAColor", spec := "fnRGBAColor", apart := false, narrowed := true }
def FnRGBAColorUptoSaid : Prop := fnRGBAColorUptoRow.holds Try.pinned (OpenSpec.upto fnRGBAColorSpec)

/-- 'laws.FnRGBAOffset', WHERE WHAT IT READS IS OF BULK AT MOST 1048576: true; the input reads as it did. -/
def fnRGBAOffsetUptoRow : OpenClaim := { program := "ytlkmpaoapcpolaa", sum := "49ef5169b0096e7a923e57e69820ff0c176e4e64ce811a692c541bac39f8fd48", func := "loop.example/lib-g01196/laws.FnRGBAOffset", spec := "fnRGBAOffset", apart := false, narrowed := true }
def FnRGBAOffsetUptoSaid : Prop := fnRGBAOffsetUptoRow.holds Try.pinned (OpenSpec.upto fnRGBAOffsetSpec)

/-- 'laws.FnRGBAApart', WHERE WHAT IT READS IS OF BULK AT MOST 1048576: true; the input reads as it did. -/
def fnRGBAApartUptoRow : OpenClaim := { program := "ytlkmpaoapcpolaa", sum := "49ef5169b0096e7a923e57e69820ff0c176e4e64ce811a692c541bac39f8fd48", func := "loop.example/lib-g01196/laws.FnRGBAApart", spec := "fnRGBAApart", apart := false, narrowed := true }
def FnRGBAApartUptoSaid : Prop := fnRGBAApartUptoRow.holds Try.pinned (OpenSpec.upto fnRGBAApartSpec)

end Rows
end Go.Proofs.Ytlkmpaoapcpolaa

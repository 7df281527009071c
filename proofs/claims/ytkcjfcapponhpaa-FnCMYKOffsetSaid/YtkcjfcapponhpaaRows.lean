/-
  No cell of these rows narrows 'for every input' (looked for: loops, veiled, ifaces, maps, wideKeys, modest, calm, conditions, laid).
  DERIVED. THE GIVEN ROWS OF THIS SEAT. 7 by the template 'for every input the law returns true; each argument reads behind the call as it read before'; 0 by the template 'total and deterministic' (their statements: YtkcjfcapponhpaaTotals.lean).
  GIVEN WITH THE SEED: the statements are not yours to turn. If you find one false, say at which input.
  Laid BY PROGRAM, IN A SANDBOX (cutbox-rows.mjs): the forced cells as the released guide's own fill.sh prints them over the translation 25238fbbebd98483… (all of the seat's roots in one cut). By AI agents, Wed Nov 11 2026. No macro, syntax, notation, axiom, sorry.
-/
import Derived.Test.YtkcjfcapponhpaaChecked
import GoSem.Claim
import GoSem.ClaimJoined
import GoSem.ClaimMapViews
import Derived.JoinedTies
import Derived.KernelRfl
namespace Go.Proofs.Ytkcjfcapponhpaa
/- THE CELL 'sum', in the pinned program and in every row, IS THE sha256 OF THE DUMP (.gsa) THAT YtkcjfcapponhpaaProg.lean LOADS. Nothing in Lean hashes anything: it is a label: what it is worth is what the hold of that sum in a sandbox is worth. -/
noncomputable def Try.pinned : Pinned := { name := "ytkcjfcapponhpaa", sum := "25238fbbebd9848383c1992900b989d53b129ac319f38615e3dd079e44ff8e1f", checked := Try.checked }
namespace Rows
def none {H : Type} : Left H := { results := [], args := [] }

/-- 'laws.FnCMYKNew': WHATEVER THE INPUT: true; the input reads as it did. -/
def fnCMYKNewSpec : ChangeSpec := { name := "fnCMYKNew", fn := fun _ => fun
  | [d] => { results := [.lit (.bool true)], args := [d] }
  | _ => none }
def fnCMYKNewRow : OpenClaim := { program := "ytkcjfcapponhpaa", sum := "25238fbbebd9848383c1992900b989d53b129ac319f38615e3dd079e44ff8e1f", func := "loop.example/lib-g01196/laws.FnCMYKNew", spec := "fnCMYKNew", apart := false }
def FnCMYKNewSaid : Prop := fnCMYKNewRow.holds Try.pinned (OpenSpec.ofChange fnCMYKNewSpec)

/-- ITS FALSE NEIGHBOUR: 'it returns false'. Refute it at one input. -/
def fnCMYKNewWrong : ChangeSpec := { name := "fnCMYKNew", fn := fun _ => fun
  | [d] => { results := [.lit (.bool false)], args := [d] }
  | _ => none }
def FnCMYKNewWrongFalsely : Prop := fnCMYKNewRow.holds Try.pinned (OpenSpec.ofChange fnCMYKNewWrong)

/-- 'laws.FnCMYKNewBounds': WHATEVER THE INPUT: true; the input reads as it did. -/
def fnCMYKNewBoundsSpec : ChangeSpec := { name := "fnCMYKNewBounds", fn := fun _ => fun
  | [d] => { results := [.lit (.bool true)], args := [d] }
  | _ => none }
def fnCMYKNewBoundsRow : OpenClaim := { program := "ytkcjfcapponhpaa", sum := "25238fbbebd9848383c1992900b989d53b129ac319f38615e3dd079e44ff8e1f", func := "loop.example/lib-g01196/laws.FnCMYKNewBounds", spec := "fnCMYKNewBounds", apart := false }
def FnCMYKNewBoundsSaid : Prop := fnCMYKNewBoundsRow.holds Try.pinned (OpenSpec.ofChange fnCMYKNewBoundsSpec)

/-- ITS FALSE NEIGHBOUR: 'it returns false'. Refute it at one input. -/
def fnCMYKNewBoundsWrong : ChangeSpec := { name := "fnCMYKNewBounds", fn := fun _ => fun
  | [d] => { results := [.lit (.bool false)], args := [d] }
  | _ => none }
def FnCMYKNewBoundsWrongFalsely : Prop := fnCMYKNewBoundsRow.holds Try.pinned (OpenSpec.ofChange fnCMYKNewBoundsWrong)

/-- 'laws.FnCMYKRead': WHATEVER THE INPUT: true; the input reads as it did. -/
def fnCMYKReadSpec : ChangeSpec := { name := "fnCMYKRead", fn := fun _ => fun
  | [d1, d2, d3, d4] => { results := [.lit (.bool true)], args := [d1, d2, d3, d4] }
  | _ => none }
def fnCMYKReadRow : OpenClaim := { program := "ytkcjfcapponhpaa", sum := "25238fbbebd9848383c1992900b989d53b129ac319f38615e3dd079e44ff8e1f", func := "loop.example/lib-g01196/laws.FnCMYKRead", spec := "fnCMYKRead", apart := false }
def FnCMYKReadSaid : Prop := fnCMYKReadRow.holds Try.pinned (OpenSpec.ofChange fnCMYKReadSpec)

/-- ITS FALSE NEIGHBOUR: 'it returns false'. Refute it at one input. -/
def fnCMYKReadWrong : ChangeSpec := { name := "fnCMYKRead", fn := fun _ => fun
  | [d1, d2, d3, d4] => { results := [.lit (.bool false)], args := [d1, d2, d3, d4] }
  | _ => none }
def FnCMYKReadWrongFalsely : Prop := fnCMYKReadRow.holds Try.pinned (OpenSpec.ofChange fnCMYKReadWrong)

/-- 'laws.FnCMYKReadOutside': WHATEVER THE INPUT: true; the input reads as it did. -/
def fnCMYKReadOutsideSpec : ChangeSpec := { name := "fnCMYKReadOutside", fn := fun _ => fun
  | [d1, d2, d3, d4] => { results := [.lit (.bool true)], args := [d1, d2, d3, d4] }
  | _ => none }
def fnCMYKReadOutsideRow : OpenClaim := { program := "ytkcjfcapponhpaa", sum := "25238fbbebd9848383c1992900b989d53b129ac319f38615e3dd079e44ff8e1f", func := "loop.example/lib-g01196/laws.FnCMYKReadOutside", spec := "fnCMYKReadOutside", apart := false }
def FnCMYKReadOutsideSaid : Prop := fnCMYKReadOutsideRow.holds Try.pinned (OpenSpec.ofChange fnCMYKReadOutsideSpec)

/-- ITS FALSE NEIGHBOUR: 'it returns false'. Refute it at one input. -/
def fnCMYKReadOutsideWrong : ChangeSpec := { name := "fnCMYKReadOutside", fn := fun _ => fun
  | [d1, d2, d3, d4] => { results := [.lit (.bool false)], args := [d1, d2, d3, d4] }
  | _ => none }
def FnCMYKReadOutsideWrongFalsely : Prop := fnCMYKReadOutsideRow.holds Try.pinned (OpenSpec.ofChange fnCMYKReadOutsideWrong)

/-- 'laws.FnCMYKColor': WHATEVER THE INPUT: true; the input reads as it did. -/
def fnCMYKColorSpec : ChangeSpec := { name := "fnCMYKColor", fn := fun _ => fun
  | [d1, d2, d3, d4] => { results := [.lit (.bool true)], args := [d1, d2, d3, d4] }
  | _ => none }
def fnCMYKColorRow : OpenClaim := { program := "ytkcjfcapponhpaa", sum := "25238fbbebd9848383c1992900b989d53b129ac319f38615e3dd079e44ff8e1f", func := "loop.example/lib-g01196/laws.FnCMYKColor", spec := "fnCMYKColor", apart := false }
def FnCMYKColorSaid : Prop := fnCMYKColorRow.holds Try.pinned (OpenSpec.ofChange fnCMYKColorSpec)

/-- ITS FALSE NEIGHBOUR: 'it returns false'. Refute it at one input. -/
def fnCMYKColorWrong : ChangeSpec := { name := "fnCMYKColor", fn := fun _ => fun
  | [d1, d2, d3, d4] => { results := [.lit (.bool false)], args := [d1, d2, d3, d4] }
  | _ => none }
def FnCMYKColorWrongFalsely : Prop := fnCMYKColorRow.holds Try.pinned (OpenSpec.ofChange fnCMYKColorWrong)

/-- 'laws.FnCMYKOffset': WHATEVER THE INPUT: true; the input reads as it did. -/
def fnCMYKOffsetSpec : ChangeSpec := { name := "fnCMYKOffset", fn := fun _ => fun
  | [d1, d2, d3] => { results := [.lit (.bool true)], args := [d1, d2, d3] }
  | _ => none }
def fnCMYKOffsetRow : OpenClaim := { program := "ytkcjfcapponhpaa", sum := "25238fbbebd9848383c1992900b989d53b129ac319f38615e3dd079e44ff8e1f", func := "loop.example/lib-g01196/laws.FnCMYKOffset", spec := "fnCMYKOffset", apart := false }
def FnCMYKOffsetSaid : Prop := fnCMYKOffsetRow.holds Try.pinned (OpenSpec.ofChange fnCMYKOffsetSpec)

/-- ITS FALSE NEIGHBOUR: 'it returns false'. Refute it at one input. -/
def fnCMYKOffsetWrong : ChangeSpec := { name := "fnCMYKOffset", fn := fun _ => fun
  | [d1, d2, d3] => { results := [.lit (.bool false)], args := [d1, d2, d3] }
  | _ => none }
def FnCMYKOffsetWrongFalsely : Prop := fnCMYKOffsetRow.holds Try.pinned (OpenSpec.ofChange fnCMYKOffsetWrong)

/-- 'laws.FnCMYKApart': WHATEVER THE INPUT: true; the input reads as it did. -/
def fnCMYKApartSpec : ChangeSpec := { name := "fnCMYKApart", fn := fun _ => fun
  | [d1, d2, d3, d4, d5] => { results := [.lit (.bool true)], args := [d1, d2, d3, d4, d5] }
  | _ => none }
def fnCMYKApartRow : OpenClaim := { program := "ytkcjfcapponhpaa", sum := "25238fbbebd9848383c1992900b989d53b129ac319f38615e3dd079e44ff8e1f", func := "loop.example/lib-g01196/laws.FnCMYKApart", spec := "fnCMYKApart", apart := false }
def FnCMYKApartSaid : Prop := fnCMYKApartRow.holds Try.pinned (OpenSpec.ofChange fnCMYKApartSpec)

/-- ITS FALSE NEIGHBOUR: 'it returns false'. Refute it at one input. -/
def fnCMYKApartWrong : ChangeSpec := { name := "fnCMYKApart", fn := fun _ => fun
  | [d1, d2, d3, d4, d5] => { results := [.lit (.bool false)], args := [d1, d2, d3, d4, d5] }
  | _ => none }
def FnCMYKApartWrongFalsely : Prop := fnCMYKApartRow.holds Try.pinned (OpenSpec.ofChange fnCMYKApartWrong)

/- THE SECOND FORM. 'bulk': how many values and letters a reading holds, each counted each time it is reached (what is shared counts as often as it is met; a slice's spare places count too). A statement '..UptoSaid' is the law's where the arguments, and the package variables that the reading takes, are together of bulk at most 1048576: NARROWER than '..Said'. Prove '..Said' where nothing that the law and all that it calls make is longer than what came in: it says more and counts as full. Else prove '..UptoSaid'. A law counts once. -/
mutual
def uptoBulk {H : Type} : DataW H → Nat
  | .lit (.string bytes) => bytes.length + 1
  | .lit _ => 1
  | .nil => 1
  | .ptr d => uptoBulk d + 1
  | .slice elems spare => uptoBulkAll elems + uptoBulkAll spare + 1
  | .agg parts => uptoBulkAll parts + 1
  | .iface _ d => uptoBulk d + 1
  | .map entries => uptoBulkEntries entries + 1
  | .held _ => 1
def uptoBulkAll {H : Type} : List (DataW H) → Nat
  | [] => 0
  | d :: r => uptoBulk d + uptoBulkAll r
def uptoBulkEntries {H : Type} : List (Lit × DataW H) → Nat
  | [] => 0
  | x :: r => uptoBulkEntry x + uptoBulkEntries r
def uptoBulkEntry {H : Type} : Lit × DataW H → Nat
  | (.string bytes, d) => bytes.length + uptoBulk d + 1
  | (_, d) => uptoBulk d + 1
 end
def uptoSmall : (H : Type) → List (DataW H) → Bool := fun _ ds => decide (uptoBulkAll ds ≤ 1048576)
def OpenSpec.upto (s : _root_.Go.ChangeSpec) : _root_.Go.OpenSpec := { _root_.Go.OpenSpec.ofChange s with cond := some uptoSmall }

/-- 'laws.FnCMYKNew', WHERE WHAT IT READS IS OF BULK AT MOST 1048576: true; the input reads as it did. -/
def fnCMYKNewUptoRow : OpenClaim := { program := "ytkcjfcapponhpaa", sum := "25238fbbebd9848383c1992900b989d53b129ac319f38615e3dd079e44ff8e1f", func := "loop.example/lib-g01196/laws.FnCMYKNew", spec := "fnCMYKNew", apart := false, narrowed := true }
def FnCMYKNewUptoSaid : Prop := fnCMYKNewUptoRow.holds Try.pinned (OpenSpec.upto fnCMYKNewSpec)

/-- 'laws.FnCMYKNewBounds', WHERE WHAT IT READS IS OF BULK AT MOST 1048576: true; the input reads as it did. -/
def fnCMYKNewBoundsUptoRow : OpenClaim := { program := "ytkcjfcapponhpaa", sum := "25238fbbebd9848383c1992900b989d53b129ac319f38615e3dd079e44ff8e1f", func := "loop.example/lib-g01196/laws.FnCMYKNewBounds", spec := "fnCMYKNewBounds", apart := false, narrowed := true }
def FnCMYKNewBoundsUptoSaid : Prop := fnCMYKNewBoundsUptoRow.holds Try.pinned (OpenSpec.upto fnCMYKNewBoundsSpec)

/-- 'laws.FnCMYKRead', WHERE WHAT IT READS IS OF BULK AT MOST 1048576: true; the input reads as it did. -/
def fnCMYKReadUptoRow : OpenClaim := { program := "ytkcjfcapponhpaa", sum := "25238fbbebd9848383c1992900b989d53b129ac319f38615e3dd079e44ff8e1f", func := "loop.example/lib-g01196/laws.FnCMYKRead", spec := "fnCMYKRead", apart := false, narrowed := true }
def FnCMYKReadUptoSaid : Prop := fnCMYKReadUptoRow.holds Try.pinned (OpenSpec.upto fnCMYKReadSpec)

/-- 'laws.FnCMYKReadOutside', WHERE WHAT IT READS IS OF BULK AT MOST 1048576: true; the input reads as it did. -/
def fnCMYKReadOutsideUptoRow : OpenClaim := { program := "ytkcjfcapponhpaa", sum := "25238fbbebd9848383c1992900b989d53b129ac319f38615e3dd079e44ff8e1f", func := "loop.example/lib-g01196/laws.FnCMYKReadOutside", spec := "fnCMYKReadOutside", apart := false, narrowed := true }
def FnCMYKReadOutsideUptoSaid : Prop := fnCMYKReadOutsideUptoRow.holds Try.pinned (OpenSpec.upto fnCMYKReadOutsideSpec)

/-- 'laws.FnCMYKColor', WHERE WHAT IT READS IS OF BULK AT MOST 1048576: true; the input reads as it did. -/
def fnCMYKColorUptoRow : OpenClaim := { program := "ytkcjfcapponhpaa", sum := "25238fbbebd9848383c1992900b989d53b129ac319f38615e3dd079e44ff8e1f", func := "loop.example/lib-g01196/laws.FnCMYKColor", spec := "fnCMYKColor", apart := false, narrowed := true }
def FnCMYKColorUptoSaid : Prop := fnCMYKColorUptoRow.holds Try.pinned (OpenSpec.upto fnCMYKColorSpec)

/-- 'laws.FnCMYKOffset', WHERE WHAT IT READS IS OF BULK AT MOST 1048576: true; the input reads as it did. -/
def fnCMYKOffsetUptoRow : OpenClaim := { program := "ytkcjfcapponhpaa", sum := "25238fbbebd9848383c1992900b989d53b129ac319f38615e3dd079e44ff8e1f", func := "loop.example/lib-g01196/laws.FnCMYKOffset", spec := "fnCMYKOffset", apart := false, narrowed := true }
def FnCMYKOffsetUptoSaid : Prop := fnCMYKOffsetUptoRow.holds Try.pinned (OpenSpec.upto fnCMYKOffsetSpec)

/-- 'laws.FnCMYKApart', WHERE WHAT IT READS IS OF BULK AT MOST 1048576: true; the input reads as it did. -/
def fnCMYKApartUptoRow : OpenClaim := { program := "ytkcjfcapponhpaa", sum := "25238fbbebd9848383c1992900b989d53b129ac319f38615e3dd079e44ff8e1f", func := "loop.example/lib-g01196/laws.FnCMYKApart", spec := "fnCMYKApart", apart := false, narrowed := true }
def FnCMYKApartUptoSaid : Prop := fnCMYKApartUptoRow.holds Try.pinned (OpenSpec.upto fnCMYKApartSpec)

end Rows
end Go.Proofs.Ytkcjfcapponhpaa

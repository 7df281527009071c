/-
  No cell of these rows narrows 'for every input' (looked for: loops, veiled, ifaces, maps, wideKeys, modest, calm, conditions, laid).
  DERIVED. THE GIVEN ROWS OF THIS SEAT. 3 by the template 'for every input the law returns true; each argument reads behind the call as it read before'; 0 by the template 'total and deterministic' (their statements: YtmjcfbifkkbieaaTotals.lean).
  GIVEN WITH THE SEED: the statements are not yours to turn. If you find one false, say at which input.
  Laid BY PROGRAM, IN A SANDBOX (cutbox-rows.mjs): the forced cells as the released guide's own fill.sh prints them over the translation 193b743cddd6a6bb… (all of the seat's roots in one cut). By AI agents, Wed Nov 11 2026. No macro, syntax, notation, axiom, sorry.
-/
import Derived.Test.YtmjcfbifkkbieaaChecked
import GoSem.Claim
import GoSem.ClaimJoined
import GoSem.ClaimMapViews
import Derived.JoinedTies
import Derived.KernelRfl
namespace Go.Proofs.Ytmjcfbifkkbieaa
/- THE CELL 'sum', in the pinned program and in every row, IS THE sha256 OF THE DUMP (.gsa) THAT YtmjcfbifkkbieaaProg.lean LOADS. Nothing in Lean hashes anything: it is a label: what it is worth is what the hold of that sum in a sandbox is worth. -/
noncomputable def Try.pinned : Pinned := { name := "ytmjcfbifkkbieaa", sum := "193b743cddd6a6bbf0d28b940c03575881c166591613f336df5a438faa1347d5", checked := Try.checked }
namespace Rows
def none {H : Type} : Left H := { results := [], args := [] }

/-- 'laws.FnAlphaNewBounds': WHATEVER THE INPUT: true; the input reads as it did. -/
def fnAlphaNewBoundsSpec : ChangeSpec := { name := "fnAlphaNewBounds", fn := fun _ => fun
  | [d] => { results := [.lit (.bool true)], args := [d] }
  | _ => none }
def fnAlphaNewBoundsRow : OpenClaim := { program := "ytmjcfbifkkbieaa", sum := "193b743cddd6a6bbf0d28b940c03575881c166591613f336df5a438faa1347d5", func := "loop.example/lib-g01196/laws.FnAlphaNewBounds", spec := "fnAlphaNewBounds", apart := false }
def FnAlphaNewBoundsSaid : Prop := fnAlphaNewBoundsRow.holds Try.pinned (OpenSpec.ofChange fnAlphaNewBoundsSpec)

/-- ITS FALSE NEIGHBOUR: 'it returns false'. Refute it at one input. -/
def fnAlphaNewBoundsWrong : ChangeSpec := { name := "fnAlphaNewBounds", fn := fun _ => fun
  | [d] => { results := [.lit (.bool false)], args := [d] }
  | _ => none }
def FnAlphaNewBoundsWrongFalsely : Prop := fnAlphaNewBoundsRow.holds Try.pinned (OpenSpec.ofChange fnAlphaNewBoundsWrong)

/-- 'laws.FnAlphaNew': WHATEVER THE INPUT: true; the input reads as it did. -/
def fnAlphaNewSpec : ChangeSpec := { name := "fnAlphaNew", fn := fun _ => fun
  | [d] => { results := [.lit (.bool true)], args := [d] }
  | _ => none }
def fnAlphaNewRow : OpenClaim := { program := "ytmjcfbifkkbieaa", sum := "193b743cddd6a6bbf0d28b940c03575881c166591613f336df5a438faa1347d5", func := "loop.example/lib-g01196/laws.FnAlphaNew", spec := "fnAlphaNew", apart := false }
def FnAlphaNewSaid : Prop := fnAlphaNewRow.holds Try.pinned (OpenSpec.ofChange fnAlphaNewSpec)

/-- ITS FALSE NEIGHBOUR: 'it returns false'. Refute it at one input. -/
def fnAlphaNewWrong : ChangeSpec := { name := "fnAlphaNew", fn := fun _ => fun
  | [d] => { results := [.lit (.bool false)], args := [d] }
  | _ => none }
def FnAlphaNewWrongFalsely : Prop := fnAlphaNewRow.holds Try.pinned (OpenSpec.ofChange fnAlphaNewWrong)

/-- 'laws.FnAlphaSubAll': WHATEVER THE INPUT: true; the input reads as it did. -/
def fnAlphaSubAllSpec : ChangeSpec := { name := "fnAlphaSubAll", fn := fun _ => fun
  | [d1, d2] => { results := [.lit (.bool true)], args := [d1, d2] }
  | _ => none }
def fnAlphaSubAllRow : OpenClaim := { program := "ytmjcfbifkkbieaa", sum := "193b743cddd6a6bbf0d28b940c03575881c166591613f336df5a438faa1347d5", func := "loop.example/lib-g01196/laws.FnAlphaSubAll", spec := "fnAlphaSubAll", apart := false }
def FnAlphaSubAllSaid : Prop := fnAlphaSubAllRow.holds Try.pinned (OpenSpec.ofChange fnAlphaSubAllSpec)

/-- ITS FALSE NEIGHBOUR: 'it returns false'. Refute it at one input. -/
def fnAlphaSubAllWrong : ChangeSpec := { name := "fnAlphaSubAll", fn := fun _ => fun
  | [d1, d2] => { results := [.lit (.bool false)], args := [d1, d2] }
  | _ => none }
def FnAlphaSubAllWrongFalsely : Prop := fnAlphaSubAllRow.holds Try.pinned (OpenSpec.ofChange fnAlphaSubAllWrong)

/- THE SECOND FORM. 'bulk': how many values and letters a reading holds, each counted each time it is reached (what is shared counts as often as it is met; a slice's spare places count too). A statement '..UptoSaid' is the law's where the arguments, and the package variables that the reading takes, are together of bulk at most 1048576: NARROWER than '..Said'. Prove '..Said' where nothing that the law and all that it calls make is longer than what came in: it says more and counts as full. Else prove '..UptoSaid'. A law counts once. -/
mutual
def uptoBulk {H : Type} : DataW H → Nat
  | .lit (.string bytes) => bytes.length + 1
  | .lit _ => 1
  | .nil => 1
  | .ptr d => uptoBulk d + 1
  | .slice elems spare => uptoBulkAll elems + uptoBulkAll spare + 1
  | .agg parts => uptoBulkAll parts + 1
  | .iface _ d => uptoBulk d + 1
  | .map entries => uptoBulkEntries entries + 1
  | .held _ => 1
def uptoBulkAll {H : Type} : List (DataW H) → Nat
  | [] => 0
  | d :: r => uptoBulk d + uptoBulkAll r
def uptoBulkEntries {H : Type} : List (Lit × DataW H) → Nat
  | [] => 0
  | x :: r => uptoBulkEntry x + uptoBulkEntries r
def uptoBulkEntry {H : Type} : Lit × DataW H → Nat
  | (.string bytes, d) => bytes.length + uptoBulk d + 1
  | (_, d) => uptoBulk d + 1
 end
def uptoSmall : (H : Type) → List (DataW H) → Bool := fun _ ds => decide (uptoBulkAll ds ≤ 1048576)
def OpenSpec.upto (s : _root_.Go.ChangeSpec) : _root_.Go.OpenSpec := { _root_.Go.OpenSpec.ofChange s with cond := some uptoSmall }

/-- 'laws.FnAlphaNewBounds', WHERE WHAT IT READS IS OF BULK AT MOST 1048576: true; the input reads as it did. -/
def fnAlphaNewBoundsUptoRow : OpenClaim := { program := "ytmjcfbifkkbieaa", sum := "193b743cddd6a6bbf0d28b940c03575881c166591613f336df5a438faa1347d5", func := "loop.example/lib-g01196/laws.FnAlphaNewBounds", spec := "fnAlphaNewBounds", apart := false, narrowed := true }
def FnAlphaNewBoundsUptoSaid : Prop := fnAlphaNewBoundsUptoRow.holds Try.pinned (OpenSpec.upto fnAlphaNewBoundsSpec)

/-- 'laws.FnAlphaNew', WHERE WHAT IT READS IS OF BULK AT MOST 1048576: true; the input reads as it did. -/
def fnAlphaNewUptoRow : OpenClaim := { program := "ytmjcfbifkkbieaa", sum := "193b743cddd6a6bbf0d28b940c03575881c166591613f336df5a438faa1347d5", func := "loop.example/lib-g01196/laws.FnAlphaNew", spec := "fnAlphaNew", apart := false, narrowed := true }
def FnAlphaNewUptoSaid : Prop := fnAlphaNewUptoRow.holds Try.pinned (OpenSpec.upto fnAlphaNewSpec)

/-- 'laws.FnAlphaSubAll', WHERE WHAT IT READS IS OF BULK AT MOST 1048576: true; the input reads as it did. -/
def fnAlphaSubAllUptoRow : OpenClaim := { program := "ytmjcfbifkkbieaa", sum := "193b743cddd6a6bbf0d28b940c03575881c166591613f336df5a438faa1347d5", func := "loop.example/lib-g01196/laws.FnAlphaSubAll", spec := "fnAlphaSubAll", apart := false, narrowed := true }
def FnAlphaSubAllUptoSaid : Prop := fnAlphaSubAllUptoRow.holds Try.pinned (OpenSpec.upto fnAlphaSubAllSpec)

end Rows
end Go.Proofs.Ytmjcfbifkkbieaa

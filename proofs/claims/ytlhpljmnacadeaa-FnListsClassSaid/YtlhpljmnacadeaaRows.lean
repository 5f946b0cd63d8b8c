/-
  No cell of these rows narrows 'for every input' (looked for: loops, veiled, ifaces, maps, wideKeys, modest, calm, conditions, laid).
  DERIVED. THE GIVEN ROWS OF THIS SEAT. 4 by the template 'for every input the law returns true; each argument reads behind the call as it read before'; 0 by the template 'total and deterministic' (their statements: YtlhpljmnacadeaaTotals.lean).
  GIVEN WITH THE SEED: the statements are not yours to turn. If you find one false, say at which input.
  Laid BY PROGRAM, IN A SANDBOX (cutbox-rows.mjs): the forced cells as the released guide's own fill.sh prints them over the translation 838530b1b63a669e… (all of the seat's roots in one cut). By AI agents, Wed Nov 11 2026. No macro, syntax, notation, axiom, sorry.
-/
import Derived.Test.YtlhpljmnacadeaaChecked
import GoSem.Claim
import GoSem.ClaimJoined
import GoSem.ClaimMapViews
import Derived.JoinedTies
import Derived.KernelRfl
namespace Go.Proofs.Ytlhpljmnacadeaa
/- THE CELL 'sum', in the pinned program and in every row, IS THE sha256 OF THE DUMP (.gsa) THAT YtlhpljmnacadeaaProg.lean LOADS. Nothing in Lean hashes anything: it is a label: what it is worth is what the hold of that sum in a sandbox is worth. -/
noncomputable def Try.pinned : Pinned := { name := "ytlhpljmnacadeaa", sum := "838530b1b63a669eb236d0acb08286d617681a86dafc3e14ee94bf075f2ef881", checked := Try.checked }
namespace Rows
def none {H : Type} : Left H := { results := [], args := [] }

/-- 'laws.FnPaintPrint': WHATEVER THE INPUT: true; the input reads as it did. -/
def fnPaintPrintSpec : ChangeSpec := { name := "fnPaintPrint", fn := fun _ => fun
  | [d1, d2] => { results := [.lit (.bool true)], args := [d1, d2] }
  | _ => none }
def fnPaintPrintRow : OpenClaim := { program := "ytlhpljmnacadeaa", sum := "838530b1b63a669eb236d0acb08286d617681a86dafc3e14ee94bf075f2ef881", func := "pub-tattersall/laws.FnPaintPrint", spec := "fnPaintPrint", inPlace := ["internal/abi.NoEscape", "internal/bytealg.MakeNoZero"], apart := false }
def FnPaintPrintSaid : Prop := fnPaintPrintRow.holds Try.pinned (OpenSpec.ofChange fnPaintPrintSpec)

/-- ITS FALSE NEIGHBOUR: 'it returns false'. Refute it at one input. -/
def fnPaintPrintWrong : ChangeSpec := { name := "fnPaintPrint", fn := fun _ => fun
  | [d1, d2] => { results := [.lit (.bool false)], args := [d1, d2] }
  | _ => none }
def FnPaintPrintWrongFalsely : Prop := fnPaintPrintRow.holds Try.pinned (OpenSpec.ofChange fnPaintPrintWrong)

/-- 'laws.FnListsLength': WHATEVER THE INPUT: true; the input reads as it did. -/
def fnListsLengthSpec : ChangeSpec := { name := "fnListsLength", fn := fun _ => fun
  | [d] => { results := [.lit (.bool true)], args := [d] }
  | _ => none }
def fnListsLengthRow : OpenClaim := { program := "ytlhpljmnacadeaa", sum := "838530b1b63a669eb236d0acb08286d617681a86dafc3e14ee94bf075f2ef881", func := "pub-tattersall/laws.FnListsLength", spec := "fnListsLength", inPlace := ["internal/abi.NoEscape", "internal/bytealg.MakeNoZero"], apart := false }
def FnListsLengthSaid : Prop := fnListsLengthRow.holds Try.pinned (OpenSpec.ofChange fnListsLengthSpec)

/-- ITS FALSE NEIGHBOUR: 'it returns false'. Refute it at one input. -/
def fnListsLengthWrong : ChangeSpec := { name := "fnListsLength", fn := fun _ => fun
  | [d] => { results := [.lit (.bool false)], args := [d] }
  | _ => none }
def FnListsLengthWrongFalsely : Prop := fnListsLengthRow.holds Try.pinned (OpenSpec.ofChange fnListsLengthWrong)

/-- 'laws.FnPaintVAlign': WHATEVER THE INPUT: true; the input reads as it did. -/
def fnPaintVAlignSpec : ChangeSpec := { name := "fnPaintVAlign", fn := fun _ => fun
  | [d1, d2, d3, d4] => { results := [.lit (.bool true)], args := [d1, d2, d3, d4] }
  | _ => none }
def fnPaintVAlignRow : OpenClaim := { program := "ytlhpljmnacadeaa", sum := "838530b1b63a669eb236d0acb08286d617681a86dafc3e14ee94bf075f2ef881", func := "pub-tattersall/laws.FnPaintVAlign", spec := "fnPaintVAlign", inPlace := ["internal/abi.NoEscape", "internal/bytealg.MakeNoZero"], apart := false }
def FnPaintVAlignSaid : Prop := fnPaintVAlignRow.holds Try.pinned (OpenSpec.ofChange fnPaintVAlignSpec)

/-- ITS FALSE NEIGHBOUR: 'it returns false'. Refute it at one input. -/
def fnPaintVAlignWrong : ChangeSpec := { name := "fnPaintVAlign", fn := fun _ => fun
  | [d1, d2, d3, d4] => { results := [.lit (.bool false)], args := [d1, d2, d3, d4] }
  | _ => none }
def FnPaintVAlignWrongFalsely : Prop := fnPaintVAlignRow.holds Try.pinned (OpenSpec.ofChange fnPaintVAlignWrong)

/-- 'laws.FnListsClass': WHATEVER THE INPUT: true; the input reads as it did. -/
def fnListsClassSpec : ChangeSpec := { name := "fnListsClass", fn := fun _ => fun
  | [d] => { results := [.lit (.bool true)], args := [d] }
  | _ => none }
def fnListsClassRow : OpenClaim := { program := "ytlhpljmnacadeaa", sum := "838530b1b63a669eb236d0acb08286d617681a86dafc3e14ee94bf075f2ef881", func := "pub-tattersall/laws.FnListsClass", spec := "fnListsClass", inPlace := ["internal/abi.NoEscape", "internal/bytealg.MakeNoZero"], recurses := true, apart := false }
def FnListsClassSaid : Prop := fnListsClassRow.holds Try.pinned (OpenSpec.ofChange fnListsClassSpec)

/-- ITS FALSE NEIGHBOUR: 'it returns false'. Refute it at one input. -/
def fnListsClassWrong : ChangeSpec := { name := "fnListsClass", fn := fun _ => fun
  | [d] => { results := [.lit (.bool false)], args := [d] }
  | _ => none }
def FnListsClassWrongFalsely : Prop := fnListsClassRow.holds Try.pinned (OpenSpec.ofChange fnListsClassWrong)

/- THE SECOND FORM. 'bulk': how many values and letters a reading holds, each counted each time it is reached (what is shared counts as often as it is met; a slice's spare places count too). A statement '..UptoSaid' is the law's where the arguments, and the package variables that the reading takes, are together of bulk at most 1048576: NARROWER than '..Said'. Prove '..Said' where nothing that the law and all that it calls make is longer than what came in: it says more and counts as full. Else prove '..UptoSaid'. A law counts once. -/
mutual
def uptoBulk {H : Type} : DataW H → Nat
  | .lit (.string bytes) => bytes.length + 1
  | .lit _ => 1
  | .nil => 1
  | .ptr d => uptoBulk d + 1
  | .slice elems spare => uptoBulkAll elems + uptoBulkAll spare + 1
  | .agg parts => uptoBulkAll parts + 1
  | .iface _ d => uptoBulk d + 1
  | .map entries => uptoBulkEntries entries + 1
  | .held _ => 1
def uptoBulkAll {H : Type} : List (DataW H) → Nat
  | [] => 0
  | d :: r => uptoBulk d + uptoBulkAll r
def uptoBulkEntries {H : Type} : List (Lit × DataW H) → Nat
  | [] => 0
  | x :: r => uptoBulkEntry x + uptoBulkEntries r
def uptoBulkEntry {H : Type} : Lit × DataW H → Nat
  | (.string bytes, d) => bytes.length + uptoBulk d + 1
  | (_, d) => uptoBulk d + 1
 end
def uptoSmall : (H : Type) → List (DataW H) → Bool := fun _ ds => decide (uptoBulkAll ds ≤ 1048576)
def OpenSpec.upto (s : _root_.Go.ChangeSpec) : _root_.Go.OpenSpec := { _root_.Go.OpenSpec.ofChange s with cond := some uptoSmall }

/-- 'laws.FnPaintPrint', WHERE WHAT IT READS IS OF BULK AT MOST 1048576: true; the input reads as it did. -/
def fnPaintPrintUptoRow : OpenClaim := { program := "ytlhpljmnacadeaa", sum := "838530b1b63a669eb236d0acb08286d617681a86dafc3e14ee94bf075f2ef881", func := "pub-tattersall/laws.FnPaintPrint", spec := "fnPaintPrint", inPlace := ["internal/abi.NoEscape", "internal/bytealg.MakeNoZero"], apart := false, narrowed := true }
def FnPaintPrintUptoSaid : Prop := fnPaintPrintUptoRow.holds Try.pinned (OpenSpec.upto fnPaintPrintSpec)

/-- 'laws.FnListsLength', WHERE WHAT IT READS IS OF BULK AT MOST 1048576: true; the input reads as it did. -/
def fnListsLengthUptoRow : OpenClaim := { program := "ytlhpljmnacadeaa", sum := "838530b1b63a669eb236d0acb08286d617681a86dafc3e14ee94bf075f2ef881", func := "pub-tattersall/laws.FnListsLength", spec := "fnListsLength", inPlace := ["internal/abi.NoEscape", "internal/bytealg.MakeNoZero"], apart := false, narrowed := true }
def FnListsLengthUptoSaid : Prop := fnListsLengthUptoRow.holds Try.pinned (OpenSpec.upto fnListsLengthSpec)

/-- 'laws.FnPaintVAlign', WHERE WHAT IT READS IS OF BULK AT MOST 1048576: true; the input reads as it did. -/
def fnPaintVAlignUptoRow : OpenClaim := { program := "ytlhpljmnacadeaa", sum := "838530b1b63a669eb236d0acb08286d617681a86dafc3e14ee94bf075f2ef881", func := "pub-tattersall/laws.FnPaintVAlign", spec := "fnPaintVAlign", inPlace := ["internal/abi.NoEscape", "internal/bytealg.MakeNoZero"], apart := false, narrowed := true }
def FnPaintVAlignUptoSaid : Prop := fnPaintVAlignUptoRow.holds Try.pinned (OpenSpec.upto fnPaintVAlignSpec)

/-- 'laws.FnListsClass', WHERE WHAT IT READS IS OF BULK AT MOST 1048576: true; the input reads as it did. -/
def fnListsClassUptoRow : OpenClaim := { program := "ytlhpljmnacadeaa", sum := "838530b1b63a669eb236d0acb08286d617681a86dafc3e14ee94bf075f2ef881", func := "pub-tattersall/laws.FnListsClass", spec := "fnListsClass", inPlace := ["internal/abi.NoEscape", "internal/bytealg.MakeNoZero"], recurses := true, apart := false, narrowed := true }
def FnListsClassUptoSaid : Prop := fnListsClassUptoRow.holds Try.pinned (OpenSpec.upto fnListsClassSpec)

end Rows
end Go.Proofs.Ytlhpljmnacadeaa

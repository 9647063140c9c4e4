/-
  No cell of these rows narrows 'for every input' (looked for: loops, veiled, ifaces, maps, wideKeys, modest, calm, conditions, laid).
  DERIVED. THE GIVEN ROWS OF THIS SEAT. 2 by the template 'for every input the law returns true; each argument reads behind the call as it read before'; 0 by the template 'total and deterministic' (their statements: YtkcdnbpmochplaaGreatTotals.lean).
  GIVEN WITH THE SEED: the statements are not yours to turn. If you find one false, say at which input.
  Laid BY PROGRAM, IN A SANDBOX (cutbox-rows.mjs): the forced cells as the released guide's own fill.sh prints them over the translation 508cc94d3409d1ae… (all of the seat's roots in one cut). By AI agents, Wed Nov 11 2026. No macro, syntax, notation, axiom, sorry.
-/
import Derived.Test.YtkcdnbpmochplaaGreatChecked
import GoSem.Claim
import GoSem.ClaimJoined
import GoSem.ClaimMapViews
import Derived.JoinedTies
import Derived.KernelRfl
namespace Go.Proofs.YtkcdnbpmochplaaGreat
/- THE CELL 'sum', in the pinned program and in every row, IS THE sha256 OF THE DUMP (.gsa) THAT YtkcdnbpmochplaaGreatProg.lean LOADS. Nothing in Lean hashes anything: it is a label: what it is worth is what the hold of that sum in a sandbox is worth. -/
noncomputable def Tryz.pinned : Pinned := { name := "ytkcdnbpmochplaagreat", sum := "508cc94d3409d1aec0e7e5f1d7e4c9efac738a39641c0bd05de8117b29c63ef4", checked := Tryz.checked }
namespace Rows
def none {H : Type} : Left H := { results := [], args := [] }

/-- 'n025_11.FnSizeOfKindWidthTable': WHATEVER THE INPUT: true; the input reads as it did. -/
def fnSizeOfKindWidthTableSpec : ChangeSpec := { name := "fnSizeOfKindWidthTable", fn := fun _ => fun
  | [d] => { results := [.lit (.bool true)], args := [d] }
  | _ => none }
def fnSizeOfKindWidthTableRow : OpenClaim := { program := "ytkcdnbpmochplaagreat", sum := "508cc94d3409d1aec0e7e5f1d7e4c9efac738a39641c0bd05de8117b29c63ef4", func := "github.com/alecthomas/participle/v2/n025_11.FnSizeOfKindWidthTable", spec := "fnSizeOfKindWidthTable", inPlace := ["(reflect.Kind).String"], make := .lifted ["reflectrows", "leanrows"], apart := false }
def FnSizeOfKindWidthTableSaid : Prop := fnSizeOfKindWidthTableRow.holds Tryz.pinned (OpenSpec.ofChange fnSizeOfKindWidthTableSpec)

/-- ITS FALSE NEIGHBOUR: 'it returns false'. Refute it at one input. -/
def fnSizeOfKindWidthTableWrong : ChangeSpec := { name := "fnSizeOfKindWidthTable", fn := fun _ => fun
  | [d] => { results := [.lit (.bool false)], args := [d] }
  | _ => none }
def FnSizeOfKindWidthTableWrongFalsely : Prop := fnSizeOfKindWidthTableRow.holds Tryz.pinned (OpenSpec.ofChange fnSizeOfKindWidthTableWrong)

/-- 'n025_11.FnSizeOfKindSignedUnsignedOrder': WHATEVER THE INPUT: true; the input reads as it did. -/
def fnSizeOfKindSignedUnsignedOrderSpec : ChangeSpec := { name := "fnSizeOfKindSignedUnsignedOrder", fn := fun _ => fun
  | [d] => { results := [.lit (.bool true)], args := [d] }
  | _ => none }
def fnSizeOfKindSignedUnsignedOrderRow : OpenClaim := { program := "ytkcdnbpmochplaagreat", sum := "508cc94d3409d1aec0e7e5f1d7e4c9efac738a39641c0bd05de8117b29c63ef4", func := "github.com/alecthomas/participle/v2/n025_11.FnSizeOfKindSignedUnsignedOrder", spec := "fnSizeOfKindSignedUnsignedOrder", inPlace := ["(reflect.Kind).String"], make := .lifted ["reflectrows", "leanrows"], apart := false }
def FnSizeOfKindSignedUnsignedOrderSaid : Prop := fnSizeOfKindSignedUnsignedOrderRow.holds Tryz.pinned (OpenSpec.ofChange fnSizeOfKindSignedUnsignedOrderSpec)

/-- ITS FALSE NEIGHBOUR: 'it returns false'. Refute it at one input. -/
def fnSizeOfKindSignedUnsignedOrderWrong : ChangeSpec := { name := "fnSizeOfKindSignedUnsignedOrder", fn := fun _ => fun
  | [d] => { results := [.lit (.bool false)], args := [d] }
  | _ => none }
def FnSizeOfKindSignedUnsignedOrderWrongFalsely : Prop := fnSizeOfKindSignedUnsignedOrderRow.holds Tryz.pinned (OpenSpec.ofChange fnSizeOfKindSignedUnsignedOrderWrong)

/- THE SECOND FORM. 'bulk': how many values and letters a reading holds, each counted each time it is reached (what is shared counts as often as it is met; a slice's spare places count too). A statement '..UptoSaid' is the law's where the arguments, and the package variables that the reading takes, are together of bulk at most 1048576: NARROWER than '..Said'. Prove '..Said' where nothing that the law and all that it calls make is longer than what came in: it says more and counts as full. Else prove '..UptoSaid'. A law counts once. -/
mutual
def uptoBulk {H : Type} : DataW H → Nat
  | .lit (.string bytes) => bytes.length + 1
  | .lit _ => 1
  | .nil => 1
  | .ptr d => uptoBulk d + 1
  | .slice elems spare => uptoBulkAll elems + uptoBulkAll spare + 1
  | .agg parts => uptoBulkAll parts + 1
  | .iface _ d => uptoBulk d + 1
  | .map entries => uptoBulkEntries entries + 1
  | .held _ => 1
def uptoBulkAll {H : Type} : List (DataW H) → Nat
  | [] => 0
  | d :: r => uptoBulk d + uptoBulkAll r
def uptoBulkEntries {H : Type} : List (Lit × DataW H) → Nat
  | [] => 0
  | x :: r => uptoBulkEntry x + uptoBulkEntries r
def uptoBulkEntry {H : Type} : Lit × DataW H → Nat
  | (.string bytes, d) => bytes.length + uptoBulk d + 1
  | (_, d) => uptoBulk d + 1
 end
def uptoSmall : (H : Type) → List (DataW H) → Bool := fun _ ds => decide (uptoBulkAll ds ≤ 1048576)
def OpenSpec.upto (s : _root_.Go.ChangeSpec) : _root_.Go.OpenSpec := { _root_.Go.OpenSpec.ofChange s with cond := some uptoSmall }

/-- 'n025_11.FnSizeOfKindWidthTable', WHERE WHAT IT READS IS OF BULK AT MOST 1048576: true; the input reads as it did. -/
def fnSizeOfKindWidthTableUptoRow : OpenClaim := { program := "ytkcdnbpmochplaagreat", sum := "508cc94d3409d1aec0e7e5f1d7e4c9efac738a39641c0bd05de8117b29c63ef4", func := "github.com/alecthomas/participle/v2/n025_11.FnSizeOfKindWidthTable", spec := "fnSizeOfKindWidthTable", inPlace := ["(reflect.Kind).String"], make := .lifted ["reflectrows", "leanrows"], apart := false, narrowed := true }
def FnSizeOfKindWidthTableUptoSaid : Prop := fnSizeOfKindWidthTableUptoRow.holds Tryz.pinned (OpenSpec.upto fnSizeOfKindWidthTableSpec)

/-- 'n025_11.FnSizeOfKindSignedUnsignedOrder', WHERE WHAT IT READS IS OF BULK AT MOST 1048576: true; the input reads as it did. -/
def fnSizeOfKindSignedUnsignedOrderUptoRow : OpenClaim := { program := "ytkcdnbpmochplaagreat", sum := "508cc94d3409d1aec0e7e5f1d7e4c9efac738a39641c0bd05de8117b29c63ef4", func := "github.com/alecthomas/participle/v2/n025_11.FnSizeOfKindSignedUnsignedOrder", spec := "fnSizeOfKindSignedUnsignedOrder", inPlace := ["(reflect.Kind).String"], make := .lifted ["reflectrows", "leanrows"], apart := false, narrowed := true }
def FnSizeOfKindSignedUnsignedOrderUptoSaid : Prop := fnSizeOfKindSignedUnsignedOrderUptoRow.holds Tryz.pinned (OpenSpec.upto fnSizeOfKindSignedUnsignedOrderSpec)

end Rows
end Go.Proofs.YtkcdnbpmochplaaGreat

/-
  No cell of these rows narrows 'for every input' (looked for: loops, veiled, ifaces, maps, wideKeys, modest, calm, conditions, laid).
  DERIVED. THE GIVEN ROWS OF THIS SEAT. 4 by the template 'for every input the law returns true; each argument reads behind the call as it read before'; 0 by the template 'total and deterministic' (their statements: Qxb6605568aTotals.lean).
  GIVEN WITH THE SEED: the statements are not yours to turn. If you find one false, say at which input.
  Laid BY PROGRAM, IN A SANDBOX (cutbox-rows.mjs): the forced cells as the released guide's own fill.sh prints them over the translation c995ea3508252742… (all of the seat's roots in one cut). By AI agents, Wed Nov 11 2026. No macro, syntax, notation, axiom, sorry.
-/
import Derived.Test.Qxb6605568aChecked
import GoSem.Claim
import GoSem.ClaimJoined
import GoSem.ClaimMapViews
import Derived.JoinedTies
import Derived.KernelRfl
namespace Go.Proofs.Qxb6605568a
/- THE CELL 'sum', in the pinned program and in every row, IS THE sha256 OF THE DUMP (.gsa) THAT Qxb6605568aProg.lean LOADS. Nothing in Lean hashes anything: it is a label: what it is worth is what the hold of that sum in a sandbox is worth. -/
noncomputable def Try.pinned : Pinned := { name := "qxb6605568a", sum := "c995ea3508252742b0154c6473225f5f7b54dcbc71673f9c3049687c877dbaee", checked := Try.checked }
namespace Rows
def none {H : Type} : Left H := { results := [], args := [] }

/-- 'zzlaws_internal_deflate_b1.FnHuffmanLengthsOptimalComplete': WHATEVER THE INPUT: true; the input reads as it did. -/
def fnHuffmanLengthsOptimalCompleteSpec : ChangeSpec := { name := "fnHuffmanLengthsOptimalComplete", fn := fun _ => fun
  | [d] => { results := [.lit (.bool true)], args := [d] }
  | _ => none }
def fnHuffmanLengthsOptimalCompleteRow : OpenClaim := { program := "qxb6605568a", sum := "c995ea3508252742b0154c6473225f5f7b54dcbc71673f9c3049687c877dbaee", func := "example.com/sylva/sylva/zzlaws_internal_deflate_b1.FnHuffmanLengthsOptimalComplete", spec := "fnHuffmanLengthsOptimalComplete", apart := false }
def FnHuffmanLengthsOptimalCompleteSaid : Prop := fnHuffmanLengthsOptimalCompleteRow.holds Try.pinned (OpenSpec.ofChange fnHuffmanLengthsOptimalCompleteSpec)

/-- ITS FALSE NEIGHBOUR: 'it returns false'. Refute it at one input. -/
def fnHuffmanLengthsOptimalCompleteWrong : ChangeSpec := { name := "fnHuffmanLengthsOptimalComplete", fn := fun _ => fun
  | [d] => { results := [.lit (.bool false)], args := [d] }
  | _ => none }
def FnHuffmanLengthsOptimalCompleteWrongFalsely : Prop := fnHuffmanLengthsOptimalCompleteRow.holds Try.pinned (OpenSpec.ofChange fnHuffmanLengthsOptimalCompleteWrong)

/-- 'zzlaws_internal_deflate_b1.FnHuffmanLengthsScaleFree': WHATEVER THE INPUT: true; the input reads as it did. -/
def fnHuffmanLengthsScaleFreeSpec : ChangeSpec := { name := "fnHuffmanLengthsScaleFree", fn := fun _ => fun
  | [d1, d2] => { results := [.lit (.bool true)], args := [d1, d2] }
  | _ => none }
def fnHuffmanLengthsScaleFreeRow : OpenClaim := { program := "qxb6605568a", sum := "c995ea3508252742b0154c6473225f5f7b54dcbc71673f9c3049687c877dbaee", func := "example.com/sylva/sylva/zzlaws_internal_deflate_b1.FnHuffmanLengthsScaleFree", spec := "fnHuffmanLengthsScaleFree", apart := false }
def FnHuffmanLengthsScaleFreeSaid : Prop := fnHuffmanLengthsScaleFreeRow.holds Try.pinned (OpenSpec.ofChange fnHuffmanLengthsScaleFreeSpec)

/-- ITS FALSE NEIGHBOUR: 'it returns false'. Refute it at one input. -/
def fnHuffmanLengthsScaleFreeWrong : ChangeSpec := { name := "fnHuffmanLengthsScaleFree", fn := fun _ => fun
  | [d1, d2] => { results := [.lit (.bool false)], args := [d1, d2] }
  | _ => none }
def FnHuffmanLengthsScaleFreeWrongFalsely : Prop := fnHuffmanLengthsScaleFreeRow.holds Try.pinned (OpenSpec.ofChange fnHuffmanLengthsScaleFreeWrong)

/-- 'zzlaws_internal_deflate_b1.FnAlignClosedForm': WHATEVER THE INPUT: true; the input reads as it did. -/
def fnAlignClosedFormSpec : ChangeSpec := { name := "fnAlignClosedForm", fn := fun _ => fun
  | [d1, d2, d3] => { results := [.lit (.bool true)], args := [d1, d2, d3] }
  | _ => none }
def fnAlignClosedFormRow : OpenClaim := { program := "qxb6605568a", sum := "c995ea3508252742b0154c6473225f5f7b54dcbc71673f9c3049687c877dbaee", func := "example.com/sylva/sylva/zzlaws_internal_deflate_b1.FnAlignClosedForm", spec := "fnAlignClosedForm", apart := false }
def FnAlignClosedFormSaid : Prop := fnAlignClosedFormRow.holds Try.pinned (OpenSpec.ofChange fnAlignClosedFormSpec)

/-- ITS FALSE NEIGHBOUR: 'it returns false'. Refute it at one input. -/
def fnAlignClosedFormWrong : ChangeSpec := { name := "fnAlignClosedForm", fn := fun _ => fun
  | [d1, d2, d3] => { results := [.lit (.bool false)], args := [d1, d2, d3] }
  | _ => none }
def FnAlignClosedFormWrongFalsely : Prop := fnAlignClosedFormRow.holds Try.pinned (OpenSpec.ofChange fnAlignClosedFormWrong)

/-- 'zzlaws_internal_deflate_b1.FnAlignFlushesPendingBits': WHATEVER THE INPUT: true; the input reads as it did. -/
def fnAlignFlushesPendingBitsSpec : ChangeSpec := { name := "fnAlignFlushesPendingBits", fn := fun _ => fun
  | [d1, d2, d3] => { results := [.lit (.bool true)], args := [d1, d2, d3] }
  | _ => none }
def fnAlignFlushesPendingBitsRow : OpenClaim := { program := "qxb6605568a", sum := "c995ea3508252742b0154c6473225f5f7b54dcbc71673f9c3049687c877dbaee", func := "example.com/sylva/sylva/zzlaws_internal_deflate_b1.FnAlignFlushesPendingBits", spec := "fnAlignFlushesPendingBits", apart := false }
def FnAlignFlushesPendingBitsSaid : Prop := fnAlignFlushesPendingBitsRow.holds Try.pinned (OpenSpec.ofChange fnAlignFlushesPendingBitsSpec)

/-- ITS FALSE NEIGHBOUR: 'it returns false'. Refute it at one input. -/
def fnAlignFlushesPendingBitsWrong : ChangeSpec := { name := "fnAlignFlushesPendingBits", fn := fun _ => fun
  | [d1, d2, d3] => { results := [.lit (.bool false)], args := [d1, d2, d3] }
  | _ => none }
def FnAlignFlushesPendingBitsWrongFalsely : Prop := fnAlignFlushesPendingBitsRow.holds Try.pinned (OpenSpec.ofChange fnAlignFlushesPendingBitsWrong)

end Rows
end Go.Proofs.Qxb6605568a

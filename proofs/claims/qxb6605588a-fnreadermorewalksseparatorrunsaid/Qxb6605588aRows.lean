/-
  No cell of these rows narrows 'for every input' (looked for: loops, veiled, ifaces, maps, wideKeys, modest, calm, conditions, laid).
  DERIVED. THE GIVEN ROWS OF THIS SEAT. 4 by the template 'for every input the law returns true; each argument reads behind the call as it read before'; 0 by the template 'total and deterministic' (their statements: Qxb6605588aTotals.lean).
  GIVEN WITH THE SEED: the statements are not yours to turn. If you find one false, say at which input.
  Laid BY PROGRAM, IN A SANDBOX (cutbox-rows.mjs): the forced cells as the released guide's own fill.sh prints them over the translation 5f52f8042240d070… (all of the seat's roots in one cut). By AI agents, Wed Nov 11 2026. No macro, syntax, notation, axiom, sorry.
-/
import Derived.Test.Qxb6605588aChecked
import GoSem.Claim
import GoSem.ClaimJoined
import GoSem.ClaimMapViews
import Derived.JoinedTies
import Derived.KernelRfl
namespace Go.Proofs.Qxb6605588a
/- THE CELL 'sum', in the pinned program and in every row, IS THE sha256 OF THE DUMP (.gsa) THAT Qxb6605588aProg.lean LOADS. Nothing in Lean hashes anything: it is a label: what it is worth is what the hold of that sum in a sandbox is worth. -/
noncomputable def Try.pinned : Pinned := { name := "qxb6605588a", sum := "5f52f8042240d0702119d86c34629e7c0216b1d38adc9b4cedd8ca600d0b5060", checked := Try.checked }
namespace Rows
def none {H : Type} : Left H := { results := [], args := [] }

/-- 'zzlaws_root_b1.FnHex4ValueOfFourDigits': WHATEVER THE INPUT: true; the input reads as it did. -/
def fnHex4ValueOfFourDigitsSpec : ChangeSpec := { name := "fnHex4ValueOfFourDigits", fn := fun _ => fun
  | [d] => { results := [.lit (.bool true)], args := [d] }
  | _ => none }
def fnHex4ValueOfFourDigitsRow : OpenClaim := { program := "qxb6605588a", sum := "5f52f8042240d0702119d86c34629e7c0216b1d38adc9b4cedd8ca600d0b5060", func := "example.com/holdfast/holdfast/zzlaws_root_b1.FnHex4ValueOfFourDigits", spec := "fnHex4ValueOfFourDigits", apart := false }
def FnHex4ValueOfFourDigitsSaid : Prop := fnHex4ValueOfFourDigitsRow.holds Try.pinned (OpenSpec.ofChange fnHex4ValueOfFourDigitsSpec)

/-- ITS FALSE NEIGHBOUR: 'it returns false'. Refute it at one input. -/
def fnHex4ValueOfFourDigitsWrong : ChangeSpec := { name := "fnHex4ValueOfFourDigits", fn := fun _ => fun
  | [d] => { results := [.lit (.bool false)], args := [d] }
  | _ => none }
def FnHex4ValueOfFourDigitsWrongFalsely : Prop := fnHex4ValueOfFourDigitsRow.holds Try.pinned (OpenSpec.ofChange fnHex4ValueOfFourDigitsWrong)

/-- 'zzlaws_root_b1.FnHex4ReadsBackWhatIsWritten': WHATEVER THE INPUT: true; the input reads as it did. -/
def fnHex4ReadsBackWhatIsWrittenSpec : ChangeSpec := { name := "fnHex4ReadsBackWhatIsWritten", fn := fun _ => fun
  | [d1, d2] => { results := [.lit (.bool true)], args := [d1, d2] }
  | _ => none }
def fnHex4ReadsBackWhatIsWrittenRow : OpenClaim := { program := "qxb6605588a", sum := "5f52f8042240d0702119d86c34629e7c0216b1d38adc9b4cedd8ca600d0b5060", func := "example.com/holdfast/holdfast/zzlaws_root_b1.FnHex4ReadsBackWhatIsWritten", spec := "fnHex4ReadsBackWhatIsWritten", apart := false }
def FnHex4ReadsBackWhatIsWrittenSaid : Prop := fnHex4ReadsBackWhatIsWrittenRow.holds Try.pinned (OpenSpec.ofChange fnHex4ReadsBackWhatIsWrittenSpec)

/-- ITS FALSE NEIGHBOUR: 'it returns false'. Refute it at one input. -/
def fnHex4ReadsBackWhatIsWrittenWrong : ChangeSpec := { name := "fnHex4ReadsBackWhatIsWritten", fn := fun _ => fun
  | [d1, d2] => { results := [.lit (.bool false)], args := [d1, d2] }
  | _ => none }
def FnHex4ReadsBackWhatIsWrittenWrongFalsely : Prop := fnHex4ReadsBackWhatIsWrittenRow.holds Try.pinned (OpenSpec.ofChange fnHex4ReadsBackWhatIsWrittenWrong)

/-- 'zzlaws_root_b1.FnReaderMoreStopsAtNextItem': WHATEVER THE INPUT: true; the input reads as it did. -/
def fnReaderMoreStopsAtNextItemSpec : ChangeSpec := { name := "fnReaderMoreStopsAtNextItem", fn := fun _ => fun
  | [d1, d2, d3] => { results := [.lit (.bool true)], args := [d1, d2, d3] }
  | _ => none }
def fnReaderMoreStopsAtNextItemRow : OpenClaim := { program := "qxb6605588a", sum := "5f52f8042240d0702119d86c34629e7c0216b1d38adc9b4cedd8ca600d0b5060", func := "example.com/holdfast/holdfast/zzlaws_root_b1.FnReaderMoreStopsAtNextItem", spec := "fnReaderMoreStopsAtNextItem", apart := false }
def FnReaderMoreStopsAtNextItemSaid : Prop := fnReaderMoreStopsAtNextItemRow.holds Try.pinned (OpenSpec.ofChange fnReaderMoreStopsAtNextItemSpec)

/-- ITS FALSE NEIGHBOUR: 'it returns false'. Refute it at one input. -/
def fnReaderMoreStopsAtNextItemWrong : ChangeSpec := { name := "fnReaderMoreStopsAtNextItem", fn := fun _ => fun
  | [d1, d2, d3] => { results := [.lit (.bool false)], args := [d1, d2, d3] }
  | _ => none }
def FnReaderMoreStopsAtNextItemWrongFalsely : Prop := fnReaderMoreStopsAtNextItemRow.holds Try.pinned (OpenSpec.ofChange fnReaderMoreStopsAtNextItemWrong)

/-- 'zzlaws_root_b1.FnReaderMoreWalksSeparatorRun': WHATEVER THE INPUT: true; the input reads as it did. -/
def fnReaderMoreWalksSeparatorRunSpec : ChangeSpec := { name := "fnReaderMoreWalksSeparatorRun", fn := fun _ => fun
  | [d1, d2, d3] => { results := [.lit (.bool true)], args := [d1, d2, d3] }
  | _ => none }
def fnReaderMoreWalksSeparatorRunRow : OpenClaim := { program := "qxb6605588a", sum := "5f52f8042240d0702119d86c34629e7c0216b1d38adc9b4cedd8ca600d0b5060", func := "example.com/holdfast/holdfast/zzlaws_root_b1.FnReaderMoreWalksSeparatorRun", spec := "fnReaderMoreWalksSeparatorRun", apart := false }
def FnReaderMoreWalksSeparatorRunSaid : Prop := fnReaderMoreWalksSeparatorRunRow.holds Try.pinned (OpenSpec.ofChange fnReaderMoreWalksSeparatorRunSpec)

/-- ITS FALSE NEIGHBOUR: 'it returns false'. Refute it at one input. -/
def fnReaderMoreWalksSeparatorRunWrong : ChangeSpec := { name := "fnReaderMoreWalksSeparatorRun", fn := fun _ => fun
  | [d1, d2, d3] => { results := [.lit (.bool false)], args := [d1, d2, d3] }
  | _ => none }
def FnReaderMoreWalksSeparatorRunWrongFalsely : Prop := fnReaderMoreWalksSeparatorRunRow.holds Try.pinned (OpenSpec.ofChange fnReaderMoreWalksSeparatorRunWrong)

end Rows
end Go.Proofs.Qxb6605588a

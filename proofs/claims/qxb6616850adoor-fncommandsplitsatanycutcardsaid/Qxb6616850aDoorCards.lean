/-
  DERIVED. GIVEN WITH THE SEED: THE CARDS: each row of Qxb6616850aDoorRows.lean that lists a variable, with what it lists TIED to the program's text (the seventh form; the later family's looks); each row that meets fmt, with fmt's text TOLD by the authors' own Lean function (tested against real Go, not proved from fmt's source: count such statements apart). THE CARD IS WHAT COUNTS. Prove the row's statement (the work); the ties are given (Qxb6616850aDoorTie.lean); close each card by the builder's one call (the guide's Derived/Test/ToyasCard.lean, 'card_holds'). Laid BY PROGRAM, IN A SANDBOX (cutbox-door.mjs). By AI agents, Wed Nov 11 2026. No macro, syntax, notation, axiom, sorry.
-/
import Derived.Test.Qxb6616850aDoorRows
import GoSem.ClaimSeven
namespace Go.Proofs.Qxb6616850aDoor
namespace Rows

/-- THE TIED CARD OF 'zzlaws_internal_resp_b1.FnSimpleStringRepliesConcatenate'. -/
def fnSimpleStringRepliesConcatenateCard : Claim7 := { stood := { row := fnSimpleStringRepliesConcatenateRow, standIns := [], harness := (true, "896a4cd10960ba559c749e8819f522d8bc60c20efb58f11687ebe5ec19febddd"), looks := true }, kinds := [], alts := [], laidByText := true, laidKinds := [.sentinel], laidTests := true, laidLooks := .later }
def FnSimpleStringRepliesConcatenateCardSaid : Prop := Claim7.holds Tryd.pinned (.plain (OpenSpec.ofChange fnSimpleStringRepliesConcatenateSpec)) fnSimpleStringRepliesConcatenateCard

/-- THE TIED CARD OF 'zzlaws_internal_resp_b1.FnIntegerIsCanonicalDecimalAndAgreesWithArray'. -/
def fnIntegerIsCanonicalDecimalAndAgreesWithArrayCard : Claim7 := { stood := { row := fnIntegerIsCanonicalDecimalAndAgreesWithArrayRow, standIns := [], harness := (true, "896a4cd10960ba559c749e8819f522d8bc60c20efb58f11687ebe5ec19febddd"), looks := true }, kinds := [], alts := [], laidByText := true, laidKinds := [.data, .data, .data, .sentinel], laidTests := true, laidLooks := .later }
def FnIntegerIsCanonicalDecimalAndAgreesWithArrayCardSaid : Prop := Claim7.holds Tryd.pinned (.plain (OpenSpec.ofChange fnIntegerIsCanonicalDecimalAndAgreesWithArraySpec)) fnIntegerIsCanonicalDecimalAndAgreesWithArrayCard

/-- THE TIED CARD OF 'zzlaws_internal_resp_b1.FnIntegerNegationAndTimesTen'. -/
def fnIntegerNegationAndTimesTenCard : Claim7 := { stood := { row := fnIntegerNegationAndTimesTenRow, standIns := [], harness := (true, "896a4cd10960ba559c749e8819f522d8bc60c20efb58f11687ebe5ec19febddd"), looks := true }, kinds := [], alts := [], laidByText := true, laidKinds := [.data, .data, .data, .sentinel], laidTests := true, laidLooks := .later }
def FnIntegerNegationAndTimesTenCardSaid : Prop := Claim7.holds Tryd.pinned (.plain (OpenSpec.ofChange fnIntegerNegationAndTimesTenSpec)) fnIntegerNegationAndTimesTenCard

/-- THE TIED CARD OF 'zzlaws_internal_resp_b1.FnCommandSplitsAtAnyCut'. -/
def fnCommandSplitsAtAnyCutCard : Claim7 := { stood := { row := fnCommandSplitsAtAnyCutRow, standIns := [], harness := (true, "896a4cd10960ba559c749e8819f522d8bc60c20efb58f11687ebe5ec19febddd"), looks := true }, kinds := [], alts := [], laidByText := true, laidKinds := [.data, .data, .data, .sentinel], laidTests := true, laidLooks := .later }
def FnCommandSplitsAtAnyCutCardSaid : Prop := Claim7.holds Tryd.pinned (.plain (OpenSpec.ofChange fnCommandSplitsAtAnyCutSpec)) fnCommandSplitsAtAnyCutCard

/-- THE TIED CARD OF 'zzlaws_internal_resp_b1.FnCommandIsArrayOfBulksAndDecodesBack'. -/
def fnCommandIsArrayOfBulksAndDecodesBackCard : Claim7 := { stood := { row := fnCommandIsArrayOfBulksAndDecodesBackRow, standIns := [], harness := (true, "896a4cd10960ba559c749e8819f522d8bc60c20efb58f11687ebe5ec19febddd"), looks := true }, kinds := [], alts := [], laidByText := true, laidKinds := [.data, .data, .data, .sentinel], laidTests := true, laidLooks := .later }
def FnCommandIsArrayOfBulksAndDecodesBackCardSaid : Prop := Claim7.holds Tryd.pinned (.plain (OpenSpec.ofChange fnCommandIsArrayOfBulksAndDecodesBackSpec)) fnCommandIsArrayOfBulksAndDecodesBackCard

/-- THE TIED CARD OF 'zzlaws_internal_resp_b1.FnFlushDeliversExactlyWhatWasWritten'. -/
def fnFlushDeliversExactlyWhatWasWrittenCard : Claim7 := { stood := { row := fnFlushDeliversExactlyWhatWasWrittenRow, standIns := [], harness := (true, "896a4cd10960ba559c749e8819f522d8bc60c20efb58f11687ebe5ec19febddd"), looks := true }, kinds := [], alts := [], laidByText := true, laidKinds := [.data, .data, .data, .sentinel], laidTests := true, laidLooks := .later }
def FnFlushDeliversExactlyWhatWasWrittenCardSaid : Prop := Claim7.holds Tryd.pinned (.plain (OpenSpec.ofChange fnFlushDeliversExactlyWhatWasWrittenSpec)) fnFlushDeliversExactlyWhatWasWrittenCard

/-- THE TIED CARD OF 'zzlaws_internal_resp_b1.FnFlushIsIdempotentAndIncremental'. -/
def fnFlushIsIdempotentAndIncrementalCard : Claim7 := { stood := { row := fnFlushIsIdempotentAndIncrementalRow, standIns := [], harness := (true, "896a4cd10960ba559c749e8819f522d8bc60c20efb58f11687ebe5ec19febddd"), looks := true }, kinds := [], alts := [], laidByText := true, laidKinds := [.sentinel], laidTests := true, laidLooks := .later }
def FnFlushIsIdempotentAndIncrementalCardSaid : Prop := Claim7.holds Tryd.pinned (.plain (OpenSpec.ofChange fnFlushIsIdempotentAndIncrementalSpec)) fnFlushIsIdempotentAndIncrementalCard
end Rows
end Go.Proofs.Qxb6616850aDoor

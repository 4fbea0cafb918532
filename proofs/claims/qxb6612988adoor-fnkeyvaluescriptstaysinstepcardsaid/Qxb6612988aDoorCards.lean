/-
  DERIVED. GIVEN WITH THE SEED: THE CARDS: each row of Qxb6612988aDoorRows.lean that lists a variable, with what it lists TIED to the program's text (the seventh form; the later family's looks); each row that meets fmt, with fmt's text TOLD by the authors' own Lean function (tested against real Go, not proved from fmt's source: count such statements apart). THE CARD IS WHAT COUNTS. Prove the row's statement (the work); the ties are given (Qxb6612988aDoorTie.lean); close each card by the builder's one call (the guide's Derived/Test/ToyasCard.lean, 'card_holds'). Laid BY PROGRAM, IN A SANDBOX (cutbox-door.mjs). By AI agents, Wed Nov 11 2026. No macro, syntax, notation, axiom, sorry.
-/
import Derived.Test.Qxb6612988aDoorRows
import GoSem.ClaimSeven
namespace Go.Proofs.Qxb6612988aDoor
namespace Rows

/-- THE TIED CARD OF 'zzlaws_internal_codec_b1.FnFailFirstFailureSticks'. -/
def fnFailFirstFailureSticksCard : Claim7 := { stood := { row := fnFailFirstFailureSticksRow, standIns := [], harness := (true, "070cc0667a64fe6bad1710dc5bdb9ea62c83486e9199120ea31c0a9dc817676d"), looks := true }, kinds := [], alts := [], laidByText := true, laidKinds := [.sentinel], laidTests := true, laidLooks := .later }
def FnFailFirstFailureSticksCardSaid : Prop := Claim7.holds Tryd.pinned (.plain (OpenSpec.ofChange fnFailFirstFailureSticksSpec)) fnFailFirstFailureSticksCard

/-- THE TIED CARD OF 'zzlaws_internal_codec_b1.FnFailStopsTheRecordMidway'. -/
def fnFailStopsTheRecordMidwayCard : Claim7 := { stood := { row := fnFailStopsTheRecordMidwayRow, standIns := [], harness := (true, "070cc0667a64fe6bad1710dc5bdb9ea62c83486e9199120ea31c0a9dc817676d"), looks := true }, kinds := [], alts := [], laidByText := true, laidKinds := [.sentinel], laidTests := true, laidLooks := .later }
def FnFailStopsTheRecordMidwayCardSaid : Prop := Claim7.holds Tryd.pinned (.plain (OpenSpec.ofChange fnFailStopsTheRecordMidwaySpec)) fnFailStopsTheRecordMidwayCard

/-- THE TIED CARD OF 'zzlaws_internal_codec_b1.FnKeyValueReadsBackAndKeeps'. -/
def fnKeyValueReadsBackAndKeepsCard : Claim7 := { stood := { row := fnKeyValueReadsBackAndKeepsRow, standIns := [], harness := (true, "070cc0667a64fe6bad1710dc5bdb9ea62c83486e9199120ea31c0a9dc817676d"), looks := true }, kinds := [], alts := [], laidByText := true, laidKinds := [.sentinel], laidTests := true, laidLooks := .later }
def FnKeyValueReadsBackAndKeepsCardSaid : Prop := Claim7.holds Tryd.pinned (.plain (OpenSpec.ofChange fnKeyValueReadsBackAndKeepsSpec)) fnKeyValueReadsBackAndKeepsCard

/-- THE TIED CARD OF 'zzlaws_internal_codec_b1.FnKeyValueScriptStaysInStep'. -/
def fnKeyValueScriptStaysInStepCard : Claim7 := { stood := { row := fnKeyValueScriptStaysInStepRow, standIns := [], harness := (true, "070cc0667a64fe6bad1710dc5bdb9ea62c83486e9199120ea31c0a9dc817676d"), looks := true }, kinds := [], alts := [], laidByText := true, laidKinds := [.sentinel], laidTests := true, laidLooks := .later }
def FnKeyValueScriptStaysInStepCardSaid : Prop := Claim7.holds Tryd.pinned (.plain (OpenSpec.ofChange fnKeyValueScriptStaysInStepSpec)) fnKeyValueScriptStaysInStepCard

/-- THE TIED CARD OF 'zzlaws_internal_codec_b1.FnKeyResultReadsBack'. -/
def fnKeyResultReadsBackCard : Claim7 := { stood := { row := fnKeyResultReadsBackRow, standIns := [], harness := (true, "070cc0667a64fe6bad1710dc5bdb9ea62c83486e9199120ea31c0a9dc817676d"), looks := true }, kinds := [], alts := [], laidByText := true, laidKinds := [.sentinel], laidTests := true, laidLooks := .later }
def FnKeyResultReadsBackCardSaid : Prop := Claim7.holds Tryd.pinned (.plain (OpenSpec.ofChange fnKeyResultReadsBackSpec)) fnKeyResultReadsBackCard
end Rows
end Go.Proofs.Qxb6612988aDoor

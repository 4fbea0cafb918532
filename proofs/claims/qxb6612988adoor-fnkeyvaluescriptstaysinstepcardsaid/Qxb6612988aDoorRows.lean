/-
  NARROWER THAN 'FOR EVERY INPUT', by the rows' own cells (each row's printed sentence says how): FnFailFirstFailureSticks: ifaces, laid · FnFailStopsTheRecordMidway: ifaces, laid · FnKeyValueReadsBackAndKeeps: ifaces, laid · FnKeyValueScriptStaysInStep: ifaces, laid · FnKeyResultReadsBack: ifaces, laid.
  DERIVED. THE GIVEN ROWS OF THIS SEAT. 5 by the template 'for every input the law returns true; each argument reads behind the call as it read before'; 0 by the template 'total and deterministic' (their statements: Qxb6612988aDoorTotals.lean).
  GIVEN WITH THE SEED: the statements are not yours to turn. If you find one false, say at which input.
  Laid BY PROGRAM, IN A SANDBOX (cutbox-rows.mjs): the forced cells as the released guide's own fill.sh prints them over the translation 9b020e95f9286b47… (all of the seat's roots in one cut). By AI agents, Wed Nov 11 2026. No macro, syntax, notation, axiom, sorry.
-/
import Derived.Test.Qxb6612988aDoorChecked
import GoSem.Claim
import GoSem.ClaimJoined
import GoSem.ClaimMapViews
import Derived.JoinedTies
import Derived.KernelRfl
namespace Go.Proofs.Qxb6612988aDoor
/- THE CELL 'sum', in the pinned program and in every row, IS THE sha256 OF THE DUMP (.gsa) THAT Qxb6612988aDoorProg.lean LOADS. Nothing in Lean hashes anything: it is a label: what it is worth is what the hold of that sum in a sandbox is worth. -/
noncomputable def Tryd.pinned : Pinned := { name := "qxb6612988adoor", sum := "9b020e95f9286b475ac3cb4a1e385473196e0372c9f0b32e9031eb4db9bd425d", checked := Tryd.checked }
namespace Rows
def none {H : Type} : Left H := { results := [], args := [] }

/- WHAT THE LISTED PACKAGE-LEVEL VARIABLES READ AS WHEN THE CALL BEGINS. Each datum BY PROGRAM (the guide's laid-datum.mjs) off the statement by which the dump's own 'gosem.cut.vars' lays the variable. In a bare row this is a premise. The card (Qxb6612988aDoorCards.lean) ties it to the program's text. -/
def laid_example_com_consort_consort_internal_codec_ErrMalformed {H : Type} : DataW H := .iface "*errors.errorString" (.ptr (.agg [.lit (.string [105, 116, 115, 32, 102, 105, 101, 108, 100, 115, 32, 97, 114, 101, 32, 110, 111, 116, 32, 116, 104, 111, 115, 101, 32, 111, 102, 32, 105, 116, 115, 32, 107, 105, 110, 100])]))

/-- 'zzlaws_internal_codec_b1.FnFailFirstFailureSticks': WHATEVER THE INPUT: true; the input reads as it did. -/
def fnFailFirstFailureSticksSpec : ChangeSpec := { name := "fnFailFirstFailureSticks", vars := ["example.com/consort/consort/internal/codec.ErrMalformed"], fn := fun _ => fun
  | [d1, d2, g1] => { results := [.lit (.bool true)], args := [d1, d2], vars := [g1] }
  | _ => none }
def fnFailFirstFailureSticksRow : OpenClaim := { program := "qxb6612988adoor", sum := "9b020e95f9286b475ac3cb4a1e385473196e0372c9f0b32e9031eb4db9bd425d", func := "example.com/consort/consort/zzlaws_internal_codec_b1.FnFailFirstFailureSticks", spec := "fnFailFirstFailureSticks", named := ["example.com/consort/consort/internal/codec.ErrMalformed"], ifaces := true, apart := false, laid := [("example.com/consort/consort/internal/codec.ErrMalformed", laid_example_com_consort_consort_internal_codec_ErrMalformed)] }
def FnFailFirstFailureSticksSaid : Prop := fnFailFirstFailureSticksRow.holds Tryd.pinned (OpenSpec.ofChange fnFailFirstFailureSticksSpec)

/-- ITS FALSE NEIGHBOUR: 'it returns false'. Refute it at one input. -/
def fnFailFirstFailureSticksWrong : ChangeSpec := { name := "fnFailFirstFailureSticks", vars := ["example.com/consort/consort/internal/codec.ErrMalformed"], fn := fun _ => fun
  | [d1, d2, g1] => { results := [.lit (.bool false)], args := [d1, d2], vars := [g1] }
  | _ => none }
def FnFailFirstFailureSticksWrongFalsely : Prop := fnFailFirstFailureSticksRow.holds Tryd.pinned (OpenSpec.ofChange fnFailFirstFailureSticksWrong)

/-- 'zzlaws_internal_codec_b1.FnFailStopsTheRecordMidway': WHATEVER THE INPUT: true; the input reads as it did. -/
def fnFailStopsTheRecordMidwaySpec : ChangeSpec := { name := "fnFailStopsTheRecordMidway", vars := ["example.com/consort/consort/internal/codec.ErrMalformed"], fn := fun _ => fun
  | [d1, d2, g1] => { results := [.lit (.bool true)], args := [d1, d2], vars := [g1] }
  | _ => none }
def fnFailStopsTheRecordMidwayRow : OpenClaim := { program := "qxb6612988adoor", sum := "9b020e95f9286b475ac3cb4a1e385473196e0372c9f0b32e9031eb4db9bd425d", func := "example.com/consort/consort/zzlaws_internal_codec_b1.FnFailStopsTheRecordMidway", spec := "fnFailStopsTheRecordMidway", named := ["example.com/consort/consort/internal/codec.ErrMalformed"], ifaces := true, apart := false, laid := [("example.com/consort/consort/internal/codec.ErrMalformed", laid_example_com_consort_consort_internal_codec_ErrMalformed)] }
def FnFailStopsTheRecordMidwaySaid : Prop := fnFailStopsTheRecordMidwayRow.holds Tryd.pinned (OpenSpec.ofChange fnFailStopsTheRecordMidwaySpec)

/-- ITS FALSE NEIGHBOUR: 'it returns false'. Refute it at one input. -/
def fnFailStopsTheRecordMidwayWrong : ChangeSpec := { name := "fnFailStopsTheRecordMidway", vars := ["example.com/consort/consort/internal/codec.ErrMalformed"], fn := fun _ => fun
  | [d1, d2, g1] => { results := [.lit (.bool false)], args := [d1, d2], vars := [g1] }
  | _ => none }
def FnFailStopsTheRecordMidwayWrongFalsely : Prop := fnFailStopsTheRecordMidwayRow.holds Tryd.pinned (OpenSpec.ofChange fnFailStopsTheRecordMidwayWrong)

/-- 'zzlaws_internal_codec_b1.FnKeyValueReadsBackAndKeeps': WHATEVER THE INPUT: true; the input reads as it did. -/
def fnKeyValueReadsBackAndKeepsSpec : ChangeSpec := { name := "fnKeyValueReadsBackAndKeeps", vars := ["example.com/consort/consort/internal/codec.ErrMalformed"], fn := fun _ => fun
  | [d1, d2, d3, d4, d5, d6, d7, g1] => { results := [.lit (.bool true)], args := [d1, d2, d3, d4, d5, d6, d7], vars := [g1] }
  | _ => none }
def fnKeyValueReadsBackAndKeepsRow : OpenClaim := { program := "qxb6612988adoor", sum := "9b020e95f9286b475ac3cb4a1e385473196e0372c9f0b32e9031eb4db9bd425d", func := "example.com/consort/consort/zzlaws_internal_codec_b1.FnKeyValueReadsBackAndKeeps", spec := "fnKeyValueReadsBackAndKeeps", named := ["example.com/consort/consort/internal/codec.ErrMalformed"], ifaces := true, apart := false, laid := [("example.com/consort/consort/internal/codec.ErrMalformed", laid_example_com_consort_consort_internal_codec_ErrMalformed)] }
def FnKeyValueReadsBackAndKeepsSaid : Prop := fnKeyValueReadsBackAndKeepsRow.holds Tryd.pinned (OpenSpec.ofChange fnKeyValueReadsBackAndKeepsSpec)

/-- ITS FALSE NEIGHBOUR: 'it returns false'. Refute it at one input. -/
def fnKeyValueReadsBackAndKeepsWrong : ChangeSpec := { name := "fnKeyValueReadsBackAndKeeps", vars := ["example.com/consort/consort/internal/codec.ErrMalformed"], fn := fun _ => fun
  | [d1, d2, d3, d4, d5, d6, d7, g1] => { results := [.lit (.bool false)], args := [d1, d2, d3, d4, d5, d6, d7], vars := [g1] }
  | _ => none }
def FnKeyValueReadsBackAndKeepsWrongFalsely : Prop := fnKeyValueReadsBackAndKeepsRow.holds Tryd.pinned (OpenSpec.ofChange fnKeyValueReadsBackAndKeepsWrong)

/-- 'zzlaws_internal_codec_b1.FnKeyValueScriptStaysInStep': WHATEVER THE INPUT: true; the input reads as it did. -/
def fnKeyValueScriptStaysInStepSpec : ChangeSpec := { name := "fnKeyValueScriptStaysInStep", vars := ["example.com/consort/consort/internal/codec.ErrMalformed"], fn := fun _ => fun
  | [d1, d2, g1] => { results := [.lit (.bool true)], args := [d1, d2], vars := [g1] }
  | _ => none }
def fnKeyValueScriptStaysInStepRow : OpenClaim := { program := "qxb6612988adoor", sum := "9b020e95f9286b475ac3cb4a1e385473196e0372c9f0b32e9031eb4db9bd425d", func := "example.com/consort/consort/zzlaws_internal_codec_b1.FnKeyValueScriptStaysInStep", spec := "fnKeyValueScriptStaysInStep", named := ["example.com/consort/consort/internal/codec.ErrMalformed"], ifaces := true, apart := false, laid := [("example.com/consort/consort/internal/codec.ErrMalformed", laid_example_com_consort_consort_internal_codec_ErrMalformed)] }
def FnKeyValueScriptStaysInStepSaid : Prop := fnKeyValueScriptStaysInStepRow.holds Tryd.pinned (OpenSpec.ofChange fnKeyValueScriptStaysInStepSpec)

/-- ITS FALSE NEIGHBOUR: 'it returns false'. Refute it at one input. -/
def fnKeyValueScriptStaysInStepWrong : ChangeSpec := { name := "fnKeyValueScriptStaysInStep", vars := ["example.com/consort/consort/internal/codec.ErrMalformed"], fn := fun _ => fun
  | [d1, d2, g1] => { results := [.lit (.bool false)], args := [d1, d2], vars := [g1] }
  | _ => none }
def FnKeyValueScriptStaysInStepWrongFalsely : Prop := fnKeyValueScriptStaysInStepRow.holds Tryd.pinned (OpenSpec.ofChange fnKeyValueScriptStaysInStepWrong)

/-- 'zzlaws_internal_codec_b1.FnKeyResultReadsBack': WHATEVER THE INPUT: true; the input reads as it did. -/
def fnKeyResultReadsBackSpec : ChangeSpec := { name := "fnKeyResultReadsBack", vars := ["example.com/consort/consort/internal/codec.ErrMalformed"], fn := fun _ => fun
  | [d1, d2, d3, d4, d5, g1] => { results := [.lit (.bool true)], args := [d1, d2, d3, d4, d5], vars := [g1] }
  | _ => none }
def fnKeyResultReadsBackRow : OpenClaim := { program := "qxb6612988adoor", sum := "9b020e95f9286b475ac3cb4a1e385473196e0372c9f0b32e9031eb4db9bd425d", func := "example.com/consort/consort/zzlaws_internal_codec_b1.FnKeyResultReadsBack", spec := "fnKeyResultReadsBack", named := ["example.com/consort/consort/internal/codec.ErrMalformed"], ifaces := true, apart := false, laid := [("example.com/consort/consort/internal/codec.ErrMalformed", laid_example_com_consort_consort_internal_codec_ErrMalformed)] }
def FnKeyResultReadsBackSaid : Prop := fnKeyResultReadsBackRow.holds Tryd.pinned (OpenSpec.ofChange fnKeyResultReadsBackSpec)

/-- ITS FALSE NEIGHBOUR: 'it returns false'. Refute it at one input. -/
def fnKeyResultReadsBackWrong : ChangeSpec := { name := "fnKeyResultReadsBack", vars := ["example.com/consort/consort/internal/codec.ErrMalformed"], fn := fun _ => fun
  | [d1, d2, d3, d4, d5, g1] => { results := [.lit (.bool false)], args := [d1, d2, d3, d4, d5], vars := [g1] }
  | _ => none }
def FnKeyResultReadsBackWrongFalsely : Prop := fnKeyResultReadsBackRow.holds Tryd.pinned (OpenSpec.ofChange fnKeyResultReadsBackWrong)

end Rows
end Go.Proofs.Qxb6612988aDoor

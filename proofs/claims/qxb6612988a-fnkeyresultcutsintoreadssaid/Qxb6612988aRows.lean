/-
  No cell of these rows narrows 'for every input' (looked for: loops, veiled, ifaces, maps, wideKeys, modest, calm, conditions, laid).
  DERIVED. THE GIVEN ROWS OF THIS SEAT. 3 by the template 'for every input the law returns true; each argument reads behind the call as it read before'; 0 by the template 'total and deterministic' (their statements: Qxb6612988aTotals.lean).
  GIVEN WITH THE SEED: the statements are not yours to turn. If you find one false, say at which input.
  Laid BY PROGRAM, IN A SANDBOX (cutbox-rows.mjs): the forced cells as the released guide's own fill.sh prints them over the translation d50a026b91b1535c… (all of the seat's roots in one cut). By AI agents, Wed Nov 11 2026. No macro, syntax, notation, axiom, sorry.
-/
import Derived.Test.Qxb6612988aChecked
import GoSem.Claim
import GoSem.ClaimJoined
import GoSem.ClaimMapViews
import Derived.JoinedTies
import Derived.KernelRfl
namespace Go.Proofs.Qxb6612988a
/- THE CELL 'sum', in the pinned program and in every row, IS THE sha256 OF THE DUMP (.gsa) THAT Qxb6612988aProg.lean LOADS. Nothing in Lean hashes anything: it is a label: what it is worth is what the hold of that sum in a sandbox is worth. -/
noncomputable def Try.pinned : Pinned := { name := "qxb6612988a", sum := "d50a026b91b1535c2427f3c68a899c41801c2e03436d8cacbda64a898d795a8c", checked := Try.checked }
namespace Rows
def none {H : Type} : Left H := { results := [], args := [] }

/-- 'zzlaws_internal_codec_b1.FnFixed64AppendsLittleEndian': WHATEVER THE INPUT: true; the input reads as it did. -/
def fnFixed64AppendsLittleEndianSpec : ChangeSpec := { name := "fnFixed64AppendsLittleEndian", fn := fun _ => fun
  | [d1, d2] => { results := [.lit (.bool true)], args := [d1, d2] }
  | _ => none }
def fnFixed64AppendsLittleEndianRow : OpenClaim := { program := "qxb6612988a", sum := "d50a026b91b1535c2427f3c68a899c41801c2e03436d8cacbda64a898d795a8c", func := "example.com/consort/consort/zzlaws_internal_codec_b1.FnFixed64AppendsLittleEndian", spec := "fnFixed64AppendsLittleEndian", named := ["encoding/binary.LittleEndian"], apart := false }
def FnFixed64AppendsLittleEndianSaid : Prop := fnFixed64AppendsLittleEndianRow.holds Try.pinned (OpenSpec.ofChange fnFixed64AppendsLittleEndianSpec)

/-- ITS FALSE NEIGHBOUR: 'it returns false'. Refute it at one input. -/
def fnFixed64AppendsLittleEndianWrong : ChangeSpec := { name := "fnFixed64AppendsLittleEndian", fn := fun _ => fun
  | [d1, d2] => { results := [.lit (.bool false)], args := [d1, d2] }
  | _ => none }
def FnFixed64AppendsLittleEndianWrongFalsely : Prop := fnFixed64AppendsLittleEndianRow.holds Try.pinned (OpenSpec.ofChange fnFixed64AppendsLittleEndianWrong)

/-- 'zzlaws_internal_codec_b1.FnFixed64OrderAndXor': WHATEVER THE INPUT: true; the input reads as it did. -/
def fnFixed64OrderAndXorSpec : ChangeSpec := { name := "fnFixed64OrderAndXor", fn := fun _ => fun
  | [d1, d2] => { results := [.lit (.bool true)], args := [d1, d2] }
  | _ => none }
def fnFixed64OrderAndXorRow : OpenClaim := { program := "qxb6612988a", sum := "d50a026b91b1535c2427f3c68a899c41801c2e03436d8cacbda64a898d795a8c", func := "example.com/consort/consort/zzlaws_internal_codec_b1.FnFixed64OrderAndXor", spec := "fnFixed64OrderAndXor", named := ["encoding/binary.LittleEndian"], apart := false }
def FnFixed64OrderAndXorSaid : Prop := fnFixed64OrderAndXorRow.holds Try.pinned (OpenSpec.ofChange fnFixed64OrderAndXorSpec)

/-- ITS FALSE NEIGHBOUR: 'it returns false'. Refute it at one input. -/
def fnFixed64OrderAndXorWrong : ChangeSpec := { name := "fnFixed64OrderAndXor", fn := fun _ => fun
  | [d1, d2] => { results := [.lit (.bool false)], args := [d1, d2] }
  | _ => none }
def FnFixed64OrderAndXorWrongFalsely : Prop := fnFixed64OrderAndXorRow.holds Try.pinned (OpenSpec.ofChange fnFixed64OrderAndXorWrong)

/-- 'zzlaws_internal_codec_b1.FnKeyResultCutsIntoReads': WHATEVER THE INPUT: true; the input reads as it did. -/
def fnKeyResultCutsIntoReadsSpec : ChangeSpec := { name := "fnKeyResultCutsIntoReads", fn := fun _ => fun
  | [d1, d2, d3, d4] => { results := [.lit (.bool true)], args := [d1, d2, d3, d4] }
  | _ => none }
def fnKeyResultCutsIntoReadsRow : OpenClaim := { program := "qxb6612988a", sum := "d50a026b91b1535c2427f3c68a899c41801c2e03436d8cacbda64a898d795a8c", func := "example.com/consort/consort/zzlaws_internal_codec_b1.FnKeyResultCutsIntoReads", spec := "fnKeyResultCutsIntoReads", apart := false }
def FnKeyResultCutsIntoReadsSaid : Prop := fnKeyResultCutsIntoReadsRow.holds Try.pinned (OpenSpec.ofChange fnKeyResultCutsIntoReadsSpec)

/-- ITS FALSE NEIGHBOUR: 'it returns false'. Refute it at one input. -/
def fnKeyResultCutsIntoReadsWrong : ChangeSpec := { name := "fnKeyResultCutsIntoReads", fn := fun _ => fun
  | [d1, d2, d3, d4] => { results := [.lit (.bool false)], args := [d1, d2, d3, d4] }
  | _ => none }
def FnKeyResultCutsIntoReadsWrongFalsely : Prop := fnKeyResultCutsIntoReadsRow.holds Try.pinned (OpenSpec.ofChange fnKeyResultCutsIntoReadsWrong)

end Rows
end Go.Proofs.Qxb6612988a

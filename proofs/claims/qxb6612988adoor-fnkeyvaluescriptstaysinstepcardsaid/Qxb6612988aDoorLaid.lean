/-
  WHAT THE ROWS' CONDITION ON ErrMalformed GIVES, ONCE FOR ALL LAWS OF THIS SEAT: the variable's cell; a start that meets it; the variable read again.
-/
import Derived.Test.Qxb6612988aDoorTie
import Derived.Test.Qxb6612988aDoorCards
import Derived.Test.Qxb6612988aDoorCodec
import Derived.ProofKit
import Derived.OpenShut
import Derived.LaidMore
import Derived.Stop.LaidErr
import Derived.Stop.Joined
import Derived.SevenTiedAt
namespace Go.Proofs.Qxb6612988aDoor
open Go.ChangeShapes Go.WideShapes Go.ChangeAt Go.RowKit

theorem own : ownKnob Tryd.prog.godebug = none := by kernel_rfl
theorem laidOut : laidOutB Tryd.prog = true := by kernel_rfl

/-- The variable's name, as the given rows spell it. -/
def errName : String := Rows.fnFailFirstFailureSticksSpec.vars.headD ""
def laidL : List (String × DataW Unit) := Rows.fnFailFirstFailureSticksRow.laid
def errType : String := (match (Rows.laid_example_com_consort_consort_internal_codec_ErrMalformed : DataW Unit) with | .iface n _ => n | _ => "")
def errText : List UInt8 := (match (Rows.laid_example_com_consort_consort_internal_codec_ErrMalformed : DataW Unit) with | .iface _ (.ptr (.agg [.lit (.string s)])) => s | _ => [])
theorem gErr : Tryd.prog.globalNamed errName = some 0 := by kernel_rfl
theorem gErrType : (Tryd.prog.globals[0]?).map (·.type) = some 32 := by kernel_rfl
theorem cellsEs : Tryd.prog.cellsOf 136 = 1 := by kernel_rfl
theorem cellsStr : Tryd.prog.cellsOf 9 = 1 := by kernel_rfl
theorem rowEs (u : TypeId) (h : Tryd.prog.typeName? 3 u = some errType) : u = 115 :=
  typeName_ptr_named (nm := "errors.errorString") (by kernel_rfl) (by kernel_rfl) (by decide) u (h.trans (congrArg some (by decide)))

theorem laidL_eq : laidL = [(errName, .iface errType (.ptr (.agg [.lit (.string errText)])))] := rfl

/-- The variable holds an error; its cell. -/
theorem malf_of_laid {W : World} (h : laidMetH Tryd.prog laidL W) : ∃ a, W.var? Tryd.prog errName = some #[errV a true] ∧ Malf W a := by
  rw [MakeChecks.laidMetH_plain _ _ _ (by kernel_rfl)] at h
  rw [laidL_eq] at h
  obtain ⟨a, s, hv, _, _, _⟩ := laid_sentinel h gErr gErrType Tryd.underlying32 rowEs Tryd.underlying115 Tryd.underlying136 rfl rfl Tryd.underlying9 cellsEs cellsStr
  exact ⟨a, hv, by simpa [Malf, errV] using World.var?_cell gErr hv 0⟩

/-- The door's own heap meets the condition. -/
theorem door_met (os : Os) (args : Array Value) : laidMetH Tryd.prog laidL ((World.doorLaid Tryd.prog 28 os).forCall (fun _ _ => 0) ⟨#[], args, []⟩).memory :=
  laidMetH_of_parts3 (fuel := 8) (laidMet_of_run' 8 (by kernel_rfl) (by kernel_rfl)) (by kernel_rfl) (by kernel_rfl)

theorem var_read {H : Type} (enc : TypeId × Value → H) {W : World} {a : Addr} (h : W.var? Tryd.prog errName = some #[errV a true]) (sp : Nat → Bool) :
    DataW.TrodVars enc Tryd.prog W sp [errName] [tok enc (errV a true)] [.cell 0 0] :=
  vars_read1 enc gErr gErrType Tryd.underlying32 h trivial sp

theorem var_below {W W' : World} {a : Addr} (h : W.var? Tryd.prog errName = some #[errV a true]) (hg : 0 < W.heap.size) (hB : Below W.heap.size W W') : W'.var? Tryd.prog errName = some #[errV a true] :=
  var?_below hB gErr hg h

end Go.Proofs.Qxb6612988aDoor

/-
  THE DECODER's Varint, Count, by their contracts.
-/
import Derived.Test.Qxb6612988aDoorRaw
namespace Go.Proofs.Qxb6612988aDoor
open Go.RowKit

theorem lib_varint (g o n c : Nat) (l : List UInt8) (w : World) (hl : l.length = n) (hcell : ∀ j (hj : j < l.length), w.cell? ⟨g, o + j, none⟩ = some (.int .u8 (l[j]).toNat)) :
    Calls Tryd.prog 53 #[.slice (some ⟨g, o, none⟩) n c] w fun e w' => e = .returned (.tuple #[.int .i64 (Lib.varintDec l).1, .int .i64 (Lib.varintDec l).2]) ∧ w' = w := Tryd.binary_Varint g o n c l w hl hcell

set_option maxHeartbeats 400000 in
/-- A signed varint is there: it is read, and what follows it is left. -/
theorem decv_some (db : Nat) (x : Int) (v err : Value) (r : List UInt8) (w : World) (h : Dec w db v err) (hx : I64 x) (hv : Sees w v (Lib.uvarint (Lib.zigzag x) ++ r)) (hlim : (Lib.uvarint (Lib.zigzag x) ++ r).length ≤ 140737488355328) (hne : v.ownBlock ≠ some db) :
    Calls Tryd.prog 45 #[.pointer (some ⟨db, 0, none⟩)] w fun e w' => e = .returned (.int .i64 x) ∧ ∃ v', Dec w' db v' err ∧ Sees w' v' r ∧ v'.ownBlock = v.ownBlock ∧ Kept (fun k => k = db) w w' := by
  have hpos := Lib.uvarint_pos (Lib.zigzag x)
  obtain ⟨hx0, hx1⟩ := hx
  obtain ⟨u, hu⟩ : ∃ u, u = Lib.uvarint (Lib.zigzag x) := ⟨_, rfl⟩
  have hdec : Lib.varintDec (u ++ r) = (x, (u.length : Int)) := by rw [hu]; exact dec_varint hx0 hx1 r
  rw [← hu] at hpos hv hlim
  clear hu
  obtain ⟨g, o, c, rfl, hc, hcell⟩ : ∃ g o c, v = .slice (some ⟨g, o, none⟩) (u ++ r).length c ∧ (u ++ r).length ≤ c ∧ ∀ j (hj : j < (u ++ r).length), w.cell? ⟨g, o + j, none⟩ = some (.int .u8 ((u ++ r)[j]).toNat) := by
    rcases hv with ⟨e, _⟩ | ⟨g, o, c, e, hc, hcell⟩
    · have := congrArg List.length e; simp at this; rw [this.1] at hpos; simp at hpos
    · exact ⟨g, o, c, e, hc, hcell⟩
  have hL := lib_varint g o _ c _ w rfl hcell
  rw [hdec] at hL
  have c0 : w.cell? ⟨db, 0, none⟩ = some (.slice (some ⟨g, o, none⟩) (u ++ r).length c) := by rw [blk_cell h]; rfl
  have f0 := blk_frozen h 0
  have hgd : g ≠ db := fun e => hne (by rw [← e]; rfl)
  have hsum : (u ++ r).length = u.length + r.length := List.length_append
  have hx' : ∀ j (hj : j < r.length), w.cell? ⟨g, o + u.length + j, none⟩ = some (.int .u8 (r[j]).toNat) := by
    intro j hj
    have := hcell (u.length + j) (by omega)
    rw [← Nat.add_assoc] at this
    rw [this]
    simp [List.getElem_append_right]
  clear hcell hv hdec
  have hd : w.heap[db]? = some (.cells #[.slice (some ⟨g, o, none⟩) (u ++ r).length c, .int .i64 0, err] 34 (0, 0)) := h
  clear h
  generalize (u ++ r).length = N at *
  generalize u.length = m at *
  subst hsum
  have R : ∀ ao, (ao = some ⟨g, o, none⟩ ∧ r.length = 0) ∨ ao = some ⟨g, o + m, none⟩ → ∃ v', Dec (w.setCell ⟨db, 0, none⟩ (.slice ao r.length (c - m))) db v' err ∧ Sees (w.setCell ⟨db, 0, none⟩ (.slice ao r.length (c - m))) v' r ∧
      v'.ownBlock = (Value.slice (some ⟨g, o, none⟩) (m + r.length) c).ownBlock ∧ Kept (fun k => k = db) w (w.setCell ⟨db, 0, none⟩ (.slice ao r.length (c - m))) := by
    intro ao hao
    refine ⟨.slice ao r.length (c - m), (blk_set hd 0 _).trans rfl, ?_, ?_, (Kept.refl (fun k => k = db) w).setCell (p := ⟨db, 0, none⟩) (fun _ => rfl) _⟩
    · rcases hao with ⟨rfl, h0⟩ | rfl
      · exact .inl ⟨List.eq_nil_of_length_eq_zero h0, _, _, by rw [h0]⟩
      · refine .inr ⟨g, o + m, c - m, rfl, by omega, fun j hj => ?_⟩
        exact ((Kept.refl (fun k => k = db) w).setCell (p := ⟨db, 0, none⟩) (fun _ => rfl) _).cell (hx' j hj) hgd
    · rcases hao with ⟨rfl, h0⟩ | rfl <;> rfl
  clear hx' hd
  go_enter Tryd.func45, Tryd.ntmps45
  go_wp2_with fail
  refine hL.mono ?_
  rintro e w' ⟨rfl, rfl⟩
  clear hL
  go_wp2
  case inl =>
    have hcm : c = m := by assumption
    go_ret
    subst hcm
    have R1 := R (some ⟨g, o, none⟩) (.inl ⟨rfl, by omega⟩)
    rw [Nat.sub_self] at R1
    exact ⟨rfl, R1⟩
  case inr =>
    go_ret
    exact ⟨rfl, R _ (.inr rfl)⟩

set_option maxHeartbeats 1000000 in
theorem count_some (db x : Nat) (v err : Value) (r : List UInt8) (w : World) (h : Dec w db v err) (hx : x ≤ r.length) (hv : Sees w v (Lib.uvarint x ++ r)) (hlim : (Lib.uvarint x ++ r).length ≤ 140737488355328) (hne : v.ownBlock ≠ some db) :
    Calls Tryd.prog 44 #[.pointer (some ⟨db, 0, none⟩)] w fun e w' => e = .returned (.int .i64 x) ∧ ∃ v', Dec w' db v' err ∧ Sees w' v' r ∧ v'.ownBlock = v.ownBlock ∧ Kept (fun k => k = db) w w' := by
  have hlen : r.length ≤ 140737488355328 := by simp at hlim; omega
  have hU := decu_some db x v err r w h (by omega) hv hlim hne
  clear h hv hlim hne
  go_enter Tryd.func44, Tryd.ntmps44
  go_wp2_with fail
  refine hU.mono ?_
  rintro e w1 ⟨rfl, v1, hD, hS, hO, hK⟩
  obtain ⟨ao, c, e1⟩ : ∃ ao c, v1 = .slice ao r.length c := by obtain ⟨a, c, e, _⟩ := hS.form; exact ⟨a, c, e⟩
  subst e1
  have c0 : w1.cell? ⟨db, 0, none⟩ = some (.slice ao r.length c) := by rw [blk_cell hD]; rfl
  clear hU
  go_wp2
  go_ret
  exact ⟨rfl, _, hD, hS, hO, hK⟩

end Go.Proofs.Qxb6612988aDoor

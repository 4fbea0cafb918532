/-
  Encoder.String, by its contract.
-/
import Derived.Test.Qxb6612988aDoorAppStr
namespace Go.Proofs.Qxb6612988aDoor
open Go.RowKit Go.Lib

theorem strCells_bytes (s : ByteArray) : strCells s = Lib.byteCells s.data.toList := by simp [strCells, Lib.byteCells]

set_option maxRecDepth 100000 in
set_option maxHeartbeats 2000000 in
theorem enc_string (eb : Nat) (s : ByteArray) (v : Value) (l : List UInt8) (w : World) (h : Enc w eb v l) (hs : s.size ≤ 1073741824) (hlim : l.length ≤ 1073741824) :
    Calls Tryd.prog 51 #[.pointer (some ⟨eb, 0, none⟩), .string s] w fun e w' => e = .returned (.tuple #[]) ∧ ∃ v', Enc w' eb v' (l ++ (Lib.uvarint s.size ++ s.data.toList)) ∧ Wrote eb w w' v v' := by
  have hU := enc_uvarint eb s.size v l w h (by omega) (by omega)
  have hpos := Lib.uvarint_pos s.size
  have hu10 := Lib.uvarint_length64 (x := s.size) (by omega)
  clear h
  go_enter Tryd.func51, Tryd.ntmps51
  go_wp2_with fail
  refine hU.mono ?_
  rintro e w1 ⟨rfl, v1, hE1, hK1, hM1⟩
  have hW1 : Wrote eb w w1 v v1 := ⟨hK1, hM1⟩
  have hap := hE1.apart
  obtain ⟨t, hb⟩ := hE1.box
  obtain ⟨i0, hi, hz0, hz1, hz2⟩ := info_parts infoU8
  obtain ⟨v2, w2, hr, ho2, hg2, hat⟩ := run_append_string_at (P := Tryd.prog) w1 26 9 26 5 i0 Tryd.underlying26 Tryd.underlying9 hi hz0 hz1 hz2 v1 _ _ hE1.own (by rw [List.length_append]; omega) s (by rw [List.length_append]; omega)
  have c0 : w1.cell? ⟨eb, 0, none⟩ = some v1 := by rw [blk_cell hb]; rfl
  have hk2 : Kept (fun k => v1.ownBlock = some k) w1 w2 := (Kept.refl _ _).grown hg2 (fun k hk _ => hk)
  have heb := lt_of_block hb
  have c2 := hk2.cell c0 hap
  have f2 := (hk2.frozen (p := ⟨eb, 0, none⟩) heb hap).trans (blk_frozen hb 0)
  obtain ⟨g2, cap2, e2⟩ := own_shape ho2 (by rw [List.length_append]; omega)
  have hne : v2.ownBlock ≠ some eb := by
    rcases hat with e | e
    · rw [e]; exact hap
    · rw [e]; intro f; cases f; omega
  have R : Enc (w2.setCell ⟨eb, 0, none⟩ v2) eb v2 (l ++ (Lib.uvarint s.size ++ s.data.toList)) ∧ Wrote eb w (w2.setCell ⟨eb, 0, none⟩ v2) v v2 := by
    refine ⟨⟨⟨t, ?_⟩, ?_⟩, hW1.trans ⟨(hk2.mono (T := fun k => k = eb ∨ v1.ownBlock = some k) fun k _ hs => Or.inr hs).setCell (fun _ => Or.inl rfl) v2, ?_⟩⟩
    · rw [blk_set (hk2.here hb hap)]; rfl
    · have hl2 : (l ++ (Lib.uvarint s.size ++ s.data.toList)).length = (l ++ Lib.uvarint s.size).length + s.size := by
        simp [List.length_append, Nat.add_assoc]
      have hc2 : Lib.byteCells (l ++ (Lib.uvarint s.size ++ s.data.toList)) = Lib.byteCells (l ++ Lib.uvarint s.size) ++ strCells s := by
        rw [strCells_bytes, ← Lib.byteCells_append, List.append_assoc]
      rw [hl2, hc2]
      exact ownsRow_setCell_other ho2 hne v2
    · rcases hat with e | e
      · exact .inl e
      · exact .inr ⟨_, e, Nat.le_refl _⟩
  have HR : Hid (Enc (w2.setCell ⟨eb, 0, none⟩ v2) eb v2 (l ++ (Lib.uvarint s.size ++ s.data.toList)) ∧ Wrote eb w (w2.setCell ⟨eb, 0, none⟩ v2) v v2) := R
  obtain ⟨g1, cap1, e1⟩ := own_shape hE1.own (by rw [List.length_append]; omega)
  clear hU hE1 hK1 hM1 hW1 hap hb ho2 hg2 hat hk2 hne R hi hz0 hz1 hz2
  rw [List.length_append] at e1 e2
  subst e1
  subst e2
  go_wp2_with (at_builtin; refine wpList_append_string_at rfl _ _ _ _ rfl rfl rfl hr ?_)
  go_end0
  exact ⟨rfl, _, HR.out⟩

end Go.Proofs.Qxb6612988aDoor

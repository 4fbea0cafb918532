/-
  FnKeyResultCutsIntoReads: the walk.
-/
import Derived.Test.Qxb6612988aDoorDecKL
namespace Go.Proofs.Qxb6612988aDoor
open Go.RowKit

/-! ### Plain -/
theorem uv0 : Lib.uvarint 0 = [0] := by rw [Lib.uvarint_small (by omega)]; rfl
theorem uv1 : Lib.uvarint 1 = [1] := by rw [Lib.uvarint_small (by omega)]; rfl
theorem encKL_nil (ks : List Int) : encKL ks [] = [0, 0] := by simp [encKL, cpre, encD, uv0]
theorem cpre_self (ks : List Int) : cpre ks ks = ks.length := by
  induction ks with
  | nil => rfl
  | cons a r ih => simp only [cpre, if_pos, ih, List.length_cons]
theorem encKL_self (ks : List Int) : encKL ks ks = Lib.uvarint ks.length ++ [0] := by
  simp [encKL, cpre_self, encD, uv0]
theorem encKL_two (ks zs : List Int) : 2 ≤ (encKL ks zs).length := by
  have h1 := Lib.uvarint_pos (cpre zs ks)
  have h2 := Lib.uvarint_pos (zs.drop (cpre zs ks)).length
  simp only [encKL, List.length_append]
  omega
theorem encR_split (kf : Nat → List Int) (zss : List (List Int)) (k : Nat) (h : k < zss.length) : encR kf 0 zss = encR kf 0 (zss.take k) ++ (encKL (kf k) zss[k] ++ encR kf (k + 1) (zss.drop (k + 1))) := by
  have e : zss = zss.take k ++ zss[k] :: zss.drop (k + 1) := by rw [← List.drop_eq_getElem_cons h, List.take_append_drop]
  conv => lhs; rw [e]
  rw [encR_append, List.length_take, Nat.min_eq_left (by omega), Nat.zero_add]
  rfl
theorem cut_is (a b c d : List UInt8) : ((a ++ (b ++ (c ++ d))).drop (a.length + b.length)).take c.length = c := by
  rw [← List.append_assoc, List.drop_append_of_le_length (by simp)]
  simp

/-- From the base world on, new blocks alone have turned. -/
theorem kept_new {S : Nat → Prop} {W a b : World} (h : Kept (fun _ => False) W a) (k : Kept S a b) (hS : ∀ j, S j → W.heap.size ≤ j) : Kept (fun _ => False) W b :=
  h.trans k (fun i hi f => by have := hS i f; omega)

/-- The rows that were cloned can be cloned once more. -/
theorem RowsAt.arg {w : World} {F : Nat → Prop} {v : Value} {zss : List (List Int)} (h : RowsAt w F v zss) : RowArg w v zss := by
  obtain ⟨ao, c, h1, h2, h3, h4⟩ := h.form
  refine ⟨⟨ao, c, h1, h2, h3, fun hp => ?_⟩, fun z hz => ?_⟩
  · obtain ⟨g, o, e, _, _, hc⟩ := h4 hp
    refine ⟨g, o, e, fun j hj => ?_⟩
    obtain ⟨lv, h5, h6⟩ := hc j hj
    exact ⟨lv, h5, h6.sees⟩
  · obtain ⟨i, hi, rfl⟩ := List.getElem_of_mem hz
    obtain ⟨g, o, _, _, _, hc⟩ := h4 (by omega)
    obtain ⟨lv, _, hv⟩ := hc i hi
    exact ⟨hv.len, hv.ints⟩
theorem RowsAt.mono {w : World} {F G : Nat → Prop} {v : Value} {zss : List (List Int)} (h : RowsAt w F v zss) (hG : ∀ j, j < w.heap.size → F j → G j) : RowsAt w G v zss := by
  obtain ⟨ao, c, h1, h2, h3, h4⟩ := h.form
  refine ⟨ao, c, h1, h2, h3, fun hp => ?_⟩
  obtain ⟨g, o, e, hcap, hg, hc⟩ := h4 hp
  refine ⟨g, o, e, hcap, ?_, fun j hj => ?_⟩
  · obtain ⟨lv, h5, _⟩ := hc 0 hp
    exact hG g (World.block_lt_of_cell? w _ h5) hg
  · obtain ⟨lv, h5, h6⟩ := hc j hj
    exact ⟨lv, h5, h6.mono hG⟩
theorem RowsAt.below {w w' : World} {B : Nat} {F : Nat → Prop} {v : Value} {zss : List (List Int)} (h : RowsAt w F v zss) (k : Below B w w') (hF : ∀ j, F j → j < B) : RowsAt w' F v zss :=
  h.kept (Kept.ofBelow k) (fun j hj f => by have := hF j hj; omega)
theorem KL.below {w w' : World} {B kb : Nat} {most : Int} {A : List (ByteArray × List Int)} {F : Nat → Prop} (h : KL w kb most A F) (k : Below B w w') (hF : ∀ j, F j → j < B) : KL w' kb most A F :=
  h.kept (Kept.ofBelow k) (fun j hj f => by have := hF j hj; omega)

theorem KLRaw.arg {w : World} {v : Value} {items : List (ByteArray × List Int)} (h : KLRaw w v items) (hl : items.length ≤ 1048576) (hs : sumK items ≤ 1048576) : KLArg w v items := by
  obtain ⟨ao, c, h1, h2, h3, h4⟩ := h.form
  refine ⟨⟨ao, c, h1, hl, fun hp => ?_⟩, fun p hp => ⟨by have := sumK_mem hp; omega, (h.ok p hp).2.2⟩⟩
  obtain ⟨g, o, e, hc⟩ := h4 hp
  refine ⟨g, o, e, fun j hj => ?_⟩
  obtain ⟨h5, lv, h6, h7⟩ := hc j hj
  refine ⟨h5, lv, h6, h7, fun i hi => ?_⟩
  rcases h7 with ⟨e7, _⟩ | ⟨g', o', c', rfl, _, hc'⟩
  · exact .inr e7
  · rcases Nat.eq_zero_or_pos (items[j]).2.length with h0 | h0
    · exact .inr (List.eq_nil_of_length_eq_zero h0)
    · cases hi; exact .inl (World.block_lt_of_cell? w _ (hc' 0 h0))
theorem OpRaw.arg {w : World} {v : Value} {ops : List OpV} (h : OpRaw w v ops) (hl : ops.length ≤ 1048576) : OpArg w v ops := by
  obtain ⟨ao, c, h1, h2, h3, h4⟩ := h.form
  exact ⟨ao, c, h1, h2, hl, h4⟩
theorem RowRaw.arg {w : World} {v : Value} {zss : List (List Int)} (h : RowRaw w v zss) (hl : zss.length ≤ 1048576) (hs : total zss ≤ 1048576) : RowArg w v zss := by
  obtain ⟨ao, c, h1, h2, h3, h4⟩ := h.form
  exact ⟨⟨ao, c, h1, h2, hl, h4⟩, fun z hz => ⟨by have := total_mem hz; omega, (h.ok z hz).2⟩⟩
theorem SeesI.blockLt {w : World} {v : Value} {l : List Int} (h : SeesI w v l) {w' : World} (k : Below w.heap.size w w') : SeesI w' v l := h.below k
theorem KLRaw.below {w w' : World} {v : Value} {items : List (ByteArray × List Int)} (h : KLRaw w v items) (k : Below w.heap.size w w') : KLRaw w' v items := by
  obtain ⟨ao, c, h1, h2, h3, h4⟩ := h.form
  refine ⟨⟨ao, c, h1, h2, h3, fun hp => ?_⟩, h.ok⟩
  obtain ⟨g, o, e, hc⟩ := h4 hp
  refine ⟨g, o, e, fun j hj => ?_⟩
  obtain ⟨h5, lv, h6, h7⟩ := hc j hj
  exact ⟨(k.cell (p := ⟨g, o + j * 2, none⟩) (World.block_lt_of_cell? w _ h5)).trans h5, lv, (k.cell (p := ⟨g, o + j * 2 + 1, none⟩) (World.block_lt_of_cell? w _ h6)).trans h6, h7.below k⟩
theorem OpRaw.below {w w' : World} {v : Value} {ops : List OpV} (h : OpRaw w v ops) (k : Below w.heap.size w w') : OpRaw w' v ops := by
  obtain ⟨ao, c, h1, h2, h3, h4⟩ := h.form
  refine ⟨⟨ao, c, h1, h2, h3, fun hp => ?_⟩, h.ok⟩
  obtain ⟨g, o, e, hc⟩ := h4 hp
  refine ⟨g, o, e, fun j hj => ?_⟩
  obtain ⟨h5, h6, h7⟩ := hc j hj
  exact ⟨(k.cell (p := ⟨g, o + j * 3, none⟩) (World.block_lt_of_cell? w _ h5)).trans h5, (k.cell (p := ⟨g, o + j * 3 + 1, none⟩) (World.block_lt_of_cell? w _ h6)).trans h6, (k.cell (p := ⟨g, o + j * 3 + 2, none⟩) (World.block_lt_of_cell? w _ h7)).trans h7⟩
theorem RowRaw.below {w w' : World} {v : Value} {zss : List (List Int)} (h : RowRaw w v zss) (k : Below w.heap.size w w') : RowRaw w' v zss := by
  obtain ⟨ao, c, h1, h2, h3, h4⟩ := h.form
  refine ⟨⟨ao, c, h1, h2, h3, fun hp => ?_⟩, h.ok⟩
  obtain ⟨g, o, e, hc⟩ := h4 hp
  refine ⟨g, o, e, fun j hj => ?_⟩
  obtain ⟨lv, h6, h7⟩ := hc j hj
  exact ⟨lv, (k.cell (p := ⟨g, o + j, none⟩) (World.block_lt_of_cell? w _ h6)).trans h6, h7.below k⟩

end Go.Proofs.Qxb6612988aDoor

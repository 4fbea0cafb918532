/-
  FnKeyResultCutsIntoReads: the stage, and the call of ZZEncKeyResult on one read.
-/
import Derived.Test.Qxb6612988aLawCut
namespace Go.Proofs.Qxb6612988a
open Go.RowKit

theorem sumK_mem1 {xs : List (ByteArray × List Int)} {p : ByteArray × List Int} (h : p ∈ xs) : p.1.size ≤ sumK xs := by
  induction xs with
  | nil => cases h
  | cons z r ih =>
    rcases List.mem_cons.1 h with rfl | h
    · simp only [sumK]; omega
    · have := ih h; simp only [sumK]; omega
theorem sumO_mem {xs : List OpV} {p : OpV} (h : p ∈ xs) : p.key.size ≤ sumO xs := by
  induction xs with
  | nil => cases h
  | cons z r ih =>
    rcases List.mem_cons.1 h with rfl | h
    · simp only [sumO]; omega
    · have := ih h; simp only [sumO]; omega

theorem own_cap {w : World} {base e size n g c : Nat} {xs : List Value} (h : w.ownsRow base e size (.slice (some ⟨g, 0, none⟩) n c) n xs) : n ≤ c := by
  rcases h.2 with ⟨e, _⟩ | ⟨g', cap, cur, e, _, _, hn, _⟩
  · cases e
  · cases e; exact hn
theorem Enc.cell {w : World} {eb : Nat} {v : Value} {l : List UInt8} (h : Enc w eb v l) : w.cell? ⟨eb, 0, none⟩ = some v := by
  obtain ⟨t, hb⟩ := h.box
  rw [blk_cell hb]; rfl

/-- What stands while the reads are gone through. -/
structure Stage (W : World) (eb kb : Nat) (most : Int) (A : List (ByteArray × List Int)) (ve xv rv wv ov : Value) (keys : List ByteArray) (ops : List OpV) (zss : List (List Int)) (L : List UInt8) (F R Q : Nat → Prop) : Prop where
  enc : Enc W eb ve L
  kl : KL W kb most A F
  xs : OpsAt W xv keys
  rs : RowsAt W R rv zss
  ws : RowsAt W Q wv zss
  os : OpRaw W ov ops
  hF : ∀ j, F j → j < W.heap.size
  hR : ∀ j, R j → j < W.heap.size ∧ ¬ F j
  hX : ∀ j, xv.ownBlock = some j → j < W.heap.size

theorem Stage.kept {W W' : World} {eb kb : Nat} {most : Int} {A : List (ByteArray × List Int)} {ve xv rv wv ov : Value} {keys : List ByteArray} {ops : List OpV} {zss : List (List Int)} {L : List UInt8} {F R Q : Nat → Prop}
    (h : Stage W eb kb most A ve xv rv wv ov keys ops zss L F R Q) (k : Kept (fun _ => False) W W') : Stage W' eb kb most A ve xv rv wv ov keys ops zss L F R Q where
  enc := h.enc.kept k (fun f => f) (fun _ _ f => f)
  kl := h.kl.kept k (fun _ _ f => f)
  xs := h.xs.kept k (fun _ _ f => f)
  rs := h.rs.kept k (fun _ _ f => f)
  ws := h.ws.kept k (fun _ _ f => f)
  os := h.os.below (k.fresh (fun _ f => f.elim))
  hF := fun j hj => Nat.lt_of_lt_of_le (h.hF j hj) k.size
  hR := fun j hj => ⟨Nat.lt_of_lt_of_le (h.hR j hj).1 k.size, (h.hR j hj).2⟩
  hX := fun j hj => Nat.lt_of_lt_of_le (h.hX j hj) k.size


set_option maxHeartbeats 1000000 in
theorem piece_call {W : World} {eb kb : Nat} {most : Int} {A : List (ByteArray × List Int)} {ve xv rv wv ov : Value} {keys : List ByteArray} {ops : List OpV} {zss : List (List Int)} {L : List UInt8} {F R Q : Nat → Prop}
    (st : Stage W eb kb most A ve xv rv wv ov keys ops zss L F R Q) {g2 o2 c : Nat} {z : List Int} (hrow : RowsAt W R (.slice (some ⟨g2, o2, none⟩) 1 c) [z]) (hz : z.length ≤ 1048576) (k : Nat)
    (xa : Option Addr) (xn xc : Nat) (hx : OpsAt W (.slice xa xn xc) (keys.drop k)) (hxa : ∀ j, xa = some j → j.block < W.heap.size) :
    Calls Try.prog 16 #[.pointer (some ⟨W.heap.size + 1, 0, none⟩), .pointer (some ⟨kb, 0, none⟩), .agg #[.slice xa xn xc], .slice (some ⟨g2, o2, none⟩) 1 c] (((W.alloc (.cells #[.slice xa xn xc] 45)).alloc (.cells #[.slice none 0 0, .int .i64 0] 27)).drewN 1) fun e w' => e = .returned (.tuple #[]) ∧ ∃ v', Enc w' (W.heap.size + 1) v' ([1] ++ encKL ((kget A (keyOf' keys k)).getD []) z) ∧ Kept (fun _ => False) W w' := by
  have kA : Kept (fun _ => False) W (((W.alloc (.cells #[.slice xa xn xc] 45)).alloc (.cells #[.slice none 0 0, .int .i64 0] 27)).drewN 1) := (((Kept.refl _ _).alloc _).alloc _).drewN 1
  have hE : Enc (((W.alloc (.cells #[.slice xa xn xc] 45)).alloc (.cells #[.slice none 0 0, .int .i64 0] 27)).drewN 1) (W.heap.size + 1) (.slice none 0 0) [] := by
    refine Enc.drewN ⟨⟨0, ?_⟩, World.ownsRow_nil _ _ _ _⟩ 1
    have h := heap_alloc_new (W.alloc (.cells #[.slice xa xn xc] 45)) (.cells #[.slice none 0 0, .int .i64 0] 27)
    rw [show (W.alloc (.cells #[.slice xa xn xc] 45)).heap.size = W.heap.size + 1 by simp] at h
    exact h
  have hsz : (((W.alloc (.cells #[.slice xa xn xc] 45)).alloc (.cells #[.slice none 0 0, .int .i64 0] 27)).drewN 1).heap.size = W.heap.size + 2 := by simp
  refine (zzEncKeyResult (W.heap.size + 1) kb most A F R (.slice none 0 0) (.slice xa xn xc) _ (keys.drop k) [] [z] _ hE (st.kl.kept kA (fun _ _ f => f)) (hx.kept kA (fun _ _ f => f)) (hrow.kept kA (fun _ _ f => f)) ?_ ?_ ?_ ?_ (by simp)).mono ?_
  · intro j hj
    have := st.hF j hj
    exact ⟨by omega, by omega, by simp [Value.ownBlock]⟩
  · intro j hj
    have := st.hR j hj
    exact ⟨by omega, by omega, by simp [Value.ownBlock], this.2⟩
  · intro j hj
    have : j < W.heap.size := by
      cases xa with
      | none => simp [Value.ownBlock] at hj
      | some a =>
        have e : a.block = j := by
          simp only [Value.ownBlock] at hj
          first | (injection hj) | (split at hj <;> simp_all)
        have := hxa a rfl
        omega
    exact ⟨by omega, by omega, by simp [Value.ownBlock]⟩
  · simp only [total]; omega
  · rintro e w' ⟨rfl, v', hE', hW'⟩
    refine ⟨rfl, v', ?_, ?_⟩
    · have hk0 : keyOf' (keys.drop k) 0 = keyOf' keys k := by simp [keyOf']
      simpa [encR, uv1, hk0] using hE'
    · refine kA.trans hW'.1 ?_
      rintro i hi (e | e)
      · omega
      · simp [Value.ownBlock] at e

end Go.Proofs.Qxb6612988a

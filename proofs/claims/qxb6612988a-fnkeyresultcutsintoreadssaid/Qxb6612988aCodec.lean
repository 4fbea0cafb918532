/-
  THE CODEC's SMALL FUNCTIONS, EACH BY ITS CONTRACT: Encoder.Uvarint, NewDecoder, Decoder.Fail, ZZFailMalformed, ZZFailNil, ZZErr, ZZRest, Decoder.Uvarint.
-/
import Derived.Test.Qxb6612988aShelf
import Derived.Test.Qxb6612988aBin
import Derived.Test.Qxb6612988aPlain
import Derived.WideLaws
import Derived.LaidEql
import Derived.WalkSpells
import Derived.WalkLawsBesides
namespace Go.Proofs.Qxb6612988a
open Go.RowKit

theorem app_uvarint (n x : Nat) (hx : x < 18446744073709551616) (sv : Value) (xs : List Value) (w : World) (hown : w.ownsRow 0 5 1 sv n xs) (hlim : n + 10 ≤ 140737488355328) :
    Calls Try.prog 29 #[sv, .int .u64 x] w fun e w' => ∃ v', e = .returned v' ∧ w'.ownsRow 0 5 1 v' (n + (Lib.uvarint x).length) (xs ++ Lib.byteCells (Lib.uvarint x)) ∧ Kept (fun k => sv.ownBlock = some k) w w' ∧ Moved w sv v' :=
  append_uvarint Try.laysBin47 n x hx sv xs w hown hlim

/-- The encoder in block eb: its buffer is the slice v, which owns the bytes l. -/
structure Enc (w : World) (eb : Nat) (v : Value) (l : List UInt8) : Prop where
  box : ∃ t, w.heap[eb]? = some (.cells #[v, .int .i64 t] 27 (0, 0))
  own : w.ownsRow 0 5 1 v l.length (Lib.byteCells l)

theorem Enc.apart {w : World} {eb : Nat} {v : Value} {l : List UInt8} (h : Enc w eb v l) : v.ownBlock ≠ some eb := by
  intro e
  obtain ⟨t, hb⟩ := h.box
  rcases h.own.2 with ⟨rfl, _⟩ | ⟨g, cap, cur, rfl, _, hg, _⟩
  · simp [Value.ownBlock] at e
  · simp [Value.ownBlock] at e
    subst e
    rw [hb] at hg
    simp at hg

theorem Enc.kept {S : Nat → Prop} {w w' : World} {eb : Nat} {v : Value} {l : List UInt8} (h : Enc w eb v l) (k : Kept S w w') (h1 : ¬ S eb) (h2 : ∀ j, v.ownBlock = some j → ¬ S j) : Enc w' eb v l := by
  obtain ⟨⟨t, hb⟩, ho⟩ := h
  exact ⟨⟨t, k.here hb h1⟩, k.owns ho h2⟩

/-- A slice that owns at least one element is no nil. -/
theorem own_shape {w : World} {base e size n : Nat} {v : Value} {xs : List Value} (h : w.ownsRow base e size v n xs) (hn : 0 < n) : ∃ g cap, v = .slice (some ⟨g, 0, none⟩) n cap := by
  rcases h.2 with ⟨_, h0⟩ | ⟨g, cap, _, h0, _⟩
  · omega
  · exact ⟨g, cap, h0⟩

theorem own_shape2 {w : World} {base e size n : Nat} {v : Value} {xs : List Value} (h : w.ownsRow base e size v n xs) : v = .slice none 0 0 ∨ ∃ g cap, v = .slice (some ⟨g, 0, none⟩) n cap := by
  rcases h.2 with ⟨h0, _⟩ | ⟨g, cap, _, h0, _⟩
  · exact .inl h0
  · exact .inr ⟨g, cap, h0⟩

set_option maxHeartbeats 1000000 in
theorem enc_uvarint (eb x : Nat) (v : Value) (l : List UInt8) (w : World) (h : Enc w eb v l) (hx : x < 18446744073709551616) (hlim : l.length + 10 ≤ 140737488355328) :
    Calls Try.prog 25 #[.pointer (some ⟨eb, 0, none⟩), .int .u64 x] w fun e w' => e = .returned (.tuple #[]) ∧ ∃ v', Enc w' eb v' (l ++ Lib.uvarint x) ∧ Kept (fun k => k = eb ∨ v.ownBlock = some k) w w' ∧ Moved w v v' := by
  have hap := h.apart
  obtain ⟨⟨t, hb⟩, hown⟩ := h
  have c0 : w.cell? ⟨eb, 0, none⟩ = some v := by rw [blk_cell hb]; rfl
  have f0 := blk_frozen hb 0
  have hU := app_uvarint l.length x hx v _ w hown hlim
  have hpos := Lib.uvarint_pos x
  have heb := lt_of_block hb
  -- what stands behind the append and the store
  have fin : ∀ (w1 : World) (v' : Value), w1.ownsRow 0 5 1 v' (l.length + (Lib.uvarint x).length) (Lib.byteCells l ++ Lib.byteCells (Lib.uvarint x)) → Kept (fun k => v.ownBlock = some k) w w1 → Moved w v v' →
      Enc (w1.setCell ⟨eb, 0, none⟩ v') eb v' (l ++ Lib.uvarint x) ∧ Kept (fun k => k = eb ∨ v.ownBlock = some k) w (w1.setCell ⟨eb, 0, none⟩ v') ∧ Moved w v v' := by
    intro w1 v' ho hk hm
    have hne : v'.ownBlock ≠ some eb := by
      rcases hm with e | ⟨k, e, hk'⟩
      · rw [e]; exact hap
      · rw [e]; intro e2; cases e2; omega
    refine ⟨⟨⟨t, ?_⟩, ?_⟩, (hk.mono (T := fun k => k = eb ∨ v.ownBlock = some k) fun k _ hs => Or.inr hs).setCell (fun _ => Or.inl rfl) v', hm⟩
    · rw [blk_set (hk.here hb hap)]; rfl
    · rw [List.length_append, Lib.byteCells_append]
      exact ownsRow_setCell_other ho hne v'
  have hK1 : ∀ (w1 : World), Kept (fun k => v.ownBlock = some k) w w1 → w1.cell? ⟨eb, 0, none⟩ = some v ∧ w1.frozen? ⟨eb, 0, none⟩ = false := fun w1 hk =>
    ⟨hk.cell c0 hap, (hk.frozen (p := ⟨eb, 0, none⟩) heb hap).trans f0⟩
  have F : Hid (∀ (w1 : World) (v' : Value), w1.ownsRow 0 5 1 v' (l.length + (Lib.uvarint x).length) (Lib.byteCells l ++ Lib.byteCells (Lib.uvarint x)) → Kept (fun k => v.ownBlock = some k) w w1 → Moved w v v' →
      Enc (w1.setCell ⟨eb, 0, none⟩ v') eb v' (l ++ Lib.uvarint x) ∧ Kept (fun k => k = eb ∨ v.ownBlock = some k) w (w1.setCell ⟨eb, 0, none⟩ v') ∧ Moved w v v') := fin
  clear fin hb hap
  rcases own_shape2 hown with rfl | ⟨g0, cap0, rfl⟩
  all_goals
    clear hown
    go_enter Try.func25, Try.ntmps25
    go_wp2_with fail
    refine hU.mono ?_
    rintro e w1 ⟨v', rfl, ho, hk, hm⟩
    obtain ⟨g, cap, rfl⟩ := own_shape ho (by omega)
    obtain ⟨c1, f1⟩ := hK1 w1 hk
    have R := F.out w1 _ ho hk hm
    clear ho hk hm hU hK1 F
    go_wp2
    go_end0
    exact ⟨rfl, _, R⟩

/-! ### The decoder -/

/-- The slice v holds the bytes l. -/
def Sees (w : World) (v : Value) (l : List UInt8) : Prop :=
  (l = [] ∧ ∃ ao c, v = .slice ao 0 c) ∨
  ∃ g o c, v = .slice (some ⟨g, o, none⟩) l.length c ∧ l.length ≤ c ∧ ∀ j (hj : j < l.length), w.cell? ⟨g, o + j, none⟩ = some (.int .u8 (l[j]).toNat)

theorem Sees.kept {S : Nat → Prop} {w w' : World} {v : Value} {l : List UInt8} (h : Sees w v l) (k : Kept S w w') (hS : ∀ j, v.ownBlock = some j → ¬ S j) : Sees w' v l := by
  rcases h with h | ⟨g, o, c, rfl, hc, hcell⟩
  · exact .inl h
  · exact .inr ⟨g, o, c, rfl, hc, fun j hj => k.cell (hcell j hj) (hS g rfl)⟩

theorem sees_own {w : World} {v : Value} {l : List UInt8} (h : w.ownsRow 0 5 1 v l.length (Lib.byteCells l)) : Sees w v l := by
  rcases h.2 with ⟨rfl, h0⟩ | ⟨g, cap, cur, rfl, _, hg, hn, hm, hs, ht⟩
  · exact .inl ⟨List.eq_nil_of_length_eq_zero h0, none, 0, rfl⟩
  · refine .inr ⟨g, 0, cap, rfl, hn, fun j hj => ?_⟩
    have := h.cells (g := g) rfl j (.int .u8 (l[j]).toNat) (by simp [Lib.byteCells, hj])
    have hadd : (⟨g, 0, none⟩ : Addr).add j = ⟨g, j, none⟩ := by unfold Addr.add; split <;> simp_all
    rw [hadd] at this
    rw [Nat.zero_add]
    exact this


end Go.Proofs.Qxb6612988a

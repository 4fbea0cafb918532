/-
  THE CODEC's SMALL FUNCTIONS, EACH BY ITS CONTRACT: Encoder.Uvarint, NewDecoder, Decoder.Fail, ZZFailMalformed, ZZFailNil, ZZErr, ZZRest, Decoder.Uvarint.
-/
import Derived.Test.Qxb6612988aDoorShelf
import Derived.Test.Qxb6612988aDoorBin
import Derived.Test.Qxb6612988aDoorPlain
import Derived.WideLaws
import Derived.LaidEql
import Derived.WalkSpells
import Derived.WalkLawsBesides
namespace Go.Proofs.Qxb6612988aDoor
open Go.RowKit

theorem app_uvarint (n x : Nat) (hx : x < 18446744073709551616) (sv : Value) (xs : List Value) (w : World) (hown : w.ownsRow 0 5 1 sv n xs) (hlim : n + 10 ≤ 140737488355328) :
    Calls Tryd.prog 40 #[sv, .int .u64 x] w fun e w' => ∃ v', e = .returned v' ∧ w'.ownsRow 0 5 1 v' (n + (Lib.uvarint x).length) (xs ++ Lib.byteCells (Lib.uvarint x)) ∧ Kept (fun k => sv.ownBlock = some k) w w' ∧ Moved w sv v' :=
  append_uvarint Tryd.laysBin47 n x hx sv xs w hown hlim

/-- The encoder in block eb: its buffer is the slice v, which owns the bytes l. -/
structure Enc (w : World) (eb : Nat) (v : Value) (l : List UInt8) : Prop where
  box : ∃ t, w.heap[eb]? = some (.cells #[v, .int .i64 t] 28 (0, 0))
  own : w.ownsRow 0 5 1 v l.length (Lib.byteCells l)

theorem Enc.apart {w : World} {eb : Nat} {v : Value} {l : List UInt8} (h : Enc w eb v l) : v.ownBlock ≠ some eb := by
  intro e
  obtain ⟨t, hb⟩ := h.box
  rcases h.own.2 with ⟨rfl, _⟩ | ⟨g, cap, cur, rfl, _, hg, _⟩
  · simp [Value.ownBlock] at e
  · simp [Value.ownBlock] at e
    subst e
    rw [hb] at hg
    simp at hg

theorem Enc.kept {S : Nat → Prop} {w w' : World} {eb : Nat} {v : Value} {l : List UInt8} (h : Enc w eb v l) (k : Kept S w w') (h1 : ¬ S eb) (h2 : ∀ j, v.ownBlock = some j → ¬ S j) : Enc w' eb v l := by
  obtain ⟨⟨t, hb⟩, ho⟩ := h
  exact ⟨⟨t, k.here hb h1⟩, k.owns ho h2⟩

/-- A slice that owns at least one element is no nil. -/
theorem own_shape {w : World} {base e size n : Nat} {v : Value} {xs : List Value} (h : w.ownsRow base e size v n xs) (hn : 0 < n) : ∃ g cap, v = .slice (some ⟨g, 0, none⟩) n cap := by
  rcases h.2 with ⟨_, h0⟩ | ⟨g, cap, _, h0, _⟩
  · omega
  · exact ⟨g, cap, h0⟩

theorem own_shape2 {w : World} {base e size n : Nat} {v : Value} {xs : List Value} (h : w.ownsRow base e size v n xs) : v = .slice none 0 0 ∨ ∃ g cap, v = .slice (some ⟨g, 0, none⟩) n cap := by
  rcases h.2 with ⟨h0, _⟩ | ⟨g, cap, _, h0, _⟩
  · exact .inl h0
  · exact .inr ⟨g, cap, h0⟩

set_option maxHeartbeats 1000000 in
theorem enc_uvarint (eb x : Nat) (v : Value) (l : List UInt8) (w : World) (h : Enc w eb v l) (hx : x < 18446744073709551616) (hlim : l.length + 10 ≤ 140737488355328) :
    Calls Tryd.prog 10 #[.pointer (some ⟨eb, 0, none⟩), .int .u64 x] w fun e w' => e = .returned (.tuple #[]) ∧ ∃ v', Enc w' eb v' (l ++ Lib.uvarint x) ∧ Kept (fun k => k = eb ∨ v.ownBlock = some k) w w' ∧ Moved w v v' := by
  have hap := h.apart
  obtain ⟨⟨t, hb⟩, hown⟩ := h
  have c0 : w.cell? ⟨eb, 0, none⟩ = some v := by rw [blk_cell hb]; rfl
  have f0 := blk_frozen hb 0
  have hU := app_uvarint l.length x hx v _ w hown hlim
  have hpos := Lib.uvarint_pos x
  have heb := lt_of_block hb
  -- what stands behind the append and the store
  have fin : ∀ (w1 : World) (v' : Value), w1.ownsRow 0 5 1 v' (l.length + (Lib.uvarint x).length) (Lib.byteCells l ++ Lib.byteCells (Lib.uvarint x)) → Kept (fun k => v.ownBlock = some k) w w1 → Moved w v v' →
      Enc (w1.setCell ⟨eb, 0, none⟩ v') eb v' (l ++ Lib.uvarint x) ∧ Kept (fun k => k = eb ∨ v.ownBlock = some k) w (w1.setCell ⟨eb, 0, none⟩ v') ∧ Moved w v v' := by
    intro w1 v' ho hk hm
    have hne : v'.ownBlock ≠ some eb := by
      rcases hm with e | ⟨k, e, hk'⟩
      · rw [e]; exact hap
      · rw [e]; intro e2; cases e2; omega
    refine ⟨⟨⟨t, ?_⟩, ?_⟩, (hk.mono (T := fun k => k = eb ∨ v.ownBlock = some k) fun k _ hs => Or.inr hs).setCell (fun _ => Or.inl rfl) v', hm⟩
    · rw [blk_set (hk.here hb hap)]; rfl
    · rw [List.length_append, Lib.byteCells_append]
      exact ownsRow_setCell_other ho hne v'
  have hK1 : ∀ (w1 : World), Kept (fun k => v.ownBlock = some k) w w1 → w1.cell? ⟨eb, 0, none⟩ = some v ∧ w1.frozen? ⟨eb, 0, none⟩ = false := fun w1 hk =>
    ⟨hk.cell c0 hap, (hk.frozen (p := ⟨eb, 0, none⟩) heb hap).trans f0⟩
  have F : Hid (∀ (w1 : World) (v' : Value), w1.ownsRow 0 5 1 v' (l.length + (Lib.uvarint x).length) (Lib.byteCells l ++ Lib.byteCells (Lib.uvarint x)) → Kept (fun k => v.ownBlock = some k) w w1 → Moved w v v' →
      Enc (w1.setCell ⟨eb, 0, none⟩ v') eb v' (l ++ Lib.uvarint x) ∧ Kept (fun k => k = eb ∨ v.ownBlock = some k) w (w1.setCell ⟨eb, 0, none⟩ v') ∧ Moved w v v') := fin
  clear fin hb hap
  rcases own_shape2 hown with rfl | ⟨g0, cap0, rfl⟩
  all_goals
    clear hown
    go_enter Tryd.func10, Tryd.ntmps10
    go_wp2_with fail
    refine hU.mono ?_
    rintro e w1 ⟨v', rfl, ho, hk, hm⟩
    obtain ⟨g, cap, rfl⟩ := own_shape ho (by omega)
    obtain ⟨c1, f1⟩ := hK1 w1 hk
    have R := F.out w1 _ ho hk hm
    clear ho hk hm hU hK1 F
    go_wp2
    go_end0
    exact ⟨rfl, _, R⟩

/-! ### The decoder -/

/-- The decoder in block db: what is left to read is the slice v; its error. -/
def Dec (w : World) (db : Nat) (v err : Value) : Prop := w.heap[db]? = some (.cells #[v, .int .i64 0, err] 34 (0, 0))

/-- A recorded failure, or none. -/
def errV (a : Addr) : Bool → Value
  | true => .iface 115 (.pointer (some a))
  | false => .nilIface

/-- The slice v holds the bytes l. -/
def Sees (w : World) (v : Value) (l : List UInt8) : Prop :=
  (l = [] ∧ ∃ ao c, v = .slice ao 0 c) ∨
  ∃ g o c, v = .slice (some ⟨g, o, none⟩) l.length c ∧ l.length ≤ c ∧ ∀ j (hj : j < l.length), w.cell? ⟨g, o + j, none⟩ = some (.int .u8 (l[j]).toNat)

theorem Sees.kept {S : Nat → Prop} {w w' : World} {v : Value} {l : List UInt8} (h : Sees w v l) (k : Kept S w w') (hS : ∀ j, v.ownBlock = some j → ¬ S j) : Sees w' v l := by
  rcases h with h | ⟨g, o, c, rfl, hc, hcell⟩
  · exact .inl h
  · exact .inr ⟨g, o, c, rfl, hc, fun j hj => k.cell (hcell j hj) (hS g rfl)⟩

theorem sees_own {w : World} {v : Value} {l : List UInt8} (h : w.ownsRow 0 5 1 v l.length (Lib.byteCells l)) : Sees w v l := by
  rcases h.2 with ⟨rfl, h0⟩ | ⟨g, cap, cur, rfl, _, hg, hn, hm, hs, ht⟩
  · exact .inl ⟨List.eq_nil_of_length_eq_zero h0, none, 0, rfl⟩
  · refine .inr ⟨g, 0, cap, rfl, hn, fun j hj => ?_⟩
    have := h.cells (g := g) rfl j (.int .u8 (l[j]).toNat) (by simp [Lib.byteCells, hj])
    have hadd : (⟨g, 0, none⟩ : Addr).add j = ⟨g, j, none⟩ := by unfold Addr.add; split <;> simp_all
    rw [hadd] at this
    rw [Nat.zero_add]
    exact this

theorem Dec.kept {S : Nat → Prop} {w w' : World} {db : Nat} {v err : Value} (h : Dec w db v err) (k : Kept S w w') (hS : ¬ S db) : Dec w' db v err := k.here h hS

set_option maxHeartbeats 400000 in
theorem zzErr (db : Nat) (v err : Value) (w : World) (h : Dec w db v err) :
    Calls Tryd.prog 14 #[.pointer (some ⟨db, 0, none⟩)] w fun e w' => e = .returned err ∧ w' = w := by
  have c2 : w.cell? ⟨db, 2, none⟩ = some err := by rw [blk_cell h]; rfl
  go_enter Tryd.func14, Tryd.ntmps14
  go_wp2
  go_ret
  exact ⟨rfl, rfl⟩

set_option maxHeartbeats 400000 in
theorem zzRest (db : Nat) (v err : Value) (w : World) (h : Dec w db v err) :
    Calls Tryd.prog 15 #[.pointer (some ⟨db, 0, none⟩)] w fun e w' => e = .returned v ∧ w' = w := by
  have c2 : w.cell? ⟨db, 0, none⟩ = some v := by rw [blk_cell h]; rfl
  go_enter Tryd.func15, Tryd.ntmps15
  go_wp2
  go_ret
  exact ⟨rfl, rfl⟩

set_option maxHeartbeats 400000 in
theorem fail_any (db : Nat) (v : Value) (a : Addr) (b e2 : Bool) (w : World) (h : Dec w db v (errV a b)) :
    Calls Tryd.prog 41 #[.pointer (some ⟨db, 0, none⟩), errV a e2] w fun e w' => e = .returned (.tuple #[]) ∧ Dec w' db (.slice none 0 0) (errV a (b || e2)) ∧ Kept (fun k => k = db) w w' := by
  have c0 : w.cell? ⟨db, 0, none⟩ = some v := by rw [blk_cell h]; rfl
  have c2 : w.cell? ⟨db, 2, none⟩ = some (errV a b) := by rw [blk_cell h]; rfl
  have f0 := blk_frozen h 0
  have f2 := blk_frozen h 2
  have hd : w.heap[db]? = some (.cells #[v, .int .i64 0, errV a b] 34 (0, 0)) := h
  clear h
  cases b
  · cases e2
    · simp only [errV] at *
      have R : Dec ((w.setCell ⟨db, 2, none⟩ .nilIface).setCell ⟨db, 0, none⟩ (.slice none 0 0)) db (.slice none 0 0) .nilIface ∧ Kept (fun k => k = db) w ((w.setCell ⟨db, 2, none⟩ .nilIface).setCell ⟨db, 0, none⟩ (.slice none 0 0)) :=
        ⟨(blk_set (blk_set hd 2 _) 0 _).trans rfl, ((Kept.refl (fun k => k = db) w).setCell (p := ⟨db, 2, none⟩) (fun _ => rfl) _).setCell (p := ⟨db, 0, none⟩) (fun _ => rfl) _⟩
      clear hd
      go_enter Tryd.func41, Tryd.ntmps41
      go_wp2
      go_end0
      exact ⟨rfl, R⟩
    · simp only [errV] at *
      have R : Dec ((w.setCell ⟨db, 2, none⟩ (.iface 115 (.pointer (some a)))).setCell ⟨db, 0, none⟩ (.slice none 0 0)) db (.slice none 0 0) (.iface 115 (.pointer (some a))) ∧ Kept (fun k => k = db) w ((w.setCell ⟨db, 2, none⟩ (.iface 115 (.pointer (some a)))).setCell ⟨db, 0, none⟩ (.slice none 0 0)) :=
        ⟨(blk_set (blk_set hd 2 _) 0 _).trans rfl, ((Kept.refl (fun k => k = db) w).setCell (p := ⟨db, 2, none⟩) (fun _ => rfl) _).setCell (p := ⟨db, 0, none⟩) (fun _ => rfl) _⟩
      clear hd
      go_enter Tryd.func41, Tryd.ntmps41
      go_wp2
      go_end0
      exact ⟨rfl, R⟩
  · have e3 : (true || e2) = true := rfl
    rw [e3]
    have R : Dec (w.setCell ⟨db, 0, none⟩ (.slice none 0 0)) db (.slice none 0 0) (errV a true) ∧ Kept (fun k => k = db) w (w.setCell ⟨db, 0, none⟩ (.slice none 0 0)) :=
      ⟨(blk_set hd 0 _).trans rfl, (Kept.refl (fun k => k = db) w).setCell (p := ⟨db, 0, none⟩) (fun _ => rfl) _⟩
    clear hd e3
    cases e2
    all_goals
      simp only [errV] at *
      go_enter Tryd.func41, Tryd.ntmps41
      go_wp2
      go_end0
      exact ⟨rfl, R⟩

/-- The variable ErrMalformed holds the error at a. -/
def Malf (w : World) (a : Addr) : Prop := w.cell? ⟨0, 0, none⟩ = some (errV a true)
theorem Malf.kept {S : Nat → Prop} {w w' : World} {a : Addr} (h : Malf w a) (k : Kept S w w') (hS : ¬ S 0) : Malf w' a := k.cell h hS

set_option maxHeartbeats 400000 in
theorem fail_malf (db : Nat) (v : Value) (a : Addr) (b : Bool) (w : World) (h : Dec w db v (errV a b)) (hm : Malf w a) :
    Calls Tryd.prog 12 #[.pointer (some ⟨db, 0, none⟩)] w fun e w' => e = .returned (.tuple #[]) ∧ Dec w' db (.slice none 0 0) (errV a true) ∧ Kept (fun k => k = db) w w' := by
  have hF := fail_any db v a b true w h
  rw [Bool.or_true] at hF
  have c : w.cell? ⟨0, 0, none⟩ = some (errV a true) := hm
  clear hm h
  simp only [errV] at hF c
  go_enter Tryd.func12, Tryd.ntmps12
  go_wp2_with fail
  refine hF.mono ?_
  rintro e w' ⟨rfl, R⟩
  clear hF
  go_wp2
  go_end0
  exact ⟨rfl, R⟩

set_option maxHeartbeats 400000 in
theorem fail_nil (db : Nat) (v : Value) (a : Addr) (b : Bool) (w : World) (h : Dec w db v (errV a b)) :
    Calls Tryd.prog 13 #[.pointer (some ⟨db, 0, none⟩)] w fun e w' => e = .returned (.tuple #[]) ∧ Dec w' db (.slice none 0 0) (errV a b) ∧ Kept (fun k => k = db) w w' := by
  have hF := fail_any db v a b false w h
  rw [Bool.or_false] at hF
  clear h
  go_enter Tryd.func13, Tryd.ntmps13
  go_wp2_with fail
  refine hF.mono ?_
  rintro e w' ⟨rfl, R⟩
  clear hF
  go_wp2
  go_end0
  exact ⟨rfl, R⟩

/-! ### Decoder.Uvarint -/
theorem lib_uvarint (g o n c : Nat) (l : List UInt8) (w : World) (hl : l.length = n) (hcell : ∀ j (hj : j < l.length), w.cell? ⟨g, o + j, none⟩ = some (.int .u8 (l[j]).toNat)) :
    Calls Tryd.prog 42 #[.slice (some ⟨g, o, none⟩) n c] w fun e w' => e = .returned (.tuple #[.int .u64 (Lib.uvarintDec l).1, .int .i64 (Lib.uvarintDec l).2]) ∧ w' = w := Tryd.binary_Uvarint g o n c l w hl hcell
theorem lib_uvarint_nil (ao : Option Addr) (c : Nat) (w : World) :
    Calls Tryd.prog 42 #[.slice ao 0 c] w fun e w' => e = .returned (.tuple #[.int .u64 0, .int .i64 0]) ∧ w' = w := Tryd.binary_Uvarint_empty ao c w

set_option maxHeartbeats 400000 in
/-- Nothing is left to read: the decoder fails. -/
theorem decu_nil (db : Nat) (v : Value) (a : Addr) (b : Bool) (w : World) (h : Dec w db v (errV a b)) (hv : Sees w v []) (hm : Malf w a) :
    Calls Tryd.prog 16 #[.pointer (some ⟨db, 0, none⟩)] w fun e w' => e = .returned (.int .u64 0) ∧ Dec w' db (.slice none 0 0) (errV a true) ∧ Kept (fun k => k = db) w w' := by
  obtain ⟨ao, c, rfl⟩ : ∃ ao c, v = .slice ao 0 c := by
    rcases hv with ⟨_, ao, c, e⟩ | ⟨g, o, c, e, _⟩
    · exact ⟨ao, c, e⟩
    · exact ⟨_, c, e⟩
  have hF := fail_any db _ a b true w h
  rw [Bool.or_true] at hF
  have hL := lib_uvarint_nil ao c w
  have c0 : w.cell? ⟨db, 0, none⟩ = some (.slice ao 0 c) := by rw [blk_cell h]; rfl
  have cm : w.cell? ⟨0, 0, none⟩ = some (errV a true) := hm
  clear hm hv h
  simp only [errV] at hF cm
  go_enter Tryd.func16, Tryd.ntmps16
  go_wp2_with fail
  refine hL.mono ?_
  rintro e w' ⟨rfl, rfl⟩
  clear hL
  go_wp2_with fail
  refine hF.mono ?_
  rintro e w' ⟨rfl, R⟩
  clear hF c0 cm
  go_wp2
  go_ret
  exact ⟨rfl, R⟩

set_option maxHeartbeats 400000 in
/-- A varint is there: it is read, and what follows it is left. -/
theorem decu_some (db x : Nat) (v err : Value) (r : List UInt8) (w : World) (h : Dec w db v err) (hx : x < 18446744073709551616) (hv : Sees w v (Lib.uvarint x ++ r)) (hlim : (Lib.uvarint x ++ r).length ≤ 140737488355328) (hne : v.ownBlock ≠ some db) :
    Calls Tryd.prog 16 #[.pointer (some ⟨db, 0, none⟩)] w fun e w' => e = .returned (.int .u64 x) ∧ ∃ v', Dec w' db v' err ∧ Sees w' v' r ∧ v'.ownBlock = v.ownBlock ∧ Kept (fun k => k = db) w w' := by
  have hpos := Lib.uvarint_pos x
  obtain ⟨g, o, c, rfl, hc, hcell⟩ : ∃ g o c, v = .slice (some ⟨g, o, none⟩) (Lib.uvarint x ++ r).length c ∧ (Lib.uvarint x ++ r).length ≤ c ∧ ∀ j (hj : j < (Lib.uvarint x ++ r).length), w.cell? ⟨g, o + j, none⟩ = some (.int .u8 ((Lib.uvarint x ++ r)[j]).toNat) := by
    rcases hv with ⟨e, _⟩ | ⟨g, o, c, e, hc, hcell⟩
    · have := congrArg List.length e; simp at this; rw [this.1] at hpos; simp at hpos
    · exact ⟨g, o, c, e, hc, hcell⟩
  have hL := lib_uvarint g o _ c _ w rfl hcell
  rw [dec_uvarint hx] at hL
  have c0 : w.cell? ⟨db, 0, none⟩ = some (.slice (some ⟨g, o, none⟩) (Lib.uvarint x ++ r).length c) := by rw [blk_cell h]; rfl
  have f0 := blk_frozen h 0
  have hgd : g ≠ db := fun e => hne (by rw [← e]; rfl)
  have hsum : (Lib.uvarint x ++ r).length = (Lib.uvarint x).length + r.length := List.length_append
  have hx' : ∀ j (hj : j < r.length), w.cell? ⟨g, o + (Lib.uvarint x).length + j, none⟩ = some (.int .u8 (r[j]).toNat) := by
    intro j hj
    have := hcell ((Lib.uvarint x).length + j) (by omega)
    rw [← Nat.add_assoc] at this
    rw [this]
    simp [List.getElem_append_right]
  clear hcell hv
  have hd : w.heap[db]? = some (.cells #[.slice (some ⟨g, o, none⟩) (Lib.uvarint x ++ r).length c, .int .i64 0, err] 34 (0, 0)) := h
  clear h
  generalize (Lib.uvarint x ++ r).length = N at *
  generalize (Lib.uvarint x).length = m at *
  subst hsum
  -- the world behind the store, whatever address the cut bears
  have R : ∀ ao, (ao = some ⟨g, o, none⟩ ∧ r.length = 0) ∨ ao = some ⟨g, o + m, none⟩ → ∃ v', Dec (w.setCell ⟨db, 0, none⟩ (.slice ao r.length (c - m))) db v' err ∧ Sees (w.setCell ⟨db, 0, none⟩ (.slice ao r.length (c - m))) v' r ∧
      v'.ownBlock = (Value.slice (some ⟨g, o, none⟩) (m + r.length) c).ownBlock ∧ Kept (fun k => k = db) w (w.setCell ⟨db, 0, none⟩ (.slice ao r.length (c - m))) := by
    intro ao hao
    refine ⟨.slice ao r.length (c - m), (blk_set hd 0 _).trans rfl, ?_, ?_, (Kept.refl (fun k => k = db) w).setCell (p := ⟨db, 0, none⟩) (fun _ => rfl) _⟩
    · rcases hao with ⟨rfl, h0⟩ | rfl
      · exact .inl ⟨List.eq_nil_of_length_eq_zero h0, _, _, by rw [h0]⟩
      · refine .inr ⟨g, o + m, c - m, rfl, by omega, fun j hj => ?_⟩
        exact ((Kept.refl (fun k => k = db) w).setCell (p := ⟨db, 0, none⟩) (fun _ => rfl) _).cell (hx' j hj) hgd
    · rcases hao with ⟨rfl, h0⟩ | rfl <;> rfl
  clear hx' hd
  go_enter Tryd.func16, Tryd.ntmps16
  go_wp2_with fail
  refine hL.mono ?_
  rintro e w' ⟨rfl, rfl⟩
  clear hL
  go_wp2
  case inl =>
    have hcm : c = m := by assumption
    go_ret
    subst hcm
    have R1 := R (some ⟨g, o, none⟩) (.inl ⟨rfl, by omega⟩)
    rw [Nat.sub_self] at R1
    exact ⟨rfl, R1⟩
  case inr =>
    go_ret
    exact ⟨rfl, R _ (.inr rfl)⟩

set_option maxHeartbeats 400000 in
theorem newDec (v : Value) (l : List UInt8) (w : World) (hv : Sees w v l) :
    Calls Tryd.prog 11 #[v] w fun e w' => e = .returned (.agg #[v, .int .i64 0, .nilIface]) ∧ w' = w.alloc (.cells #[v, .int .i64 0, .nilIface] 34) := by
  obtain ⟨ao, n, c, rfl⟩ : ∃ ao n c, v = .slice ao n c := by
    rcases hv with ⟨_, ao, c, e⟩ | ⟨g, o, c, e, _⟩
    · exact ⟨ao, _, c, e⟩
    · exact ⟨_, _, c, e⟩
  clear hv
  go_enter Tryd.func11, Tryd.ntmps11
  go_wp2
  exact bodyPost_ret (v := .agg #[.slice ao n c, .int .i64 0, .nilIface]) (by simp [results, Tryd.results11, go_sem]) rfl ⟨rfl, rfl⟩

end Go.Proofs.Qxb6612988aDoor

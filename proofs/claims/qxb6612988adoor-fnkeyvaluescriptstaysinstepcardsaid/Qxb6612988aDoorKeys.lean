/-
  KeyLists: Keep and ZZKept, by their contracts.
-/
import Derived.Test.Qxb6612988aDoorMaps
namespace Go.Proofs.Qxb6612988aDoor
open Go.RowKit

/-- The KeyLists in block kb: its map is r (none: nil), which holds the pairs M. -/
def KLs (w : World) (kb : Nat) (r : Option Nat) (most : Int) (M : List (ByteArray × Value)) : Prop :=
  w.heap[kb]? = some (.cells #[.int .i64 most, .map r] 50 (0, 0)) ∧ ((r = none ∧ M = []) ∨ ∃ mb, r = some mb ∧ MapAt w mb M)

theorem KLs.kept {S : Nat → Prop} {w w' : World} {kb : Nat} {r : Option Nat} {most : Int} {M : List (ByteArray × Value)} (h : KLs w kb r most M) (k : Kept S w w') (h1 : ¬ S kb) (h2 : ∀ j, r = some j → ¬ S j) : KLs w' kb r most M := by
  obtain ⟨hb, hm⟩ := h
  refine ⟨k.here hb h1, ?_⟩
  rcases hm with hm | ⟨mb, rfl, hm⟩
  · exact .inl hm
  · exact .inr ⟨mb, rfl, hm.kept k (h2 mb rfl)⟩

/-- What Keep makes of the pairs. -/
def keepM {α : Type} (most : Int) (M : List (ByteArray × α)) (key : ByteArray) (v : α) : List (ByteArray × α) :=
  kput (if (kget M key).isNone && decide (0 < most) && decide (most ≤ (M.length : Int)) then [] else M) key v

theorem zeroI64s (w : World) : (zeroValue 42).run Tryd.prog w = .ok (.slice none 0 0) w := Tryd.zeroValue42 w

set_option maxHeartbeats 2000000 in
theorem keep_hit (kb mb : Nat) (most : Int) (M : List (ByteArray × Value)) (key : ByteArray) (ao : Option Addr) (n c : Nat) (w : World) (h : KLs w kb (some mb) most M) (hit : (kget M key).isSome = true) :
    Calls Tryd.prog 22 #[.pointer (some ⟨kb, 0, none⟩), .string key, .slice ao n c] w fun e w' => e = .returned (.tuple #[]) ∧ KLs w' kb (some mb) most (kput M key (.slice ao n c)) ∧ Kept (fun k => k = mb) w w' := by
  obtain ⟨hb, hm⟩ := h
  obtain ⟨mb', e, hM⟩ : ∃ mb', some mb = some mb' ∧ MapAt w mb' M := by
    rcases hm with ⟨h, _⟩ | h
    · cases h
    · exact h
  cases e
  have hne : kb ≠ mb := by rintro rfl; obtain ⟨es, cl, h1, _⟩ := hM; rw [hb] at h1; cases h1
  have c0 : w.cell? ⟨kb, 0, none⟩ = some (.int .i64 most) := by rw [blk_cell hb]; rfl
  have c1 : w.cell? ⟨kb, 1, none⟩ = some (.map (some mb)) := by rw [blk_cell hb]; rfl
  have hnil := fun (wx : World) (r : Option Nat) => run_eql_map_nil (P := Tryd.prog) wx _ _ _ r Tryd.underlying48
  obtain ⟨u, hu⟩ := Option.isSome_iff_exists.1 hit
  have hlk := (run_lookup hM Tryd.underlying48 Tryd.underlying9 (zeroI64s w) key).1
  rw [hu] at hlk
  have hlk2 : (Instr.lookup 48 (.map (some mb)) (.string key) true).run Tryd.prog w = .ok (.tuple #[u, .bool true]) w := hlk
  have HM : Hid (MapAt w mb M) := hM
  have HB : Hid (w.heap[kb]? = some (.cells #[.int .i64 most, .map (some mb)] 50 (0, 0))) := hb
  clear hlk hit hu hm hM hb
  go_enter Tryd.func22, Tryd.ntmps22
  go_wp2
  go_quiet (fail)
  obtain ⟨w2, hst, hM2, hK2⟩ := run_store (P := Tryd.prog) (HM.out.kept (S := fun _ => False) ((Kept.refl _ w).drewN nq) (fun f => f)) Tryd.underlying48 Tryd.underlying9 key (.slice ao n c)
  have HR : Hid (KLs w2 kb (some mb) most (kput M key (.slice ao n c)) ∧ Kept (fun k => k = mb) w w2) :=
    ⟨⟨hK2.here HB.out hne, .inr ⟨mb, rfl, hM2⟩⟩, ((Kept.refl _ w).drewN nq).trans hK2 (fun _ _ h => h)⟩
  clear hM2 hK2 HM HB
  go_wp2
  go_end0
  exact ⟨rfl, HR.out⟩

set_option maxHeartbeats 2000000 in
theorem keep_low (kb mb : Nat) (most : Int) (M : List (ByteArray × Value)) (key : ByteArray) (ao : Option Addr) (n c : Nat) (w : World) (h : KLs w kb (some mb) most M) (hmiss : kget M key = none) (hlow : ¬ 0 < most) :
    Calls Tryd.prog 22 #[.pointer (some ⟨kb, 0, none⟩), .string key, .slice ao n c] w fun e w' => e = .returned (.tuple #[]) ∧ KLs w' kb (some mb) most (kput M key (.slice ao n c)) ∧ Kept (fun k => k = mb) w w' := by
  obtain ⟨hb, hm⟩ := h
  obtain ⟨mb', e, hM⟩ : ∃ mb', some mb = some mb' ∧ MapAt w mb' M := by
    rcases hm with ⟨h, _⟩ | h
    · cases h
    · exact h
  cases e
  have hne : kb ≠ mb := by rintro rfl; obtain ⟨es, cl, h1, _⟩ := hM; rw [hb] at h1; cases h1
  have c0 : w.cell? ⟨kb, 0, none⟩ = some (.int .i64 most) := by rw [blk_cell hb]; rfl
  have c1 : w.cell? ⟨kb, 1, none⟩ = some (.map (some mb)) := by rw [blk_cell hb]; rfl
  have hnil := fun (wx : World) (r : Option Nat) => run_eql_map_nil (P := Tryd.prog) wx _ _ _ r Tryd.underlying48
  have hlk := (run_lookup hM Tryd.underlying48 Tryd.underlying9 (zeroI64s w) key).1
  rw [hmiss] at hlk
  have hlk2 : (Instr.lookup 48 (.map (some mb)) (.string key) true).run Tryd.prog w = .ok (.tuple #[.slice none 0 0, .bool false]) w := hlk
  have hd : decide (0 < most) = false := decide_eq_false hlow
  have HM : Hid (MapAt w mb M) := hM
  have HB : Hid (w.heap[kb]? = some (.cells #[.int .i64 most, .map (some mb)] 50 (0, 0))) := hb
  clear hlk hmiss hm hM hb
  go_enter Tryd.func22, Tryd.ntmps22
  go_wp2
  go_quiet (fail)
  obtain ⟨w2, hst, hM2, hK2⟩ := run_store (P := Tryd.prog) (HM.out.kept (S := fun _ => False) ((Kept.refl _ w).drewN nq) (fun f => f)) Tryd.underlying48 Tryd.underlying9 key (.slice ao n c)
  have HR : Hid (KLs w2 kb (some mb) most (kput M key (.slice ao n c)) ∧ Kept (fun k => k = mb) w w2) :=
    ⟨⟨hK2.here HB.out hne, .inr ⟨mb, rfl, hM2⟩⟩, ((Kept.refl _ w).drewN nq).trans hK2 (fun _ _ h => h)⟩
  clear hM2 hK2 HM HB
  go_wp2
  go_end0
  exact ⟨rfl, HR.out⟩

set_option maxHeartbeats 2000000 in
theorem keep_room (kb mb : Nat) (most : Int) (M : List (ByteArray × Value)) (key : ByteArray) (ao : Option Addr) (n c : Nat) (w : World) (h : KLs w kb (some mb) most M) (hmiss : kget M key = none) (hpos : 0 < most) (hroom : ¬ most ≤ (M.length : Int)) :
    Calls Tryd.prog 22 #[.pointer (some ⟨kb, 0, none⟩), .string key, .slice ao n c] w fun e w' => e = .returned (.tuple #[]) ∧ KLs w' kb (some mb) most (kput M key (.slice ao n c)) ∧ Kept (fun k => k = mb) w w' := by
  obtain ⟨hb, hm⟩ := h
  obtain ⟨mb', e, hM⟩ : ∃ mb', some mb = some mb' ∧ MapAt w mb' M := by
    rcases hm with ⟨h, _⟩ | h
    · cases h
    · exact h
  cases e
  have hne : kb ≠ mb := by rintro rfl; obtain ⟨es, cl, h1, _⟩ := hM; rw [hb] at h1; cases h1
  have c0 : w.cell? ⟨kb, 0, none⟩ = some (.int .i64 most) := by rw [blk_cell hb]; rfl
  have c1 : w.cell? ⟨kb, 1, none⟩ = some (.map (some mb)) := by rw [blk_cell hb]; rfl
  have hnil := fun (wx : World) (r : Option Nat) => run_eql_map_nil (P := Tryd.prog) wx _ _ _ r Tryd.underlying48
  have hlk := (run_lookup hM Tryd.underlying48 Tryd.underlying9 (zeroI64s w) key).1
  rw [hmiss] at hlk
  have hlk2 : (Instr.lookup 48 (.map (some mb)) (.string key) true).run Tryd.prog w = .ok (.tuple #[.slice none 0 0, .bool false]) w := hlk
  have hlen := fun (q : Nat) (ty : TypeId) => run_len (P := Tryd.prog) (ty := ty) (hM.kept (S := fun _ => False) ((Kept.refl _ w).drewN q) (fun f => f)) Tryd.underlying48
  have hd : decide (most ≤ (M.length : Int)) = false := decide_eq_false hroom
  have HM : Hid (MapAt w mb M) := hM
  have HB : Hid (w.heap[kb]? = some (.cells #[.int .i64 most, .map (some mb)] 50 (0, 0))) := hb
  clear hlk hmiss hm hM hb
  go_enter Tryd.func22, Tryd.ntmps22
  go_wp2
  go_quiet (fail)
  obtain ⟨w2, hst, hM2, hK2⟩ := run_store (P := Tryd.prog) (HM.out.kept (S := fun _ => False) ((Kept.refl _ w).drewN nq) (fun f => f)) Tryd.underlying48 Tryd.underlying9 key (.slice ao n c)
  have HR : Hid (KLs w2 kb (some mb) most (kput M key (.slice ao n c)) ∧ Kept (fun k => k = mb) w w2) :=
    ⟨⟨hK2.here HB.out hne, .inr ⟨mb, rfl, hM2⟩⟩, ((Kept.refl _ w).drewN nq).trans hK2 (fun _ _ h => h)⟩
  clear hM2 hK2 HM HB
  go_wp2
  go_end0
  exact ⟨rfl, HR.out⟩

set_option maxRecDepth 100000 in
set_option maxHeartbeats 2000000 in
theorem keep_clear (kb mb : Nat) (most : Int) (M : List (ByteArray × Value)) (key : ByteArray) (ao : Option Addr) (n c : Nat) (w : World) (h : KLs w kb (some mb) most M) (hmiss : kget M key = none) (hpos : 0 < most) (hfull : most ≤ (M.length : Int)) :
    Calls Tryd.prog 22 #[.pointer (some ⟨kb, 0, none⟩), .string key, .slice ao n c] w fun e w' => e = .returned (.tuple #[]) ∧ KLs w' kb (some mb) most (kput [] key (.slice ao n c)) ∧ Kept (fun k => k = mb) w w' := by
  obtain ⟨hb, hm⟩ := h
  obtain ⟨mb', e, hM⟩ : ∃ mb', some mb = some mb' ∧ MapAt w mb' M := by
    rcases hm with ⟨h, _⟩ | h
    · cases h
    · exact h
  cases e
  have hne : kb ≠ mb := by rintro rfl; obtain ⟨es, cl, h1, _⟩ := hM; rw [hb] at h1; cases h1
  have c0 : w.cell? ⟨kb, 0, none⟩ = some (.int .i64 most) := by rw [blk_cell hb]; rfl
  have c1 : w.cell? ⟨kb, 1, none⟩ = some (.map (some mb)) := by rw [blk_cell hb]; rfl
  have hnil := fun (wx : World) (r : Option Nat) => run_eql_map_nil (P := Tryd.prog) wx _ _ _ r Tryd.underlying48
  have hlk := (run_lookup hM Tryd.underlying48 Tryd.underlying9 (zeroI64s w) key).1
  rw [hmiss] at hlk
  have hlk2 : (Instr.lookup 48 (.map (some mb)) (.string key) true).run Tryd.prog w = .ok (.tuple #[.slice none 0 0, .bool false]) w := hlk
  have hlen := fun (q : Nat) (ty : TypeId) => run_len (P := Tryd.prog) (ty := ty) (hM.kept (S := fun _ => False) ((Kept.refl _ w).drewN q) (fun f => f)) Tryd.underlying48
  have HM : Hid (MapAt w mb M) := hM
  have HB : Hid (w.heap[kb]? = some (.cells #[.int .i64 most, .map (some mb)] 50 (0, 0))) := hb
  clear hlk hmiss hm hM hb
  go_enter Tryd.func22, Tryd.ntmps22
  go_wp2
  go_quiet (fail)
  go_wp2_with (refine wpList_clear rfl (.tmp 50) 48 rfl Tryd.underlying48 rfl (HM.out.kept (S := fun _ => False) ((Kept.refl _ w).drewN nq) (fun f => f)) ?_)
  intro w1 hM1 hK1
  have c1' := hK1.cell (p := ⟨kb, 1, none⟩) (by exact c1) hne
  obtain ⟨w2, hst, hM2, hK2⟩ := run_store (P := Tryd.prog) hM1 Tryd.underlying48 Tryd.underlying9 key (.slice ao n c)
  have HR : Hid (KLs w2 kb (some mb) most (kput [] key (.slice ao n c)) ∧ Kept (fun k => k = mb) w w2) :=
    ⟨⟨hK2.here (hK1.here HB.out hne) hne, .inr ⟨mb, rfl, hM2⟩⟩, (((Kept.refl _ w).drewN nq).trans hK1 (fun _ _ h => h)).trans hK2 (fun _ _ h => h)⟩
  clear hM2 hK2 HM HB hM1 hK1 c1 c0 hlk2 hlen hnil
  go_wp2
  go_end0
  exact ⟨rfl, HR.out⟩

set_option maxRecDepth 100000 in
set_option maxHeartbeats 2000000 in
theorem keep_nil_low (kb : Nat) (most : Int) (key : ByteArray) (ao : Option Addr) (n c : Nat) (w : World) (h : KLs w kb none most []) (hlow : ¬ 0 < most) :
    Calls Tryd.prog 22 #[.pointer (some ⟨kb, 0, none⟩), .string key, .slice ao n c] w fun e w' => e = .returned (.tuple #[]) ∧ KLs w' kb (some w.heap.size) most (kput [] key (.slice ao n c)) ∧ Kept (fun k => k = kb) w w' := by
  obtain ⟨hb, _⟩ := h
  have hkb := lt_of_block hb
  have hne : kb ≠ w.heap.size := by omega
  have c0 : w.cell? ⟨kb, 0, none⟩ = some (.int .i64 most) := by rw [blk_cell hb]; rfl
  have c1 : w.cell? ⟨kb, 1, none⟩ = some (.map none) := by rw [blk_cell hb]; rfl
  have f1 := blk_frozen hb 1
  have hmm := @run_makeMap Tryd.prog
  have hnil := fun (wx : World) (r : Option Nat) => run_eql_map_nil (P := Tryd.prog) wx _ _ _ r Tryd.underlying48
  obtain ⟨W, hW⟩ : ∃ W, W = (w.setCell ⟨kb, 1, none⟩ (.map (some w.heap.size))).alloc (.map #[] 0) := ⟨_, rfl⟩
  have hK0 : Kept (fun k => k = kb) w W := by rw [hW]; exact ((Kept.refl (fun k => k = kb) w).setCell (p := ⟨kb, 1, none⟩) (fun _ => rfl) _).alloc _
  have hb1 : W.heap[kb]? = some (.cells #[.int .i64 most, .map (some w.heap.size)] 50 (0, 0)) := by
    rw [hW, Below.heap_alloc _ _ _ (by simpa using hkb)]; exact (blk_set hb 1 _).trans rfl
  have hM : MapAt W w.heap.size [] := ⟨#[], 0, by rw [hW]; have := heap_alloc_new (w.setCell ⟨kb, 1, none⟩ (.map (some w.heap.size))) (.map #[] 0); simpa using this, rfl⟩
  have d0 : W.cell? ⟨kb, 0, none⟩ = some (.int .i64 most) := by rw [blk_cell hb1]; rfl
  have d1 : W.cell? ⟨kb, 1, none⟩ = some (.map (some w.heap.size)) := by rw [blk_cell hb1]; rfl
  have hlk2 : (Instr.lookup 48 (.map (some w.heap.size)) (.string key) true).run Tryd.prog W = .ok (.tuple #[.slice none 0 0, .bool false]) W :=
    (run_lookup hM Tryd.underlying48 Tryd.underlying9 (zeroI64s W) key).1
  have hd : decide (0 < most) = false := decide_eq_false hlow
  have HM : Hid (MapAt W w.heap.size []) := hM
  have HB : Hid (W.heap[kb]? = some (.cells #[.int .i64 most, .map (some w.heap.size)] 50 (0, 0))) := hb1
  have HK : Hid (Kept (fun k => k = kb) w W) := hK0
  clear hM hb1 hb hK0
  subst hW
  go_enter Tryd.func22, Tryd.ntmps22
  go_wp2
  go_quiet (fail)
  obtain ⟨w2, hst, hM2, hK2⟩ := run_store (P := Tryd.prog) (HM.out.kept (S := fun _ => False) ((Kept.refl _ _).drewN nq) (fun f => f)) Tryd.underlying48 Tryd.underlying9 key (.slice ao n c)
  have HR : Hid (KLs w2 kb (some w.heap.size) most (kput [] key (.slice ao n c)) ∧ Kept (fun k => k = kb) w w2) :=
    ⟨⟨hK2.here HB.out hne, .inr ⟨_, rfl, hM2⟩⟩, (HK.out.drewN nq).trans hK2 (fun i hi h => by omega)⟩
  clear hM2 hK2 HM HB HK
  go_wp2
  go_end0
  exact ⟨rfl, HR.out⟩

set_option maxRecDepth 100000 in
set_option maxHeartbeats 2000000 in
theorem keep_nil_pos (kb : Nat) (most : Int) (key : ByteArray) (ao : Option Addr) (n c : Nat) (w : World) (h : KLs w kb none most []) (hpos : 0 < most) :
    Calls Tryd.prog 22 #[.pointer (some ⟨kb, 0, none⟩), .string key, .slice ao n c] w fun e w' => e = .returned (.tuple #[]) ∧ KLs w' kb (some w.heap.size) most (kput [] key (.slice ao n c)) ∧ Kept (fun k => k = kb) w w' := by
  obtain ⟨hb, _⟩ := h
  have hkb := lt_of_block hb
  have hne : kb ≠ w.heap.size := by omega
  have c0 : w.cell? ⟨kb, 0, none⟩ = some (.int .i64 most) := by rw [blk_cell hb]; rfl
  have c1 : w.cell? ⟨kb, 1, none⟩ = some (.map none) := by rw [blk_cell hb]; rfl
  have f1 := blk_frozen hb 1
  have hmm := @run_makeMap Tryd.prog
  have hnil := fun (wx : World) (r : Option Nat) => run_eql_map_nil (P := Tryd.prog) wx _ _ _ r Tryd.underlying48
  obtain ⟨W, hW⟩ : ∃ W, W = (w.setCell ⟨kb, 1, none⟩ (.map (some w.heap.size))).alloc (.map #[] 0) := ⟨_, rfl⟩
  have hK0 : Kept (fun k => k = kb) w W := by rw [hW]; exact ((Kept.refl (fun k => k = kb) w).setCell (p := ⟨kb, 1, none⟩) (fun _ => rfl) _).alloc _
  have hb1 : W.heap[kb]? = some (.cells #[.int .i64 most, .map (some w.heap.size)] 50 (0, 0)) := by
    rw [hW, Below.heap_alloc _ _ _ (by simpa using hkb)]; exact (blk_set hb 1 _).trans rfl
  have hM : MapAt W w.heap.size [] := ⟨#[], 0, by rw [hW]; have := heap_alloc_new (w.setCell ⟨kb, 1, none⟩ (.map (some w.heap.size))) (.map #[] 0); simpa using this, rfl⟩
  have d0 : W.cell? ⟨kb, 0, none⟩ = some (.int .i64 most) := by rw [blk_cell hb1]; rfl
  have d1 : W.cell? ⟨kb, 1, none⟩ = some (.map (some w.heap.size)) := by rw [blk_cell hb1]; rfl
  have hlk2 : (Instr.lookup 48 (.map (some w.heap.size)) (.string key) true).run Tryd.prog W = .ok (.tuple #[.slice none 0 0, .bool false]) W :=
    (run_lookup hM Tryd.underlying48 Tryd.underlying9 (zeroI64s W) key).1
  have hlen : ∀ (q : Nat) (ty : TypeId), (Builtin.len_ #[48] ty #[.map (some w.heap.size)]).run Tryd.prog (W.drewN q) = .ok (.int .i64 0) (W.drewN q) := fun q ty =>
    run_len (P := Tryd.prog) (ty := ty) (hM.kept (S := fun _ => False) ((Kept.refl _ W).drewN q) (fun f => f)) Tryd.underlying48
  have hd : decide (most ≤ 0) = false := decide_eq_false (by omega)
  have HM : Hid (MapAt W w.heap.size []) := hM
  have HB : Hid (W.heap[kb]? = some (.cells #[.int .i64 most, .map (some w.heap.size)] 50 (0, 0))) := hb1
  have HK : Hid (Kept (fun k => k = kb) w W) := hK0
  clear hM hb1 hb hK0
  subst hW
  go_enter Tryd.func22, Tryd.ntmps22
  go_wp2
  go_quiet (fail)
  obtain ⟨w2, hst, hM2, hK2⟩ := run_store (P := Tryd.prog) (HM.out.kept (S := fun _ => False) ((Kept.refl _ _).drewN nq) (fun f => f)) Tryd.underlying48 Tryd.underlying9 key (.slice ao n c)
  have HR : Hid (KLs w2 kb (some w.heap.size) most (kput [] key (.slice ao n c)) ∧ Kept (fun k => k = kb) w w2) :=
    ⟨⟨hK2.here HB.out hne, .inr ⟨_, rfl, hM2⟩⟩, (HK.out.drewN nq).trans hK2 (fun i hi h => by omega)⟩
  clear hM2 hK2 HM HB HK
  go_wp2
  go_end0
  exact ⟨rfl, HR.out⟩

theorem keep_any (kb : Nat) (r : Option Nat) (most : Int) (M : List (ByteArray × Value)) (key : ByteArray) (v : Value) (w : World) (h : KLs w kb r most M) (hv : ∃ ao n c, v = .slice ao n c) :
    Calls Tryd.prog 22 #[.pointer (some ⟨kb, 0, none⟩), .string key, v] w fun e w' => e = .returned (.tuple #[]) ∧ ∃ mb, KLs w' kb (some mb) most (keepM most M key v) ∧ Kept (fun k => k = kb ∨ r = some k) w w' ∧ (r = some mb ∨ (r = none ∧ mb = w.heap.size)) := by
  obtain ⟨ao, n, c, rfl⟩ := hv
  cases r with
  | none =>
    have hM : M = [] := by
      rcases h.2 with ⟨_, h⟩ | ⟨mb, h, _⟩
      · exact h
      · cases h
    subst hM
    have e : keepM most ([] : List (ByteArray × Value)) key (.slice ao n c) = kput [] key (.slice ao n c) := by
      unfold keepM; split <;> rfl
    rw [e]
    by_cases hpos : 0 < most
    · refine (keep_nil_pos kb most key ao n c w h hpos).mono ?_
      rintro e w' ⟨rfl, h1, h2⟩
      exact ⟨rfl, _, h1, h2.mono (fun _ _ h => .inl h), .inr ⟨rfl, rfl⟩⟩
    · refine (keep_nil_low kb most key ao n c w h hpos).mono ?_
      rintro e w' ⟨rfl, h1, h2⟩
      exact ⟨rfl, _, h1, h2.mono (fun _ _ h => .inl h), .inr ⟨rfl, rfl⟩⟩
  | some mb =>
    have fin : ∀ (M' : List (ByteArray × Value)), keepM most M key (.slice ao n c) = M' → ∀ (e : Ending) (w' : World), (e = .returned (.tuple #[]) ∧ KLs w' kb (some mb) most M' ∧ Kept (fun k => k = mb) w w') →
        (e = .returned (.tuple #[]) ∧ ∃ mb', KLs w' kb (some mb') most (keepM most M key (.slice ao n c)) ∧ Kept (fun k => k = kb ∨ some mb = some k) w w' ∧ (some mb = some mb' ∨ (some mb = none ∧ mb' = w.heap.size))) := by
      intro M' hM' e w' ⟨h1, h2, h3⟩
      exact ⟨h1, mb, hM' ▸ h2, h3.mono (fun k _ h => .inr (by rw [h])), .inl rfl⟩
    cases hk : kget M key with
    | some u =>
      refine (keep_hit kb mb most M key ao n c w h (by rw [hk]; rfl)).mono (fin _ ?_)
      unfold keepM; rw [hk]; rfl
    | none =>
      by_cases hpos : 0 < most
      · by_cases hfull : most ≤ (M.length : Int)
        · refine (keep_clear kb mb most M key ao n c w h hk hpos hfull).mono (fin _ ?_)
          unfold keepM; rw [hk, decide_eq_true hpos, decide_eq_true hfull]; rfl
        · refine (keep_room kb mb most M key ao n c w h hk hpos hfull).mono (fin _ ?_)
          unfold keepM; rw [hk, decide_eq_true hpos, decide_eq_false hfull]; rfl
      · refine (keep_low kb mb most M key ao n c w h hk hpos).mono (fin _ ?_)
        unfold keepM; rw [hk, decide_eq_false hpos]; rfl

set_option maxHeartbeats 1000000 in
theorem zzKept (kb : Nat) (r : Option Nat) (most : Int) (M : List (ByteArray × Value)) (key : ByteArray) (w : World) (h : KLs w kb r most M) :
    Calls Tryd.prog 28 #[.pointer (some ⟨kb, 0, none⟩), .string key] w fun e w' => e = .returned (.tuple #[(kget M key).getD (.slice none 0 0), .bool (kget M key).isSome]) ∧ w' = w := by
  obtain ⟨hb, hm⟩ := h
  have c1 : w.cell? ⟨kb, 1, none⟩ = some (.map r) := by rw [blk_cell hb]; rfl
  have hlk : (Instr.lookup 48 (.map r) (.string key) true).run Tryd.prog w = .ok (.tuple #[(kget M key).getD (.slice none 0 0), .bool (kget M key).isSome]) w := by
    rcases hm with ⟨rfl, rfl⟩ | ⟨mb, rfl, hM⟩
    · exact (run_lookup_nil Tryd.underlying48 Tryd.underlying9 (zeroI64s w) key).1
    · exact (run_lookup hM Tryd.underlying48 Tryd.underlying9 (zeroI64s w) key).1
  generalize (kget M key).getD (.slice none 0 0) = u at *
  generalize (kget M key).isSome = b at *
  clear hb hm
  go_enter Tryd.func28, Tryd.ntmps28
  go_wp2
  go_ret2
  exact ⟨rfl, rfl⟩

end Go.Proofs.Qxb6612988aDoor

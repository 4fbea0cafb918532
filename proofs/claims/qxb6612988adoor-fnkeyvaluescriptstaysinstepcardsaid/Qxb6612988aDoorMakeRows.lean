/-
  zzCloneRows, by its contract.
-/
import Derived.Test.Qxb6612988aDoorMakeOps
namespace Go.Proofs.Qxb6612988aDoor
open Go.RowKit

theorem Holds.keptAt {S F : Nat → Prop} {w w' : World} {v : Value} {zs : List Int} (h : Holds w F v zs) (k : Kept S w w') (hS : ∀ j, v.ownBlock = some j → ¬ S j) : Holds w' F v zs :=
  ⟨h.sees.kept k hS, h.solid.kept k hS, h.foot, h.ints, h.len⟩
theorem Holds.off {F : Nat → Prop} {w : World} {v : Value} {zs : List Int} (h : Holds w F v zs) {b t : Nat} {cs : Array Value} (hb : w.heap[b]? = some (.cells cs t (0, 0))) (ht : t ≠ 2) : ∀ j, v.ownBlock = some j → ¬ j = b := by
  rintro j hj rfl
  obtain ⟨cs', hb'⟩ := h.solid j hj
  rw [hb] at hb'
  simp only [Option.some.injEq, Obj.cells.injEq] at hb'
  exact ht hb'.2.1

/-- A [][]int64 that came in. -/
structure RowArg (w : World) (v : Value) (zss : List (List Int)) : Prop where
  form : ∃ ao c, v = .slice ao zss.length c ∧ (ao = none → c = 0) ∧ zss.length ≤ 1048576 ∧ (0 < zss.length → ∃ g o, ao = some ⟨g, o, none⟩ ∧ ∀ j (hj : j < zss.length), ∃ lv, w.cell? ⟨g, o + j, none⟩ = some lv ∧ SeesI w lv zss[j])
  ok : ∀ z ∈ zss, z.length ≤ 1048576 ∧ ∀ y ∈ z, I64 y

theorem infoRow : (Tryd.prog.info? 42).map (fun i => (i.zero, i.size, i.bytes)) = some (some (.slice none 0 0), 1, 24) := by kernel_rfl

/-- The rows that are being laid: the first k of n. -/
def RowBuf (w : World) (b n k : Nat) (F : Nat → Prop) (zss : List (List Int)) : Prop :=
  ∃ cur : Array Value, w.heap[b]? = some (.cells cur 42 (0, 0)) ∧ cur.size = n ∧ ∀ j (hj : j < zss.length), j < k → ∃ lv, cur[j]? = some lv ∧ Holds w F lv zss[j]

theorem RowBuf.kept {w w' : World} {b n k : Nat} {F : Nat → Prop} {zss : List (List Int)} (h : RowBuf w b n k F zss) (hk : Kept (fun _ => False) w w') : RowBuf w' b n k F zss := by
  obtain ⟨cur, hb, hs, hc⟩ := h
  refine ⟨cur, hk.here hb (fun f => f), hs, fun j hj hjk => ?_⟩
  obtain ⟨lv, h1, h2⟩ := hc j hj hjk
  exact ⟨lv, h1, h2.kept hk (fun _ _ f => f)⟩

theorem RowBuf.step {w : World} {b n k : Nat} {F : Nat → Prop} {zss : List (List Int)} (h : RowBuf w b n k F zss) (hk : k < n) (hkz : k < zss.length) {v : Value} (hv : Holds w F v zss[k]) : RowBuf (w.setCell ⟨b, k, none⟩ v) b n (k + 1) F zss := by
  obtain ⟨cur, hb, hs, hc⟩ := h
  have hK : Kept (fun j => j = b) w (w.setCell ⟨b, k, none⟩ v) := (Kept.refl (fun j => j = b) w).setCell (p := ⟨b, k, none⟩) (fun _ => rfl) v
  refine ⟨_, blk_set hb k v, by simp [hs], fun j hj hjk => ?_⟩
  by_cases e : j = k
  · subst e
    exact ⟨v, by simp [hs, hk], hv.keptAt hK (hv.off hb (by decide))⟩
  · obtain ⟨lv, h1, h2⟩ := hc j hj (by omega)
    exact ⟨lv, by rw [Array.getElem?_setIfInBounds, if_neg (by omega)]; exact h1, h2.keptAt hK (h2.off hb (by decide))⟩

theorem RowBuf.rows {w : World} {b n : Nat} {F : Nat → Prop} {zss : List (List Int)} (h : RowBuf w b n n F zss) (hn : zss.length = n) (hl : n ≤ 1048576) (hF : F b) : RowsAt w F (.slice (some ⟨b, 0, none⟩) n n) zss := by
  obtain ⟨cur, hb, hs, hc⟩ := h
  subst hn
  refine ⟨some ⟨b, 0, none⟩, _, rfl, (fun e => by cases e), hl, fun _ => ⟨b, 0, rfl, Nat.le_refl _, hF, fun j hj => ?_⟩⟩
  obtain ⟨lv, h1, h2⟩ := hc j hj hj
  exact ⟨lv, by rw [blk_cell hb, Nat.zero_add]; exact h1, h2⟩

set_option maxRecDepth 100000 in
set_option maxHeartbeats 4000000 in
theorem zzCloneRows_some (g o c : Nat) (zss : List (List Int)) (w : World) (hl : zss.length ≤ 1048576) (hcell : ∀ j (hj : j < zss.length), ∃ lv, w.cell? ⟨g, o + j, none⟩ = some lv ∧ SeesI w lv zss[j]) (hok : ∀ z ∈ zss, z.length ≤ 1048576 ∧ ∀ y ∈ z, I64 y) (hpos : 0 < zss.length) :
    Calls Tryd.prog 35 #[.slice (some ⟨g, o, none⟩) zss.length c] w fun e w' => e = .returned (.slice (some ⟨w.heap.size, 0, none⟩) zss.length zss.length) ∧ RowBuf w' w.heap.size zss.length zss.length (fun j => w.heap.size ≤ j) zss ∧ Below w.heap.size w w' := by
  have hnil := fun (r : Option Addr) (n c n' c' : Nat) (wx : World) => Lib.run_eql_slice_nil (P := Tryd.prog) wx _ _ r n c n' c' Tryd.underlying69
  obtain ⟨i0, hi, hz0, hz1, hz2⟩ := info_parts infoRow
  have HC : Hid (∀ j (hj : j < zss.length), ∃ lv, w.cell? ⟨g, o + j, none⟩ = some lv ∧ SeesI w lv zss[j]) := hcell
  clear hcell
  go_enter Tryd.func35, Tryd.ntmps35
  go_wp2_with (refine wpList_make_full _ rfl (.tmp 8) (.tmp 8) 69 rfl 0 42 i0 (.slice none 0 0) 1 Tryd.underlying69 hi hz0 hz1 .i64 .i64 _ _ zss.length rfl rfl rfl rfl ?q1 ?q2 ?q3 ?q4)
  case q1 => rw [hz2]; omega
  case q2 => unfold maxLen; omega
  case q3 => exact Nat.zero_le _
  case q4 =>
    intro w1 hown hgr
    have hrow : RowBuf w1 w.heap.size zss.length 0 (fun j => w.heap.size ≤ j) zss := by
      rcases hown.2 with ⟨e, _⟩ | ⟨g', cap, cur, e, _, hb, _, _, hs, _⟩
      · cases e
      · cases e; exact ⟨cur, hb, by simpa using hs, fun j _ hj => by omega⟩
    have hB1 : Below w.heap.size w w1 := (Below.refl _ _).grown hgr (Nat.le_refl _) (fun k h => by cases h)
    clear hown hgr hnil
    go_wp2
    go_loopw [4] (fun i wr => ∃ k : Nat, k ≤ zss.length ∧ i = .int .i64 k ∧ RowBuf wr w.heap.size zss.length k (fun j => w.heap.size ≤ j) zss ∧ Below w.heap.size w wr) (fun i _ => zss.length - (intOf i).toNat)
    case atStart => exact ⟨0, Nat.zero_le _, rfl, hrow, hB1⟩
    case round =>
      clear hrow hB1
      obtain ⟨k, hk, rfl, hrow, hB⟩ := hrel
      by_cases hlt : k < zss.length
      · obtain ⟨lv, h1, h2⟩ := HC.out k hlt
        obtain ⟨ok1, ok2⟩ := hok zss[k] (List.getElem_mem hlt)
        have c1 := (hB.cell (p := ⟨g, o + k, none⟩) (World.block_lt_of_cell? w ⟨g, o + k, none⟩ h1)).trans h1
        have h2' := h2.below hB
        obtain ⟨lao, lc, elv, _, _⟩ := h2'.form
        have hCl := cloneInts lv zss[k] wr h2' (by omega)
        have hsz := hB.size
        clear h1 h2 h2'
        subst elv
        go_wp2_with fail
        refine hCl.mono ?_
        rintro e w1 ⟨v', rfl, hcl⟩
        obtain ⟨hq1, hq2⟩ := hcl.holds ok2 ok1
        have hq3 : Holds w1 (fun j => w.heap.size ≤ j) v' zss[k] := hq1.mono (fun j _ hj => by omega)
        have hrow1 := hrow.kept hq2
        have hB1 : Below w.heap.size w w1 := below_kept hB hq2 (Nat.le_refl _) (fun _ f => f.elim)
        obtain ⟨vao, vn, vc, ev⟩ := hq3.shape
        subst ev
        have hst := hrow1.step hlt hlt hq3
        obtain ⟨cur, hb, hs, _⟩ := hrow1
        have d1 : w1.cell? ⟨w.heap.size, k, none⟩ = some (cur[k]'(by omega)) := by rw [blk_cell hb]; simp [hs, hlt]
        have f1 := blk_frozen hb k
        have hB2 : Below w.heap.size w (w1.setCell ⟨w.heap.size, k, none⟩ (.slice vao vn vc)) := hB1.setCell (p := ⟨w.heap.size, k, none⟩) (Nat.le_refl _) _
        clear hCl hcl hq1 hq2 hq3 hrow hb hB c1
        generalize cur[k]'(by omega) = x0 at *
        go_wp2
        go_roundw
        case rel => exact ⟨k + 1, by omega, by go_num, hst, hB2⟩
        case measure => simp [intOf]; omega
      · obtain rfl : k = zss.length := by omega
        go_wp2
        go_ret
        exact ⟨rfl, hrow, hB⟩

set_option maxRecDepth 100000 in
set_option maxHeartbeats 2000000 in
theorem zzCloneRows_nil (w : World) : Calls Tryd.prog 35 #[.slice none 0 0] w fun e w' => e = .returned (.slice none 0 0) ∧ w' = w := by
  have hnil := fun (r : Option Addr) (n c n' c' : Nat) (wx : World) => Lib.run_eql_slice_nil (P := Tryd.prog) wx _ _ r n c n' c' Tryd.underlying69
  go_enter Tryd.func35, Tryd.ntmps35
  go_wp2
  go_ret
  exact ⟨rfl, rfl⟩

set_option maxRecDepth 100000 in
set_option maxHeartbeats 2000000 in
theorem zzCloneRows_empty (a : Addr) (c : Nat) (w : World) : Calls Tryd.prog 35 #[.slice (some a) 0 c] w fun e w' => e = .returned (.slice (some ⟨w.heap.size, 0, none⟩) 0 0) ∧ Below w.heap.size w w' ∧ w.heap.size < w'.heap.size := by
  have hnil := fun (r : Option Addr) (n c n' c' : Nat) (wx : World) => Lib.run_eql_slice_nil (P := Tryd.prog) wx _ _ r n c n' c' Tryd.underlying69
  obtain ⟨i0, hi, hz0, hz1, hz2⟩ := info_parts infoRow
  go_enter Tryd.func35, Tryd.ntmps35
  go_wp2_with (refine wpList_make_full _ rfl (.tmp 8) (.tmp 8) 69 rfl 0 42 i0 (.slice none 0 0) 1 Tryd.underlying69 hi hz0 hz1 .i64 .i64 _ _ 0 rfl rfl rfl rfl ?q1 ?q2 ?q3 ?q4)
  case q1 => omega
  case q2 => unfold maxLen; omega
  case q3 => exact Nat.zero_le _
  case q4 =>
    intro w1 hown hgr
    have hB1 : Below w.heap.size w w1 := (Below.refl _ _).grown hgr (Nat.le_refl _) (fun k h => by cases h)
    have hlt := (hown.lt w.heap.size rfl).2
    clear hown hgr hnil
    go_wp2
    refine wp_loop_rounds 1 ?_
    rw [rounds_succ]
    go_wp2
    go_ret
    exact ⟨rfl, hB1, hlt⟩

/-- The clone's rows all lie in new blocks. -/
theorem zzCloneRows_any (v : Value) (zss : List (List Int)) (w : World) (h : RowArg w v zss) :
    Calls Tryd.prog 35 #[v] w fun e w' => ∃ v', e = .returned v' ∧ RowsAt w' (fun j => w.heap.size ≤ j) v' zss ∧ Below w.heap.size w w' ∧ (∀ j, v'.ownBlock = some j → w.heap.size ≤ j ∧ j < w'.heap.size) := by
  obtain ⟨ao, c, rfl, hn, hl, hX⟩ := h.form
  rcases Nat.eq_zero_or_pos zss.length with h0 | h0
  · have e0 : zss = [] := List.eq_nil_of_length_eq_zero h0
    subst e0
    cases ao with
    | none =>
      rw [hn rfl]
      refine (zzCloneRows_nil w).mono ?_
      rintro e w' ⟨rfl, rfl⟩
      exact ⟨_, rfl, ⟨none, 0, rfl, (fun _ => rfl), by simp, fun h => by simp at h⟩, Below.refl _ _, fun j hj => by simp [Value.ownBlock] at hj⟩
    | some a =>
      refine (zzCloneRows_empty a c w).mono ?_
      rintro e w' ⟨rfl, hB, hlt⟩
      exact ⟨_, rfl, ⟨_, 0, rfl, (fun h => by cases h), by simp, fun h => by simp at h⟩, hB, fun j hj => by cases hj; exact ⟨Nat.le_refl _, hlt⟩⟩
  · obtain ⟨g, o, rfl, hc⟩ := hX h0
    refine (zzCloneRows_some g o c zss w hl hc h.ok h0).mono ?_
    rintro e w' ⟨rfl, hr, hB⟩
    refine ⟨_, rfl, hr.rows rfl hl (Nat.le_refl _), hB, fun j hj => ?_⟩
    cases hj
    obtain ⟨cur, hb, _⟩ := hr
    exact ⟨Nat.le_refl _, lt_of_block hb⟩

end Go.Proofs.Qxb6612988aDoor

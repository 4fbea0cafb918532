/-
  zzOps and zzCloneRows, by their contracts.
-/
import Derived.Test.Qxb6612988aDoorMake
import Derived.BigRegion
namespace Go.Proofs.Qxb6612988aDoor
open Go.RowKit

/-- One operation as it came in. -/
structure OpV where
  kind : Int
  key : ByteArray
  val : Int

/-- A []Op that came in. -/
structure OpArg (w : World) (v : Value) (ops : List OpV) : Prop where
  form : ∃ ao c, v = .slice ao ops.length c ∧ (ao = none → c = 0) ∧ ops.length ≤ 1048576 ∧ (0 < ops.length → ∃ g o, ao = some ⟨g, o, none⟩ ∧ ∀ j (hj : j < ops.length), w.cell? ⟨g, o + j * 3, none⟩ = some (.int .u8 (ops[j]).kind) ∧ w.cell? ⟨g, o + j * 3 + 1, none⟩ = some (.string (ops[j]).key) ∧ w.cell? ⟨g, o + j * 3 + 2, none⟩ = some (.int .i64 (ops[j]).val))

theorem infoOp : (Tryd.prog.info? 97).map (fun i => (i.zero, i.size, i.bytes)) = some (some (.agg #[.int .u8 0, .string ⟨#[]⟩, .int .i64 0]), 3, 32) := by kernel_rfl

/-- The row that is being filled: n operations, the keys of the first k are laid. -/
def OpRow (w : World) (b : Nat) (n k : Nat) (ops : List OpV) : Prop :=
  ∃ cur : Array Value, w.heap[b]? = some (.cells cur 97 (0, 0)) ∧ cur.size = n * 3 ∧ ∀ j (hj : j < ops.length), j < k → cur[j * 3 + 1]? = some (.string (ops[j]).key)

theorem OpRow.cells {w : World} {b n k : Nat} {ops : List OpV} (h : OpRow w b n k ops) (i : Nat) (hi : i < n * 3) : (∃ x, w.cell? ⟨b, i, none⟩ = some x) ∧ w.frozen? ⟨b, i, none⟩ = false := by
  obtain ⟨cur, hb, hs, _⟩ := h
  exact ⟨⟨cur[i], by rw [blk_cell hb]; simp [hs, hi]⟩, blk_frozen hb i⟩

theorem OpRow.step {w : World} {b n k : Nat} {ops : List OpV} (h : OpRow w b n k ops) (hk : k < n) (hko : k < ops.length) (x y : Value) :
    OpRow (((w.setCell ⟨b, k * 3, none⟩ x).setCell ⟨b, k * 3 + 1, none⟩ (.string (ops[k]).key)).setCell ⟨b, k * 3 + 2, none⟩ y) b n (k + 1) ops := by
  obtain ⟨cur, hb, hs, hc⟩ := h
  refine ⟨_, blk_set (blk_set (blk_set hb _ x) _ _) _ y, by simp [hs], fun j hj hjk => ?_⟩
  simp only [Array.getElem?_setIfInBounds, Array.size_setIfInBounds]
  by_cases e : j = k
  · subst e
    rw [if_neg (by omega), if_pos rfl, if_pos (by omega)]
  · rw [if_neg (by omega), if_neg (by omega), if_neg (by omega)]
    exact hc j hj (by omega)

theorem OpRow.ops {w : World} {b n : Nat} {ops : List OpV} (h : OpRow w b n n ops) (hn : ops.length = n) (hl : n ≤ 1048576) : OpsAt w (.slice (some ⟨b, 0, none⟩) n n) (ops.map (·.key)) := by
  obtain ⟨cur, hb, hs, hc⟩ := h
  refine ⟨some ⟨b, 0, none⟩, n, by simp [hn], by simp; omega, fun _ => ⟨b, 0, rfl, by simp [hn], fun j hj => ?_⟩⟩
  simp at hj
  rw [blk_cell hb, Nat.zero_add, hc j hj (by omega)]
  simp

set_option maxRecDepth 100000 in
set_option maxHeartbeats 8000000 in
theorem zzOps_some (g o c : Nat) (ops : List OpV) (w : World) (hl : ops.length ≤ 1048576) (hcell : ∀ j (hj : j < ops.length), w.cell? ⟨g, o + j * 3, none⟩ = some (.int .u8 (ops[j]).kind) ∧ w.cell? ⟨g, o + j * 3 + 1, none⟩ = some (.string (ops[j]).key) ∧ w.cell? ⟨g, o + j * 3 + 2, none⟩ = some (.int .i64 (ops[j]).val)) (hpos : 0 < ops.length) :
    Calls Tryd.prog 37 #[.slice (some ⟨g, o, none⟩) ops.length c] w fun e w' => e = .returned (.slice (some ⟨w.heap.size, 0, none⟩) ops.length ops.length) ∧ OpRow w' w.heap.size ops.length ops.length ops ∧ Below w.heap.size w w' := by
  have hnil := fun (r : Option Addr) (n c n' c' : Nat) (wx : World) => Lib.run_eql_slice_nil (P := Tryd.prog) wx _ _ r n c n' c' Tryd.underlying68
  obtain ⟨i0, hi, hz0, hz1, hz2⟩ := info_parts infoOp
  have HC : Hid (∀ j (hj : j < ops.length), w.cell? ⟨g, o + j * 3, none⟩ = some (.int .u8 (ops[j]).kind) ∧ w.cell? ⟨g, o + j * 3 + 1, none⟩ = some (.string (ops[j]).key) ∧ w.cell? ⟨g, o + j * 3 + 2, none⟩ = some (.int .i64 (ops[j]).val)) := hcell
  clear hcell
  go_enter Tryd.func37, Tryd.ntmps37
  go_wp2_with (refine wpList_make_full _ rfl (.tmp 8) (.tmp 8) 74 rfl 0 97 i0 (.agg #[.int .u8 0, .string ⟨#[]⟩, .int .i64 0]) 3 Tryd.underlying74 hi hz0 hz1 .i64 .i64 _ _ ops.length rfl rfl rfl rfl ?q1 ?q2 ?q3 ?q4)
  case q1 => rw [hz2]; omega
  case q2 => unfold maxLen; omega
  case q3 => exact Nat.zero_le _
  case q4 =>
    intro w1 hown hgr
    have hrow : OpRow w1 w.heap.size ops.length 0 ops := by
      rcases hown.2 with ⟨e, _⟩ | ⟨g', cap, cur, e, _, hb, _, _, hs, _⟩
      · cases e
      · cases e; exact ⟨cur, hb, hs, fun j _ hj => by omega⟩
    have hB1 : Below w.heap.size w w1 := (Below.refl _ _).grown hgr (Nat.le_refl _) (fun k h => by cases h)
    clear hown hgr hnil
    go_wp2
    go_loopw [4] (fun i wr => ∃ k : Nat, k ≤ ops.length ∧ i = .int .i64 k ∧ OpRow wr w.heap.size ops.length k ops ∧ Below w.heap.size w wr) (fun i _ => ops.length - (intOf i).toNat)
    case atStart => exact ⟨0, Nat.zero_le _, rfl, hrow, hB1⟩
    case round =>
      clear hrow hB1
      obtain ⟨k, hk, rfl, hrow, hB⟩ := hrel
      by_cases hlt : k < ops.length
      · obtain ⟨h1, h2, h3⟩ := HC.out k hlt
        have hlt0 : g < w.heap.size := World.block_lt_of_cell? w ⟨g, o + k * 3, none⟩ h1
        have c1 := (hB.cell (p := ⟨g, o + k * 3, none⟩) hlt0).trans h1
        have c2 := (hB.cell (p := ⟨g, o + k * 3 + 1, none⟩) hlt0).trans h2
        have c3 := (hB.cell (p := ⟨g, o + k * 3 + 2, none⟩) hlt0).trans h3
        obtain ⟨⟨x1, d1⟩, f1⟩ := hrow.cells (k * 3) (by omega)
        obtain ⟨⟨x2, d2⟩, f2⟩ := hrow.cells (k * 3 + 1) (by omega)
        obtain ⟨⟨x3, d3⟩, f3⟩ := hrow.cells (k * 3 + 2) (by omega)
        have hst := hrow.step hlt hlt (.int .u8 (ops[k]).kind) (.int .i64 (ops[k]).val)
        have HST : Hid (OpRow (((wr.setCell ⟨w.heap.size, k * 3, none⟩ (.int .u8 (ops[k]).kind)).setCell ⟨w.heap.size, k * 3 + 1, none⟩ (.string (ops[k]).key)).setCell ⟨w.heap.size, k * 3 + 2, none⟩ (.int .i64 (ops[k]).val)) w.heap.size ops.length (k + 1) ops) := hst
        have HB : Hid (Below w.heap.size w wr) := hB
        clear hst h1 h2 h3 hrow hB
        generalize (ops[k]).kind = kd at *
        generalize (ops[k]).key = ky at *
        generalize (ops[k]).val = vl at *
        go_wp2_with fail
        go_region
        have HB2 : Hid (Below w.heap.size w (((wr.setCell ⟨w.heap.size, k * 3, none⟩ (.int .u8 kd)).setCell ⟨w.heap.size, k * 3 + 1, none⟩ (.string ky)).setCell ⟨w.heap.size, k * 3 + 2, none⟩ (.int .i64 vl))) :=
          ((HB.out.setCell (p := ⟨w.heap.size, k * 3, none⟩) (Nat.le_refl _) _).setCell (p := ⟨w.heap.size, k * 3 + 1, none⟩) (Nat.le_refl _) _).setCell (p := ⟨w.heap.size, k * 3 + 2, none⟩) (Nat.le_refl _) _
        clear c1 c2 c3 d1 d2 d3 f1 f2 f3
        go_wp2
        go_roundw
        case rel => exact ⟨k + 1, by omega, by go_num, HST.out, HB2.out.drew⟩
        case measure => simp [intOf]; omega
      · obtain rfl : k = ops.length := by omega
        go_wp2
        go_ret
        exact ⟨rfl, hrow, hB⟩

set_option maxRecDepth 100000 in
set_option maxHeartbeats 2000000 in
theorem zzOps_nil (w : World) : Calls Tryd.prog 37 #[.slice none 0 0] w fun e w' => e = .returned (.slice none 0 0) ∧ w' = w := by
  have hnil := fun (r : Option Addr) (n c n' c' : Nat) (wx : World) => Lib.run_eql_slice_nil (P := Tryd.prog) wx _ _ r n c n' c' Tryd.underlying68
  go_enter Tryd.func37, Tryd.ntmps37
  go_wp2
  go_ret
  exact ⟨rfl, rfl⟩

set_option maxRecDepth 100000 in
set_option maxHeartbeats 2000000 in
theorem zzOps_empty (a : Addr) (c : Nat) (w : World) : Calls Tryd.prog 37 #[.slice (some a) 0 c] w fun e w' => e = .returned (.slice (some ⟨w.heap.size, 0, none⟩) 0 0) ∧ Below w.heap.size w w' ∧ w.heap.size < w'.heap.size := by
  have hnil := fun (r : Option Addr) (n c n' c' : Nat) (wx : World) => Lib.run_eql_slice_nil (P := Tryd.prog) wx _ _ r n c n' c' Tryd.underlying68
  obtain ⟨i0, hi, hz0, hz1, hz2⟩ := info_parts infoOp
  go_enter Tryd.func37, Tryd.ntmps37
  go_wp2_with (refine wpList_make_full _ rfl (.tmp 8) (.tmp 8) 74 rfl 0 97 i0 (.agg #[.int .u8 0, .string ⟨#[]⟩, .int .i64 0]) 3 Tryd.underlying74 hi hz0 hz1 .i64 .i64 _ _ 0 rfl rfl rfl rfl ?q1 ?q2 ?q3 ?q4)
  case q1 => omega
  case q2 => unfold maxLen; omega
  case q3 => exact Nat.zero_le _
  case q4 =>
    intro w1 hown hgr
    have hB1 : Below w.heap.size w w1 := (Below.refl _ _).grown hgr (Nat.le_refl _) (fun k h => by cases h)
    have hlt := (hown.lt w.heap.size rfl).2
    clear hown hgr hnil
    go_wp2
    refine wp_loop_rounds 1 ?_
    rw [rounds_succ]
    go_wp2
    go_ret
    exact ⟨rfl, hB1, hlt⟩

theorem zzOps_any (v : Value) (ops : List OpV) (w : World) (h : OpArg w v ops) :
    Calls Tryd.prog 37 #[v] w fun e w' => ∃ v', e = .returned v' ∧ OpsAt w' v' (ops.map (·.key)) ∧ Below w.heap.size w w' ∧ (∀ j, v'.ownBlock = some j → w.heap.size ≤ j ∧ j < w'.heap.size) := by
  obtain ⟨ao, c, rfl, hn, hl, hX⟩ := h.form
  rcases Nat.eq_zero_or_pos ops.length with h0 | h0
  · have e0 : ops = [] := List.eq_nil_of_length_eq_zero h0
    subst e0
    cases ao with
    | none =>
      rw [hn rfl]
      refine (zzOps_nil w).mono ?_
      rintro e w' ⟨rfl, rfl⟩
      exact ⟨_, rfl, ⟨none, 0, rfl, by simp, fun h => by simp at h⟩, Below.refl _ _, fun j hj => by simp [Value.ownBlock] at hj⟩
    | some a =>
      refine (zzOps_empty a c w).mono ?_
      rintro e w' ⟨rfl, hB, hlt⟩
      exact ⟨_, rfl, ⟨_, 0, rfl, by simp, fun h => by simp at h⟩, hB, fun j hj => by cases hj; exact ⟨Nat.le_refl _, hlt⟩⟩
  · obtain ⟨g, o, rfl, hc⟩ := hX h0
    refine (zzOps_some g o c ops w hl hc h0).mono ?_
    rintro e w' ⟨rfl, hr, hB⟩
    refine ⟨_, rfl, hr.ops rfl hl, hB, fun j hj => ?_⟩
    cases hj
    obtain ⟨cur, hb, _⟩ := hr
    exact ⟨Nat.le_refl _, lt_of_block hb⟩

end Go.Proofs.Qxb6612988aDoor

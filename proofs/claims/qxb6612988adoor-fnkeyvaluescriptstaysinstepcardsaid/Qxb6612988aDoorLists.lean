/-
  LISTS OF int64 AND OF BYTES: zzIntsEq, zzBytesEq, zzCloneInts, zzCloneBytes, by their contracts.
-/
import Derived.Test.Qxb6612988aDoorCodec
import Derived.Deep.OwnRows
import Derived.Deep.RegionWith
import Derived.Deep.QuietTactic
import Derived.BigQuiet
import Derived.Laws.CopyOwn
import Derived.Outline
namespace Go.Proofs.Qxb6612988aDoor
open Go.RowKit

/-- The slice v holds the integers zs. -/
def SeesI (w : World) (v : Value) (zs : List Int) : Prop :=
  (zs = [] ∧ ∃ ao c, v = .slice ao 0 c ∧ (ao = none → c = 0)) ∨
  ∃ g o c, v = .slice (some ⟨g, o, none⟩) zs.length c ∧ zs.length ≤ c ∧ ∀ j (hj : j < zs.length), w.cell? ⟨g, o + j, none⟩ = some (.int .i64 zs[j])

theorem SeesI.kept {S : Nat → Prop} {w w' : World} {v : Value} {l : List Int} (h : SeesI w v l) (k : Kept S w w') (hS : ∀ j, v.ownBlock = some j → ¬ S j) : SeesI w' v l := by
  rcases h with h | ⟨g, o, c, rfl, hc, hcell⟩
  · exact .inl h
  · exact .inr ⟨g, o, c, rfl, hc, fun j hj => k.cell (hcell j hj) (hS g rfl)⟩

theorem SeesI.drewN {w : World} {v : Value} {l : List Int} (h : SeesI w v l) (n : Nat) : SeesI (w.drewN n) v l := h.kept (S := fun _ => False) ((Kept.refl _ _).drewN n) (fun _ _ f => f)
theorem Sees.drewN {w : World} {v : Value} {l : List UInt8} (h : Sees w v l) (n : Nat) : Sees (w.drewN n) v l := h.kept (S := fun _ => False) ((Kept.refl _ _).drewN n) (fun _ _ f => f)

/-- Its shape, and where its elements lie if it has any. -/
theorem SeesI.form {w : World} {v : Value} {zs : List Int} (h : SeesI w v zs) : ∃ ao c, v = .slice ao zs.length c ∧ (ao = none → c = 0) ∧ (0 < zs.length → ∃ g o, ao = some ⟨g, o, none⟩ ∧ zs.length ≤ c ∧ ∀ j (hj : j < zs.length), w.cell? ⟨g, o + j, none⟩ = some (.int .i64 zs[j])) := by
  rcases h with ⟨rfl, ao, c, rfl, hn⟩ | ⟨g, o, c, rfl, hc, hcell⟩
  · exact ⟨ao, c, rfl, hn, fun h => by simp at h⟩
  · exact ⟨_, c, rfl, (fun h => by cases h), fun _ => ⟨g, o, rfl, hc, hcell⟩⟩
theorem Sees.form {w : World} {v : Value} {l : List UInt8} (h : Sees w v l) : ∃ ao c, v = .slice ao l.length c ∧ (0 < l.length → ∃ g o, ao = some ⟨g, o, none⟩ ∧ l.length ≤ c ∧ ∀ j (hj : j < l.length), w.cell? ⟨g, o + j, none⟩ = some (.int .u8 (l[j]).toNat)) := by
  rcases h with ⟨rfl, ao, c, rfl⟩ | ⟨g, o, c, rfl, hc, hcell⟩
  · exact ⟨ao, c, rfl, fun h => by simp at h⟩
  · exact ⟨_, c, rfl, fun _ => ⟨g, o, rfl, hc, hcell⟩⟩

theorem take_step {α : Type} (xs ys : List α) (k : Nat) (hx : k < xs.length) (hy : k < ys.length) (h : xs.take k = ys.take k) (e : xs[k] = ys[k]) : xs.take (k + 1) = ys.take (k + 1) := by
  rw [List.take_succ_eq_append_getElem hx, List.take_succ_eq_append_getElem hy, h, e]
theorem beq_ne {α : Type} [BEq α] [LawfulBEq α] {xs ys : List α} (h : xs ≠ ys) : (xs == ys) = false := beq_eq_false_iff_ne.2 h

set_option maxHeartbeats 2000000 in
theorem intsEq (va vb : Value) (xs ys : List Int) (w : World) (hx : SeesI w va xs) (hy : SeesI w vb ys) (hl : xs.length ≤ maxLen) (hl2 : ys.length ≤ maxLen) :
    Calls Tryd.prog 27 #[va, vb] w fun e w' => e = .returned (.bool (xs == ys)) ∧ ∃ n, w' = w.drewN n := by
  obtain ⟨a0, c0, rfl, _, hX⟩ := hx.form
  obtain ⟨a1, c1, rfl, _, hY⟩ := hy.form
  clear hx hy
  unfold maxLen at hl hl2
  by_cases hne : xs.length = ys.length
  · have HE : Hid (xs.length = ys.length) := hne
    rw [← hne]
    by_cases hpos : 0 < xs.length
    · obtain ⟨g0, o0, rfl, hc0, hx⟩ := hX hpos
      obtain ⟨g1, o1, rfl, hc1, hy⟩ := hY (by omega)
      clear hX hY hne hl2 hc1
      go_enter Tryd.func27, Tryd.ntmps27
      go_wp2
      go_loopw [5] (fun i wr => ∃ k q : Nat, k ≤ xs.length ∧ i = .int .i64 k ∧ wr = w.drewN q ∧ Hid (xs.take k = ys.take k)) (fun i _ => xs.length - (intOf i).toNat)
      case atStart => exact ⟨0, 0, Nat.zero_le _, rfl, rfl, rfl⟩
      case round =>
        obtain ⟨k, q, hk, rfl, rfl, HT⟩ := hrel
        by_cases hlt : k < xs.length
        · have hlt2 : k < ys.length := by have := HE.out; omega
          have cx := hx k hlt
          have cy := hy k (by exact hlt2)
          by_cases hxy : xs[k] = ys[k]
          · have HT2 : Hid (xs.take (k + 1) = ys.take (k + 1)) := take_step xs ys k hlt hlt2 HT.out hxy
            rw [← hxy] at cy
            clear hx hy HT hxy hlt2
            go_wp2_with fail
            go_quiet (fail)
            go_wp2
            go_roundw
            case rel => exact ⟨k + 1, _, by omega, by go_num, rfl, HT2⟩
            case measure => simp [intOf]; omega
          · have HR : Hid ((xs == ys) = false) := beq_ne (fun e => hxy (by simp [e]))
            have hxy2 : (xs[k] == ys[k]) = false := by simp [hxy]
            clear hx hy HT hxy
            go_wp2_with fail
            go_quiet (fail)
            go_wp2
            go_ret
            exact ⟨by rw [HR.out]; rfl, q + nq, by simp⟩
        · have HR : Hid ((xs == ys) = true) := by
            have h1 := HT.out
            rw [List.take_of_length_le (by omega), List.take_of_length_le (by have := HE.out; omega)] at h1
            rw [h1]; exact beq_self_eq_true _
          clear HT
          go_wp2
          go_ret
          exact ⟨by rw [HR.out]; rfl, _, rfl⟩
    · have hx0 : xs = [] := List.eq_nil_of_length_eq_zero (by omega)
      have hy0 : ys = [] := List.eq_nil_of_length_eq_zero (by omega)
      subst hx0
      subst hy0
      clear hX hY HE hne hl hl2 hpos
      go_enter Tryd.func27, Tryd.ntmps27
      go_wp2
      refine wp_loop_rounds 1 ?_
      rw [rounds_succ]
      go_wp2
      go_ret
      exact ⟨rfl, 0, rfl⟩
  · have HR : Hid ((xs == ys) = false) := beq_ne (fun e => hne (by rw [e]))
    have hne2 : ((xs.length : Int) != (ys.length : Int)) = true := by rw [bne_iff_ne]; omega
    clear hX hY hne
    go_enter Tryd.func27, Tryd.ntmps27
    go_wp2
    go_ret
    exact ⟨by rw [HR.out]; rfl, 0, rfl⟩

set_option maxHeartbeats 2000000 in
theorem bytesEq (va vb : Value) (xs ys : List UInt8) (w : World) (hx : Sees w va xs) (hy : Sees w vb ys) (hl : xs.length ≤ maxLen) (hl2 : ys.length ≤ maxLen) :
    Calls Tryd.prog 24 #[va, vb] w fun e w' => e = .returned (.bool (xs == ys)) ∧ ∃ n, w' = w.drewN n := by
  obtain ⟨a0, c0, rfl, hX⟩ := hx.form
  obtain ⟨a1, c1, rfl, hY⟩ := hy.form
  clear hx hy
  unfold maxLen at hl hl2
  by_cases hne : xs.length = ys.length
  · have HE : Hid (xs.length = ys.length) := hne
    rw [← hne]
    by_cases hpos : 0 < xs.length
    · obtain ⟨g0, o0, rfl, hc0, hx⟩ := hX hpos
      obtain ⟨g1, o1, rfl, hc1, hy⟩ := hY (by omega)
      clear hX hY hne hl2 hc1
      go_enter Tryd.func24, Tryd.ntmps24
      go_wp2
      go_loopw [5] (fun i wr => ∃ k q : Nat, k ≤ xs.length ∧ i = .int .i64 k ∧ wr = w.drewN q ∧ Hid (xs.take k = ys.take k)) (fun i _ => xs.length - (intOf i).toNat)
      case atStart => exact ⟨0, 0, Nat.zero_le _, rfl, rfl, rfl⟩
      case round =>
        obtain ⟨k, q, hk, rfl, rfl, HT⟩ := hrel
        by_cases hlt : k < xs.length
        · have hlt2 : k < ys.length := by have := HE.out; omega
          have cx := hx k hlt
          have cy := hy k (by exact hlt2)
          by_cases hxy : xs[k] = ys[k]
          · have HT2 : Hid (xs.take (k + 1) = ys.take (k + 1)) := take_step xs ys k hlt hlt2 HT.out hxy
            rw [← hxy] at cy
            clear hx hy HT hxy hlt2
            go_wp2_with fail
            go_quiet (fail)
            go_wp2
            go_roundw
            case rel => exact ⟨k + 1, _, by omega, by go_num, rfl, HT2⟩
            case measure => simp [intOf]; omega
          · have HR : Hid ((xs == ys) = false) := beq_ne (fun e => hxy (by simp [e]))
            have hxy2 : (((xs[k]).toNat : Int) == ((ys[k]).toNat : Int)) = false := by
              rw [beq_eq_false_iff_ne]; intro e; exact hxy (UInt8.toNat_inj.1 (by omega))
            clear hx hy HT hxy
            go_wp2_with fail
            go_quiet (fail)
            go_wp2
            go_ret
            exact ⟨by rw [HR.out]; rfl, q + nq, by simp⟩
        · have HR : Hid ((xs == ys) = true) := by
            have h1 := HT.out
            rw [List.take_of_length_le (by omega), List.take_of_length_le (by have := HE.out; omega)] at h1
            rw [h1]; exact beq_self_eq_true _
          clear HT
          go_wp2
          go_ret
          exact ⟨by rw [HR.out]; rfl, _, rfl⟩
    · have hx0 : xs = [] := List.eq_nil_of_length_eq_zero (by omega)
      have hy0 : ys = [] := List.eq_nil_of_length_eq_zero (by omega)
      subst hx0
      subst hy0
      clear hX hY HE hne hl hl2 hpos
      go_enter Tryd.func24, Tryd.ntmps24
      go_wp2
      refine wp_loop_rounds 1 ?_
      rw [rounds_succ]
      go_wp2
      go_ret
      exact ⟨rfl, 0, rfl⟩
  · have HR : Hid ((xs == ys) = false) := beq_ne (fun e => hne (by rw [e]))
    have hne2 : ((xs.length : Int) != (ys.length : Int)) = true := by rw [bne_iff_ne]; omega
    clear hX hY hne
    go_enter Tryd.func24, Tryd.ntmps24
    go_wp2
    go_ret
    exact ⟨by rw [HR.out]; rfl, 0, rfl⟩

/-! ### Clones -/
/-- v' is a clone of v: nil of nil; else a row of its own, in a block that is new. -/
def ClonedI (w w' : World) (v v' : Value) (zs : List Int) : Prop :=
  (v.ownBlock = none ∧ zs = [] ∧ v' = .slice none 0 0 ∧ w' = w) ∨
  (v.ownBlock ≠ none ∧ v' = .slice (some ⟨w.heap.size, 0, none⟩) zs.length zs.length ∧ w'.heap[w.heap.size]? = some (.cells (zs.map (Value.int .i64)).toArray 2 (0, 0)) ∧ Kept (fun _ => False) w w')

theorem infoI64 : (Tryd.prog.info? 2).map (fun i => (i.zero, i.size, i.bytes)) = some (some (.int .i64 0), 1, 8) := by kernel_rfl
theorem sizeI64 : (Tryd.prog.info? 2).map (·.size) = some 1 := by kernel_rfl

theorem splice_all {α : Type} (z : α) (cs : List α) : splice (List.replicate cs.length z) 0 cs = cs := by simp [splice]

set_option maxRecDepth 100000 in
set_option maxHeartbeats 2000000 in
theorem cloneInts (v : Value) (zs : List Int) (w : World) (h : SeesI w v zs) (hl : zs.length ≤ 4398046511104) :
    Calls Tryd.prog 21 #[v] w fun e w' => ∃ v', e = .returned v' ∧ ClonedI w w' v v' zs := by
  obtain ⟨a0, c0, rfl, _, hX⟩ := h.form
  clear h
  have hnil := fun (r : Option Addr) (n c n' c' : Nat) (wx : World) => Lib.run_eql_slice_nil (P := Tryd.prog) wx _ _ r n c n' c' Tryd.underlying42
  have hmk := run_make_row' (P := Tryd.prog) 42 2 (.int .i64 0) 8 Tryd.underlying42 infoI64 rfl .i64 .i64 zs.length (by omega) (by omega)
  cases a0 with
  | none =>
    have hz : zs = [] := by
      rcases Nat.eq_zero_or_pos zs.length with h | h
      · exact List.eq_nil_of_length_eq_zero h
      · obtain ⟨g, o, e, _⟩ := hX h; cases e
    subst hz
    clear hX hmk
    go_enter Tryd.func21, Tryd.ntmps21
    go_wp2
    go_ret
    exact ⟨_, rfl, .inl ⟨rfl, rfl, rfl, rfl⟩⟩
  | some ad =>
    have HX : Hid (0 < zs.length → ∃ g o, some ad = some ⟨g, o, none⟩ ∧ zs.length ≤ c0 ∧ ∀ j (hj : j < zs.length), w.cell? ⟨g, o + j, none⟩ = some (.int .i64 zs[j])) := hX
    clear hX
    go_enter Tryd.func21, Tryd.ntmps21
    have hrow : (w.alloc (.cells (madeCells #[.int .i64 0] zs.length) 2)).heap[w.heap.size]? = some (.cells (List.replicate zs.length (Value.int .i64 0)).toArray 2 (0, 0)) := by
      rw [heap_alloc_new, ← toList_madeCells_one]
    obtain ⟨cs, hcs⟩ : ∃ cs, cs = zs.map (Value.int .i64) := ⟨_, rfl⟩
    have hcl : cs.length = zs.length := by rw [hcs]; simp
    have Hcs : Hid (cs = zs.map (Value.int .i64)) := hcs
    clear hcs
    go_wp2_with (refine wpList_copy_splice rfl (.tmp 9) (.tmp 10) 42 42 rfl 2 Tryd.underlying42 sizeI64 _ _ _ _ _ _ rfl rfl w.heap.size 0 (List.replicate zs.length (.int .i64 0)) 2 hrow cs ?q1 ?q2 ?q3 ?q4 w.heap.size w ?q5 ?q6 ?q7)
    case q1 => simp [hcl]
    case q2 =>
      intro hp
      obtain ⟨g, o, e, hc, hcell⟩ := HX.out (by omega)
      cases e
      intro j u hj
      rw [Hcs.out] at hj
      have hjl : j < zs.length := by
        have := (List.getElem?_eq_some_iff.1 hj).1
        simpa using this
      have hlt : g < w.heap.size := World.block_lt_of_cell? w ⟨g, o + j, none⟩ (hcell j hjl)
      rw [Go.WideShapes.add_plain, World.cell?_alloc_past _ _ _ hlt, hcell j hjl]
      simp [hjl] at hj
      rw [hj]
    case q3 => simp [hcl]
    case q4 =>
      intro u hu
      rw [Hcs.out] at hu
      obtain ⟨z, _, rfl⟩ := List.mem_map.1 hu
      rfl
    case q5 => exact (Below.refl _ _).alloc (Nat.le_refl _) _
    case q6 => exact Nat.le_refl _
    case q7 =>
      intro w' hR hB
      have hR2 : Hid (w'.heap[w.heap.size]? = some (.cells cs.toArray 2 (0, 0))) := by
        have := hR.out
        rw [← hcl, splice_all] at this
        exact this
      clear hR hrow hmk hnil
      go_wp2
      go_ret
      refine ⟨_, rfl, .inr ⟨by simp [Value.ownBlock], rfl, ?_, ?_⟩⟩
      · rw [← Hcs.out]; exact hR2.out
      · exact (Kept.ofBelow hB).mono (fun k hk h => by omega)

/-- v' is a clone of v: nil of nil; else a row of its own, in a block that is new. -/
def ClonedB (w w' : World) (v v' : Value) (zs : List UInt8) : Prop :=
  (v.ownBlock = none ∧ zs = [] ∧ v' = .slice none 0 0 ∧ w' = w) ∨
  (v.ownBlock ≠ none ∧ v' = .slice (some ⟨w.heap.size, 0, none⟩) zs.length zs.length ∧ w'.heap[w.heap.size]? = some (.cells (Lib.byteCells zs).toArray 5 (0, 0)) ∧ Kept (fun _ => False) w w')

theorem infoU8 : (Tryd.prog.info? 5).map (fun i => (i.zero, i.size, i.bytes)) = some (some (.int .u8 0), 1, 1) := by kernel_rfl
theorem sizeU8 : (Tryd.prog.info? 5).map (·.size) = some 1 := by kernel_rfl

set_option maxRecDepth 100000 in
set_option maxHeartbeats 2000000 in
theorem cloneBytes (v : Value) (zs : List UInt8) (w : World) (h : Sees w v zs) (hl : zs.length ≤ 4398046511104) :
    Calls Tryd.prog 20 #[v] w fun e w' => ∃ v', e = .returned v' ∧ ClonedB w w' v v' zs := by
  obtain ⟨a0, c0, rfl, hX⟩ := h.form
  clear h
  have hnil := fun (r : Option Addr) (n c n' c' : Nat) (wx : World) => Lib.run_eql_slice_nil (P := Tryd.prog) wx _ _ r n c n' c' Tryd.underlying26
  have hmk := run_make_row' (P := Tryd.prog) 26 5 (.int .u8 0) 1 Tryd.underlying26 infoU8 rfl .i64 .i64 zs.length (by omega) (by omega)
  cases a0 with
  | none =>
    have hz : zs = [] := by
      rcases Nat.eq_zero_or_pos zs.length with h | h
      · exact List.eq_nil_of_length_eq_zero h
      · obtain ⟨g, o, e, _⟩ := hX h; cases e
    subst hz
    clear hX hmk
    go_enter Tryd.func20, Tryd.ntmps20
    go_wp2
    go_ret
    exact ⟨_, rfl, .inl ⟨rfl, rfl, rfl, rfl⟩⟩
  | some ad =>
    have HX : Hid (0 < zs.length → ∃ g o, some ad = some ⟨g, o, none⟩ ∧ zs.length ≤ c0 ∧ ∀ j (hj : j < zs.length), w.cell? ⟨g, o + j, none⟩ = some (.int .u8 (zs[j]).toNat)) := hX
    clear hX
    go_enter Tryd.func20, Tryd.ntmps20
    have hrow : (w.alloc (.cells (madeCells #[.int .u8 0] zs.length) 5)).heap[w.heap.size]? = some (.cells (List.replicate zs.length (Value.int .u8 0)).toArray 5 (0, 0)) := by
      rw [heap_alloc_new, ← toList_madeCells_one]
    obtain ⟨cs, hcs⟩ : ∃ cs, cs = Lib.byteCells zs := ⟨_, rfl⟩
    have hcl : cs.length = zs.length := by rw [hcs]; exact Lib.byteCells_length zs
    have Hcs : Hid (cs = Lib.byteCells zs) := hcs
    clear hcs
    go_wp2_with (refine wpList_copy_splice rfl (.tmp 9) (.tmp 10) 26 26 rfl 5 Tryd.underlying26 sizeU8 _ _ _ _ _ _ rfl rfl w.heap.size 0 (List.replicate zs.length (.int .u8 0)) 5 hrow cs ?q1 ?q2 ?q3 ?q4 w.heap.size w ?q5 ?q6 ?q7)
    case q1 => simp [hcl]
    case q2 =>
      intro hp
      obtain ⟨g, o, e, hc, hcell⟩ := HX.out (by omega)
      cases e
      intro j u hj
      rw [Hcs.out] at hj
      have hjl : j < zs.length := by
        have := (List.getElem?_eq_some_iff.1 hj).1
        simpa [Lib.byteCells] using this
      have hlt : g < w.heap.size := World.block_lt_of_cell? w ⟨g, o + j, none⟩ (hcell j hjl)
      rw [Go.WideShapes.add_plain, World.cell?_alloc_past _ _ _ hlt, hcell j hjl]
      simp [Lib.byteCells, hjl] at hj
      rw [hj]
    case q3 => simp [hcl]
    case q4 =>
      intro u hu
      rw [Hcs.out] at hu
      obtain ⟨z, _, rfl⟩ := List.mem_map.1 (by simpa [Lib.byteCells] using hu)
      rfl
    case q5 => exact (Below.refl _ _).alloc (Nat.le_refl _) _
    case q6 => exact Nat.le_refl _
    case q7 =>
      intro w' hR hB
      have hR2 : Hid (w'.heap[w.heap.size]? = some (.cells cs.toArray 5 (0, 0))) := by
        have := hR.out
        rw [← hcl, splice_all] at this
        exact this
      clear hR hrow hmk hnil
      go_wp2
      go_ret
      refine ⟨_, rfl, .inr ⟨by simp [Value.ownBlock], rfl, ?_, ?_⟩⟩
      · rw [← Hcs.out]; exact hR2.out
      · exact (Kept.ofBelow hB).mono (fun k hk h => by omega)

end Go.Proofs.Qxb6612988aDoor

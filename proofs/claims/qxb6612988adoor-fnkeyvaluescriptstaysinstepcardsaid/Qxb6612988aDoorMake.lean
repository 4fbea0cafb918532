/-
  WHAT THE LAWS MAKE OF THEIR ARGUMENTS: zzUvarint, zzKeepAll, zzOps, zzCloneRows, by their contracts.
-/
import Derived.Test.Qxb6612988aDoorRes
namespace Go.Proofs.Qxb6612988aDoor
open Go.RowKit

set_option maxHeartbeats 1000000 in
theorem zzUvarint_any (x : Nat) (hx : x < 18446744073709551616) (w : World) :
    Calls Tryd.prog 25 #[.int .u64 x] w fun e w' => ∃ v', e = .returned v' ∧ w'.ownsRow 0 5 1 v' (Lib.uvarint x).length (Lib.byteCells (Lib.uvarint x)) ∧ Kept (fun _ => False) w w' ∧ ∀ j, v'.ownBlock = some j → w.heap.size ≤ j := by
  have hE : Enc (w.alloc (.cells #[.slice none 0 0, .int .i64 0] 28)) w.heap.size (.slice none 0 0) [] := ⟨⟨0, heap_alloc_new _ _⟩, World.ownsRow_nil _ _ _ _⟩
  have hU := enc_uvarint w.heap.size x _ _ _ hE hx (by simp)
  have hpos := Lib.uvarint_pos x
  clear hE
  go_enter Tryd.func25, Tryd.ntmps25
  go_wp2_with fail
  refine hU.mono ?_
  rintro e w1 ⟨rfl, v1, hE1, hK1, hM1⟩
  obtain ⟨t, hb⟩ := hE1.box
  have hc : w1.cell? ⟨w.heap.size, 0, none⟩ = some v1 := by rw [blk_cell hb]; rfl
  have hown := hE1.own
  rw [List.nil_append] at hown
  have HR : Hid (w1.ownsRow 0 5 1 v1 (Lib.uvarint x).length (Lib.byteCells (Lib.uvarint x)) ∧ Kept (fun _ => False) w w1 ∧ ∀ j, v1.ownBlock = some j → w.heap.size ≤ j) := by
    refine ⟨hown, (((Kept.refl (fun j => w.heap.size ≤ j) w).alloc _).trans hK1 ?_).mono (fun k hk h => by omega), fun j hj => ?_⟩
    · rintro i hi (e | e)
      · omega
      · simp [Value.ownBlock] at e
    · rcases hM1 with e | ⟨k, e, hk⟩
      · rw [e] at hj; simp [Value.ownBlock] at hj
      · rw [e] at hj; cases hj; simp at hk; omega
  clear hU hK1 hM1 hE1 hb hown
  go_wp2
  go_ret
  exact ⟨_, rfl, HR.out⟩

/-- A []KL that came in. -/
structure KLArg (w : World) (v : Value) (items : List (ByteArray × List Int)) : Prop where
  form : ∃ ao c, v = .slice ao items.length c ∧ items.length ≤ 1048576 ∧ (0 < items.length → ∃ g o, ao = some ⟨g, o, none⟩ ∧ ∀ j (hj : j < items.length), w.cell? ⟨g, o + j * 2, none⟩ = some (.string (items[j]).1) ∧
    ∃ lv, w.cell? ⟨g, o + j * 2 + 1, none⟩ = some lv ∧ SeesI w lv (items[j]).2 ∧ (∀ i, lv.ownBlock = some i → i < w.heap.size ∨ (items[j]).2 = []))
  ok : ∀ p ∈ items, p.2.length ≤ 1048576 ∧ ∀ z ∈ p.2, I64 z

/-- What is kept once all have been given. -/
def keepAll (most : Int) (items : List (ByteArray × List Int)) : List (ByteArray × List Int) := items.foldl (fun A p => keepM most A p.1 p.2) []
theorem keepAll_snoc (most : Int) (items : List (ByteArray × List Int)) (k : Nat) (h : k < items.length) : keepAll most (items.take (k + 1)) = keepM most (keepAll most (items.take k)) (items[k]).1 (items[k]).2 := by
  unfold keepAll; rw [List.take_succ_eq_append_getElem h, List.foldl_append]; rfl

/-- A clone lies in a row of its own. -/
theorem ClonedI.holds {w w' : World} {v v' : Value} {zs : List Int} (h : ClonedI w w' v v' zs) (hz : ∀ z ∈ zs, I64 z) (hl : zs.length ≤ 1048576) : Holds w' (fun j => w.heap.size ≤ j) v' zs ∧ Kept (fun _ => False) w w' := by
  rcases h with ⟨_, rfl, rfl, rfl⟩ | ⟨_, rfl, hb, hk⟩
  · exact ⟨Holds.nil _ _, Kept.refl _ _⟩
  · refine ⟨⟨.inr ⟨w.heap.size, 0, zs.length, rfl, Nat.le_refl _, fun j hj => ?_⟩, fun j hj => ?_, fun j hj => ?_, hz, hl⟩, hk⟩
    · rw [blk_cell hb]; simp [hj]
    · cases hj; exact ⟨_, hb⟩
    · cases hj; exact Nat.le_refl _

/-- From round to round below B. -/
theorem below_kept {B : Nat} {S : Nat → Prop} {w a b : World} (h : Below B w a) (k : Kept S a b) (hsz : B ≤ w.heap.size) (hS : ∀ j, S j → B ≤ j) : Below B w b := by
  have hs := h.size
  exact h.trans (k.below fun j hj => ⟨by omega, fun f => by have := hS j f; omega⟩)

theorem SeesI.below {w w' : World} {v : Value} {l : List Int} (h : SeesI w v l) (k : Below w.heap.size w w') : SeesI w' v l := by
  rcases h with h | ⟨g, o, c, rfl, hc, hcell⟩
  · exact .inl h
  · exact .inr ⟨g, o, c, rfl, hc, fun j hj => (k.cell (p := ⟨g, o + j, none⟩) (World.block_lt_of_cell? w _ (hcell j hj))).trans (hcell j hj)⟩

set_option maxRecDepth 100000 in
set_option maxHeartbeats 4000000 in
theorem zzKeepAll_any (most : Int) (v : Value) (items : List (ByteArray × List Int)) (w : World) (h : KLArg w v items) :
    Calls Tryd.prog 36 #[.int .i64 most, v] w fun e w' => e = .returned (.pointer (some ⟨w.heap.size, 0, none⟩)) ∧ KL w' w.heap.size most (keepAll most items) (fun j => w.heap.size ≤ j) ∧ Below w.heap.size w w' := by
  obtain ⟨ao, c, rfl, hl, hX⟩ := h.form
  have hok := h.ok
  have HX : Hid (0 < items.length → ∃ g o, ao = some ⟨g, o, none⟩ ∧ ∀ j (hj : j < items.length), w.cell? ⟨g, o + j * 2, none⟩ = some (.string (items[j]).1) ∧
    ∃ lv, w.cell? ⟨g, o + j * 2 + 1, none⟩ = some lv ∧ SeesI w lv (items[j]).2 ∧ (∀ i, lv.ownBlock = some i → i < w.heap.size ∨ (items[j]).2 = [])) := hX
  clear hX h
  go_enter Tryd.func36, Tryd.ntmps36
  go_wp2
  go_loopw [6] (fun i wr => ∃ k : Nat, k ≤ items.length ∧ i = .int .i64 k ∧ KL wr w.heap.size most (keepAll most (items.take k)) (fun j => w.heap.size ≤ j) ∧ Below w.heap.size w wr) (fun i _ => items.length - (intOf i).toNat)
  case atStart => exact ⟨0, Nat.zero_le _, rfl, ⟨none, [], ⟨heap_alloc_new _ _, .inl ⟨rfl, rfl⟩⟩, trivial, Nat.le_refl _, fun j hj => by cases hj⟩, (Below.refl _ _).alloc (Nat.le_refl _) _⟩
  case round =>
    obtain ⟨k, hk, rfl, hKL, hB⟩ := hrel
    by_cases hlt : k < items.length
    · obtain ⟨g, o, ha, hcell⟩ := HX.out (by omega)
      obtain ⟨hc1, lv, hc2, hlv, _⟩ := hcell k hlt
      obtain ⟨ok1, ok2⟩ := hok items[k] (List.getElem_mem hlt)
      have hlt0 : g < w.heap.size := World.block_lt_of_cell? w ⟨g, o + k * 2, none⟩ hc1
      have cx : wr.cell? ⟨g, o + k * 2, none⟩ = some (.string (items[k]).1) := (hB.cell (p := ⟨g, o + k * 2, none⟩) hlt0).trans hc1
      have cy : wr.cell? ⟨g, o + k * 2 + 1, none⟩ = some lv := (hB.cell (p := ⟨g, o + k * 2 + 1, none⟩) hlt0).trans hc2
      have hlv' : SeesI wr lv (items[k]).2 := hlv.below hB
      obtain ⟨lao, lc, elv, _, _⟩ := hlv'.form
      have hCl : ∀ q, Calls Tryd.prog 21 #[lv] (wr.drewN q) fun e w' => ∃ v', e = .returned v' ∧ ClonedI (wr.drewN q) w' lv v' (items[k]).2 := fun q => cloneInts lv _ _ (hlv'.drewN q) (by omega)
      have HS := keepAll_snoc most items k hlt
      have HSS : Hid (keepAll most (items.take (k + 1)) = keepM most (keepAll most (items.take k)) (items[k]).1 (items[k]).2) := HS
      clear HS hcell hc1 hc2 hlv
      subst ha
      generalize (items[k]).1 = key at *
      generalize hzs : (items[k]).2 = zs at *
      clear hzs
      subst elv
      go_wp2_with fail
      go_region_with (first | (go_at_call 21; refine (hCl 1).mono ?_; rintro e w1 ⟨v', rfl, hcl⟩; have hq := hcl.holds ok2 ok1; have cx1 := (hq.2.cell (p := ⟨g, o + k * 2, none⟩) (by exact cx) (fun f => f))) | (go_at_call 22; refine (keep_KL w.heap.size most (keepAll most (items.take k)) (fun j => w.heap.size ≤ j) key v' zs _ (by exact (hKL.drewN 1).kept hq.2 (fun _ _ f => f)) (by exact hq.1.mono (fun j _ hj => by have := hB.size; simp at hj; omega))).mono ?_; rintro e w2 ⟨rfl, hKL2, hK2⟩))
      all_goals
        have hs1 := hq.2.size
        have hs0 := hB.size
        have hB2 : Below w.heap.size w w2 := below_kept (below_kept (below_drewN hB 1) hq.2 (Nat.le_refl _) (fun _ f => f.elim)) hK2 (Nat.le_refl _) (fun j hj => hj)
        have hKL3 : KL w2 w.heap.size most (keepAll most (items.take (k + 1))) (fun j => w.heap.size ≤ j) := by
          rw [HSS.out]
          exact hKL2.mono (fun j _ hj => by simp at hs1; rcases hj with hj | hj <;> omega)
        clear hCl hq hcl hKL2 hK2 cx1 cx cy hKL hB HSS hlv'
        go_wp2
        go_roundw
        case rel => exact ⟨k + 1, by omega, by go_num, hKL3, hB2⟩
        case measure => simp [intOf]; omega
    · obtain rfl : k = items.length := by omega
      rw [List.take_length] at hKL
      go_wp2
      go_ret
      exact ⟨rfl, hKL, hB⟩

end Go.Proofs.Qxb6612988aDoor

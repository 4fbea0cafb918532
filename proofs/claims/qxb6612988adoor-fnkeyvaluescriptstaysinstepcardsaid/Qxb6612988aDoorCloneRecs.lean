/-
  zzCloneRecs, by its contract.
-/
import Derived.Test.Qxb6612988aDoorSizeS
import Derived.Test.Qxb6612988aDoorLawVA
namespace Go.Proofs.Qxb6612988aDoor
open Go.RowKit

theorem infoRec : (Tryd.prog.info? 65).map (fun i => (i.zero, i.size, i.bytes)) = some (some (.agg #[.string ⟨#[]⟩, .slice none 0 0, .bool false]), 3, 48) := by kernel_rfl

/-- The records that lie in block b, the first k of n; their lists own their rows, each in a block of its own. -/
structure Recs (w : World) (b n k : Nat) (L : Nat → Value) (rs : List RecV) : Prop where
  row : ∃ cur : Array Value, w.heap[b]? = some (.cells cur 65 (0, 0)) ∧ cur.size = n * 3 ∧ ∀ j (hj : j < rs.length), j < k → cur[j * 3]? = some (.string (rs[j]).key) ∧ cur[j * 3 + 1]? = some (L j) ∧ cur[j * 3 + 2]? = some (.bool (rs[j]).keep)
  own : ∀ j (hj : j < rs.length), j < k → Own w (L j) (rs[j]).l
  new : ∀ j a, j < k → (L j).ownBlock = some a → b < a ∧ a < w.heap.size
  inc : ∀ i j a a', i < j → j < k → (L i).ownBlock = some a → (L j).ownBlock = some a' → a < a'

theorem Recs.kept {w w' : World} {S : Nat → Prop} {b n k : Nat} {L : Nat → Value} {rs : List RecV} (h : Recs w b n k L rs) (hk : Kept S w w') (h1 : ¬ S b) (h2 : ∀ j a, j < rs.length → j < k → (L j).ownBlock = some a → ¬ S a) : Recs w' b n k L rs where
  row := by obtain ⟨cur, hb, r⟩ := h.row; exact ⟨cur, hk.here hb h1, r⟩
  own := fun j hj hjk => (h.own j hj hjk).kept hk (fun a ha => h2 j a hj hjk ha)
  new := fun j a hj ha => ⟨(h.new j a hj ha).1, Nat.lt_of_lt_of_le (h.new j a hj ha).2 hk.size⟩
  inc := h.inc

theorem Recs.cells {w : World} {b n k : Nat} {L : Nat → Value} {rs : List RecV} (h : Recs w b n k L rs) (i : Nat) (hi : i < n * 3) : (∃ x, w.cell? ⟨b, i, none⟩ = some x) ∧ w.frozen? ⟨b, i, none⟩ = false := by
  obtain ⟨cur, hb, hs, _⟩ := h.row
  exact ⟨⟨cur[i], by rw [blk_cell hb]; simp [hs, hi]⟩, blk_frozen hb i⟩

theorem Recs.at {w : World} {b n k : Nat} {L : Nat → Value} {rs : List RecV} (h : Recs w b n k L rs) (j : Nat) (hj : j < rs.length) (hjk : j < k) : w.cell? ⟨b, j * 3, none⟩ = some (.string (rs[j]).key) ∧ w.cell? ⟨b, j * 3 + 1, none⟩ = some (L j) ∧ w.cell? ⟨b, j * 3 + 2, none⟩ = some (.bool (rs[j]).keep) := by
  obtain ⟨cur, hb, hs, hc⟩ := h.row
  rw [blk_cell hb, blk_cell hb, blk_cell hb]
  exact hc j hj hjk

theorem Recs.step {w : World} {b n k : Nat} {L : Nat → Value} {rs : List RecV} (h : Recs w b n k L rs) (hk : k < n) (hko : k < rs.length) {v : Value} (hv : Own w v (rs[k]).l) (hnew : ∀ a, v.ownBlock = some a → b < a ∧ a < w.heap.size ∧ ∀ j a', j < k → (L j).ownBlock = some a' → a' < a) :
    ∃ L', Recs (((w.setCell ⟨b, k * 3, none⟩ (.string (rs[k]).key)).setCell ⟨b, k * 3 + 1, none⟩ v).setCell ⟨b, k * 3 + 2, none⟩ (.bool (rs[k]).keep)) b n (k + 1) L' rs := by
  obtain ⟨cur, hb, hs, hc⟩ := h.row
  have hK : Kept (fun j => j = b) w (((w.setCell ⟨b, k * 3, none⟩ (.string (rs[k]).key)).setCell ⟨b, k * 3 + 1, none⟩ v).setCell ⟨b, k * 3 + 2, none⟩ (.bool (rs[k]).keep)) :=
    (((Kept.refl (fun j => j = b) w).setCell (p := ⟨b, k * 3, none⟩) (fun _ => rfl) _).setCell (p := ⟨b, k * 3 + 1, none⟩) (fun _ => rfl) _).setCell (p := ⟨b, k * 3 + 2, none⟩) (fun _ => rfl) _
  refine ⟨fun j => if j = k then v else L j, ⟨⟨_, blk_set (blk_set (blk_set hb _ _) _ _) _ _, by simp [hs], fun j hj hjk => ?_⟩, fun j hj hjk => ?_, fun j a hj ha => ?_, fun i j a a' hij hj ha ha' => ?_⟩⟩
  · simp only [Array.getElem?_setIfInBounds, Array.size_setIfInBounds]
    by_cases e : j = k
    · subst e
      rw [if_neg (by omega), if_neg (by omega), if_pos rfl, if_pos (by omega), if_neg (by omega), if_pos rfl, if_pos (by omega), if_pos rfl, if_pos (by omega), if_pos (by omega)]
      exact ⟨rfl, rfl, rfl⟩
    · rw [if_neg (by omega), if_neg (by omega), if_neg (by omega), if_neg (by omega), if_neg (by omega), if_neg (by omega), if_neg (by omega), if_neg (by omega), if_neg (by omega), if_neg (by omega)]
      exact hc j hj (by omega)
  · by_cases e : j = k
    · subst e
      rw [if_pos rfl]
      exact hv.kept hK (fun a ha e => by have := (hnew a ha).1; omega)
    · rw [if_neg e]
      exact (h.own j hj (by omega)).kept hK (fun a ha e => by have := (h.new j a (by omega) ha).1; omega)
  · have hsz : w.heap.size ≤ (((w.setCell ⟨b, k * 3, none⟩ (.string (rs[k]).key)).setCell ⟨b, k * 3 + 1, none⟩ v).setCell ⟨b, k * 3 + 2, none⟩ (.bool (rs[k]).keep)).heap.size := hK.size
    by_cases e : j = k
    · subst e
      rw [if_pos rfl] at ha
      have := hnew a ha
      exact ⟨this.1, by omega⟩
    · rw [if_neg e] at ha
      have := h.new j a (by omega) ha
      exact ⟨this.1, by omega⟩
  · rw [if_neg (by omega)] at ha
    by_cases e : j = k
    · subst e
      rw [if_pos rfl] at ha'
      exact (hnew a' ha').2.2 i a hij ha
    · rw [if_neg e] at ha'
      exact h.inc i j a a' hij (by omega) ha ha'

set_option maxRecDepth 100000 in
set_option maxHeartbeats 8000000 in
theorem zzCloneRecs_some (g o c : Nat) (rs : List RecV) (w : World) (hl : rs.length ≤ 1048576) (hcell : ∀ j (hj : j < rs.length), w.cell? ⟨g, o + j * 3, none⟩ = some (.string (rs[j]).key) ∧ (∃ lv, w.cell? ⟨g, o + j * 3 + 1, none⟩ = some lv ∧ SeesI w lv (rs[j]).l) ∧ w.cell? ⟨g, o + j * 3 + 2, none⟩ = some (.bool (rs[j]).keep))
    (hok : ∀ p ∈ rs, p.l.length ≤ 1048576) (hpos : 0 < rs.length) :
    Calls Tryd.prog 31 #[.slice (some ⟨g, o, none⟩) rs.length c] w fun e w' => e = .returned (.slice (some ⟨w.heap.size, 0, none⟩) rs.length rs.length) ∧ (∃ L, Recs w' w.heap.size rs.length rs.length L rs) ∧ Below w.heap.size w w' := by
  have hnil := fun (r : Option Addr) (n c n' c' : Nat) (wx : World) => Lib.run_eql_slice_nil (P := Tryd.prog) wx _ _ r n c n' c' Tryd.underlying60
  obtain ⟨i0, hi, hz0, hz1, hz2⟩ := info_parts infoRec
  have HC : Hid (∀ j (hj : j < rs.length), w.cell? ⟨g, o + j * 3, none⟩ = some (.string (rs[j]).key) ∧ (∃ lv, w.cell? ⟨g, o + j * 3 + 1, none⟩ = some lv ∧ SeesI w lv (rs[j]).l) ∧ w.cell? ⟨g, o + j * 3 + 2, none⟩ = some (.bool (rs[j]).keep)) := hcell
  clear hcell
  go_enter Tryd.func31, Tryd.ntmps31
  go_wp2_with (refine wpList_make_full _ rfl (.tmp 8) (.tmp 8) 60 rfl 0 65 i0 (.agg #[.string ⟨#[]⟩, .slice none 0 0, .bool false]) 3 Tryd.underlying60 hi hz0 hz1 .i64 .i64 _ _ rs.length rfl rfl rfl rfl ?q1 ?q2 ?q3 ?q4)
  case q1 => rw [hz2]; omega
  case q2 => unfold maxLen; omega
  case q3 => exact Nat.zero_le _
  case q4 =>
    intro w1 hown hgr
    have hrow : ∃ L, Recs w1 w.heap.size rs.length 0 L rs := by
      rcases hown.2 with ⟨e, _⟩ | ⟨g', cap, cur, e, _, hb, _, _, hs, _⟩
      · cases e
      · cases e; exact ⟨fun _ => .slice none 0 0, ⟨cur, hb, hs, fun j _ hj => by omega⟩, fun j _ hj => by omega, fun j a hj => by omega, fun i j a a' _ hj => by omega⟩
    have hB1 : Below w.heap.size w w1 := (Below.refl _ _).grown hgr (Nat.le_refl _) (fun k h => by cases h)
    clear hown hgr hnil
    go_wp2
    go_loopw [4] (fun i wr => ∃ k : Nat, k ≤ rs.length ∧ i = .int .i64 k ∧ (∃ L, Recs wr w.heap.size rs.length k L rs) ∧ Below w.heap.size w wr) (fun i _ => rs.length - (intOf i).toNat)
    case atStart => exact ⟨0, Nat.zero_le _, rfl, hrow, hB1⟩
    case round =>
      clear hrow hB1
      obtain ⟨k, hk, rfl, ⟨L, hrow⟩, hB⟩ := hrel
      by_cases hlt : k < rs.length
      · obtain ⟨h1, ⟨lv, h2, hlv⟩, h3⟩ := HC.out k hlt
        have ok1 := hok rs[k] (List.getElem_mem hlt)
        have hlt0 : g < w.heap.size := World.block_lt_of_cell? w ⟨g, o + k * 3, none⟩ h1
        have c1 := (hB.cell (p := ⟨g, o + k * 3, none⟩) hlt0).trans h1
        have c2 := (hB.cell (p := ⟨g, o + k * 3 + 1, none⟩) hlt0).trans h2
        have c3 := (hB.cell (p := ⟨g, o + k * 3 + 2, none⟩) hlt0).trans h3
        have hlv' : SeesI wr lv (rs[k]).l := hlv.below hB
        obtain ⟨lao, lc, elv, _, _⟩ := hlv'.form
        have hCl : ∀ q, Calls Tryd.prog 21 #[lv] (wr.drewN q) fun e w' => ∃ v', e = .returned v' ∧ ClonedI (wr.drewN q) w' lv v' (rs[k]).l := fun q => cloneInts lv _ _ (hlv'.drewN q) (by omega)
        -- what stands behind the store
        have fin : ∀ (w1 : World) (v' : Value), ClonedI (wr.drewN 1) w1 lv v' (rs[k]).l → (∃ L', Recs (((w1.setCell ⟨w.heap.size, k * 3, none⟩ (.string (rs[k]).key)).setCell ⟨w.heap.size, k * 3 + 1, none⟩ v').setCell ⟨w.heap.size, k * 3 + 2, none⟩ (.bool (rs[k]).keep)) w.heap.size rs.length (k + 1) L' rs)
            ∧ Below w.heap.size w (((w1.setCell ⟨w.heap.size, k * 3, none⟩ (.string (rs[k]).key)).setCell ⟨w.heap.size, k * 3 + 1, none⟩ v').setCell ⟨w.heap.size, k * 3 + 2, none⟩ (.bool (rs[k]).keep)) := by
          intro w1 v' hcl
          obtain ⟨ow, kw, bw, _⟩ := hcl.owns ok1
          have kw' : Kept (fun _ => False) wr w1 := ((Kept.refl _ _).drewN 1).trans kw (fun _ _ f => f)
          have hsz := hB.size
          refine ⟨(hrow.kept kw' (fun f => f) (fun _ _ _ _ _ f => f)).step hlt hlt ow (fun a ha => ?_), ((((below_kept hB kw' (Nat.le_refl _) (fun _ f => f.elim)).setCell (p := ⟨w.heap.size, k * 3, none⟩) (Nat.le_refl _) _).setCell (p := ⟨w.heap.size, k * 3 + 1, none⟩) (Nat.le_refl _) _).setCell (p := ⟨w.heap.size, k * 3 + 2, none⟩) (Nat.le_refl _) _)⟩
          have hb := bw a ha
          have hs : (wr.drewN 1).heap.size = wr.heap.size := rfl
          obtain ⟨cur, hbk, _⟩ := hrow.row
          have := lt_of_block hbk
          refine ⟨by omega, hb.2, fun j a' hj ha' => ?_⟩
          have := (hrow.new j a' hj ha').2
          omega
        have HFIN : Hid (∀ (w1 : World) (v' : Value), ClonedI (wr.drewN 1) w1 lv v' (rs[k]).l → (∃ L', Recs (((w1.setCell ⟨w.heap.size, k * 3, none⟩ (.string (rs[k]).key)).setCell ⟨w.heap.size, k * 3 + 1, none⟩ v').setCell ⟨w.heap.size, k * 3 + 2, none⟩ (.bool (rs[k]).keep)) w.heap.size rs.length (k + 1) L' rs)
            ∧ Below w.heap.size w (((w1.setCell ⟨w.heap.size, k * 3, none⟩ (.string (rs[k]).key)).setCell ⟨w.heap.size, k * 3 + 1, none⟩ v').setCell ⟨w.heap.size, k * 3 + 2, none⟩ (.bool (rs[k]).keep))) := fin
        have HDC : Hid (∀ w1, Kept (fun _ => False) (wr.drewN 1) w1 → ∀ i, i < rs.length * 3 → (∃ x, w1.cell? ⟨w.heap.size, i, none⟩ = some x) ∧ w1.frozen? ⟨w.heap.size, i, none⟩ = false) := fun w1 kw i hi =>
          (hrow.kept (((Kept.refl (fun _ => False) wr).drewN 1).trans kw (fun _ _ f => f)) (fun f => f) (fun _ _ _ _ _ f => f)).cells i hi
        clear fin h1 h2 h3 hlv hlv' hrow hB
        generalize (rs[k]).key = ky at *
        generalize (rs[k]).l = zs at *
        generalize (rs[k]).keep = kp at *
        subst elv
        go_wp2_with fail
        go_region_with (go_at_call 21; refine (hCl 1).mono ?_; rintro e w1 ⟨v', rfl, hcl⟩; obtain ⟨ow, kw, bw, va, vc, ev⟩ := hcl.owns ok1; have FN := HFIN.out w1 v' hcl; clear hcl ow bw; subst ev; have c1' := (kw.cell (p := ⟨g, o + k * 3, none⟩) (by exact c1) (fun f => f)); have c3' := (kw.cell (p := ⟨g, o + k * 3 + 2, none⟩) (by exact c3) (fun f => f)); obtain ⟨⟨x1, d1⟩, f1⟩ := HDC.out w1 kw (k * 3) (by omega); obtain ⟨⟨x2, d2⟩, f2⟩ := HDC.out w1 kw (k * 3 + 1) (by omega); obtain ⟨⟨x3, d3⟩, f3⟩ := HDC.out w1 kw (k * 3 + 2) (by omega); clear kw)
        all_goals
          have FN' : Hid _ := FN
          clear FN c1 c2 c3 c1' c3' d1 d2 d3 f1 f2 f3
          go_wp2
          go_roundw
          case rel => exact ⟨k + 1, by omega, by go_num, FN'.out.1, FN'.out.2⟩
          case measure => simp [intOf]; omega
      · obtain rfl : k = rs.length := by omega
        go_wp2
        go_ret
        exact ⟨rfl, ⟨L, hrow⟩, hB⟩

set_option maxRecDepth 100000 in
set_option maxHeartbeats 2000000 in
theorem zzCloneRecs_nil (w : World) : Calls Tryd.prog 31 #[.slice none 0 0] w fun e w' => e = .returned (.slice none 0 0) ∧ w' = w := by
  have hnil := fun (r : Option Addr) (n c n' c' : Nat) (wx : World) => Lib.run_eql_slice_nil (P := Tryd.prog) wx _ _ r n c n' c' Tryd.underlying60
  go_enter Tryd.func31, Tryd.ntmps31
  go_wp2
  go_ret
  exact ⟨rfl, rfl⟩

set_option maxRecDepth 100000 in
set_option maxHeartbeats 2000000 in
theorem zzCloneRecs_empty (a : Addr) (c : Nat) (w : World) : Calls Tryd.prog 31 #[.slice (some a) 0 c] w fun e w' => e = .returned (.slice (some ⟨w.heap.size, 0, none⟩) 0 0) ∧ Below w.heap.size w w' ∧ w.heap.size < w'.heap.size := by
  have hnil := fun (r : Option Addr) (n c n' c' : Nat) (wx : World) => Lib.run_eql_slice_nil (P := Tryd.prog) wx _ _ r n c n' c' Tryd.underlying60
  obtain ⟨i0, hi, hz0, hz1, hz2⟩ := info_parts infoRec
  go_enter Tryd.func31, Tryd.ntmps31
  go_wp2_with (refine wpList_make_full _ rfl (.tmp 8) (.tmp 8) 60 rfl 0 65 i0 (.agg #[.string ⟨#[]⟩, .slice none 0 0, .bool false]) 3 Tryd.underlying60 hi hz0 hz1 .i64 .i64 _ _ 0 rfl rfl rfl rfl ?q1 ?q2 ?q3 ?q4)
  case q1 => omega
  case q2 => unfold maxLen; omega
  case q3 => exact Nat.zero_le _
  case q4 =>
    intro w1 hown hgr
    have hB1 : Below w.heap.size w w1 := (Below.refl _ _).grown hgr (Nat.le_refl _) (fun k h => by cases h)
    have hlt := (hown.lt w.heap.size rfl).2
    clear hown hgr hnil
    go_wp2
    refine wp_loop_rounds 1 ?_
    rw [rounds_succ]
    go_wp2
    go_ret
    exact ⟨rfl, hB1, hlt⟩

/-- A []Rec of the law's own: nothing, or a row of records from b on. -/
def RecsAt (w : World) (B : Nat) (v : Value) (rs : List RecV) : Prop := ∃ ao c, v = .slice ao rs.length c ∧ (ao = none → c = 0) ∧ (0 < rs.length → ∃ b L, ao = some ⟨b, 0, none⟩ ∧ B ≤ b ∧ Recs w b rs.length rs.length L rs)

theorem zzCloneRecs_any (v : Value) (rs : List RecV) (w : World) (h : ∃ ao c, v = .slice ao rs.length c ∧ (ao = none → c = 0) ∧ (0 < rs.length → ∃ g o, ao = some ⟨g, o, none⟩ ∧ ∀ j (hj : j < rs.length), w.cell? ⟨g, o + j * 3, none⟩ = some (.string (rs[j]).key) ∧
    (∃ lv, w.cell? ⟨g, o + j * 3 + 1, none⟩ = some lv ∧ SeesI w lv (rs[j]).l) ∧ w.cell? ⟨g, o + j * 3 + 2, none⟩ = some (.bool (rs[j]).keep))) (hl : rs.length ≤ 1048576) (hok : ∀ p ∈ rs, p.l.length ≤ 1048576) :
    Calls Tryd.prog 31 #[v] w fun e w' => ∃ v', e = .returned v' ∧ RecsAt w' w.heap.size v' rs ∧ Below w.heap.size w w' := by
  obtain ⟨ao, c, rfl, hn, hX⟩ := h
  rcases Nat.eq_zero_or_pos rs.length with h0 | h0
  · have e0 : rs = [] := List.eq_nil_of_length_eq_zero h0
    subst e0
    cases ao with
    | none =>
      rw [hn rfl]
      refine (zzCloneRecs_nil w).mono ?_
      rintro e w' ⟨rfl, rfl⟩
      exact ⟨_, rfl, ⟨none, 0, rfl, (fun _ => rfl), fun h => by simp at h⟩, Below.refl _ _⟩
    | some a =>
      refine (zzCloneRecs_empty a c w).mono ?_
      rintro e w' ⟨rfl, hB, hlt⟩
      exact ⟨_, rfl, ⟨_, 0, rfl, (fun h => by cases h), fun h => by simp at h⟩, hB⟩
  · obtain ⟨g, o, rfl, hc⟩ := hX h0
    refine (zzCloneRecs_some g o c rs w hl hc hok h0).mono ?_
    rintro e w' ⟨rfl, ⟨L, hr⟩, hB⟩
    exact ⟨_, rfl, ⟨_, _, rfl, (fun h => by cases h), fun _ => ⟨_, L, rfl, Nat.le_refl _, hr⟩⟩, hB⟩

theorem RecsAt.arg {w : World} {B : Nat} {v : Value} {rs : List RecV} (h : RecsAt w B v rs) : ∃ ao c, v = .slice ao rs.length c ∧ (ao = none → c = 0) ∧ (0 < rs.length → ∃ g o, ao = some ⟨g, o, none⟩ ∧ ∀ j (hj : j < rs.length), w.cell? ⟨g, o + j * 3, none⟩ = some (.string (rs[j]).key) ∧
    (∃ lv, w.cell? ⟨g, o + j * 3 + 1, none⟩ = some lv ∧ SeesI w lv (rs[j]).l) ∧ w.cell? ⟨g, o + j * 3 + 2, none⟩ = some (.bool (rs[j]).keep)) := by
  obtain ⟨ao, c, e, hn, hX⟩ := h
  refine ⟨ao, c, e, hn, fun h0 => ?_⟩
  obtain ⟨b, L, ea, _, hr⟩ := hX h0
  refine ⟨b, 0, ea, fun j hj => ?_⟩
  obtain ⟨h1, h2, h3⟩ := hr.at j hj hj
  rw [Nat.zero_add]
  exact ⟨h1, ⟨_, h2, (hr.own j hj hj).sees⟩, h3⟩

end Go.Proofs.Qxb6612988aDoor

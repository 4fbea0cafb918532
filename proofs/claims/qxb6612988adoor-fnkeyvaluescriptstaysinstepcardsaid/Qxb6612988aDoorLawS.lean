/-
  FnKeyValueScriptStaysInStep: the walk.
-/
import Derived.Test.Qxb6612988aDoorScriptC
namespace Go.Proofs.Qxb6612988aDoor
open Go.RowKit

theorem RecRaw.below {w w' : World} {v : Value} {rs : List RecV} (h : RecRaw w v rs) (k : Below w.heap.size w w') : RecRaw w' v rs := by
  obtain ⟨ao, c, e, hn, hl, hX⟩ := h.form
  refine ⟨⟨ao, c, e, hn, hl, fun h0 => ?_⟩, h.ok⟩
  obtain ⟨g, o, ea, hc⟩ := hX h0
  refine ⟨g, o, ea, fun j hj => ?_⟩
  obtain ⟨h1, ⟨lv, h2, h3⟩, h4⟩ := hc j hj
  have hlt := World.block_lt_of_cell? w ⟨g, o + j * 3, none⟩ h1
  exact ⟨(k.cell (p := ⟨g, o + j * 3, none⟩) hlt).trans h1, ⟨lv, (k.cell (p := ⟨g, o + j * 3 + 1, none⟩) hlt).trans h2, h3.below k⟩, (k.cell (p := ⟨g, o + j * 3 + 2, none⟩) hlt).trans h4⟩

/-- The records of the law's own, whether there are any or not. -/
theorem RecsAt.pick {w : World} {B : Nat} {v : Value} {rs : List RecV} (h : RecsAt w B v rs) : ∃ ao c b L, v = .slice ao rs.length c ∧ (0 < rs.length → ao = some ⟨b, 0, none⟩ ∧ B ≤ b ∧ Recs w b rs.length rs.length L rs) := by
  obtain ⟨ao, c, e, _, hX⟩ := h
  by_cases h0 : 0 < rs.length
  · obtain ⟨b, L, h1, h2, h3⟩ := hX h0
    exact ⟨ao, c, b, L, e, fun _ => ⟨h1, h2, h3⟩⟩
  · exact ⟨ao, c, 0, fun _ => .slice none 0 0, e, fun h => absurd h h0⟩

theorem Recs.below {w w' : World} {b n k : Nat} {L : Nat → Value} {rs : List RecV} (h : Recs w b n k L rs) (hk : Below w.heap.size w w') : Recs w' b n k L rs := by
  refine h.kept (Kept.ofBelow hk) ?_ (fun j a _ hjk ha => ?_)
  · obtain ⟨cur, hb, _⟩ := h.row
    have := lt_of_block hb
    omega
  · have := (h.new j a hjk ha).2
    omega

/-- A slice of bytes, cut in two. -/
theorem Sees.cut {w : World} {g o n c : Nat} {K T : List UInt8} (h : Sees w (.slice (some ⟨g, o, none⟩) n c) (K ++ T)) (hn : n = K.length + T.length) (hc : n ≤ c) : Sees w (.slice (some ⟨g, o, none⟩) K.length c) K ∧ Sees w (.slice (some ⟨g, o + K.length, none⟩) T.length (c - K.length)) T := by
  have hcell : ∀ j (hj : j < (K ++ T).length), w.cell? ⟨g, o + j, none⟩ = some (.int .u8 ((K ++ T)[j]).toNat) := by
    rcases h with ⟨e, _⟩ | ⟨g', o', c', e, _, hcell⟩
    · intro j hj; rw [e] at hj; simp at hj
    · simp only [Value.slice.injEq, Option.some.injEq, Addr.mk.injEq] at e
      obtain ⟨⟨rfl, rfl, _⟩, _, rfl⟩ := e
      exact hcell
  refine ⟨.inr ⟨g, o, c, rfl, by omega, fun j hj => ?_⟩, .inr ⟨g, o + K.length, c - K.length, rfl, by omega, fun j hj => ?_⟩⟩
  · rw [hcell j (by rw [List.length_append]; omega), List.getElem_append_left hj]
  · rw [Nat.add_assoc, hcell (K.length + j) (by rw [List.length_append]; omega), List.getElem_append_right (by omega)]
    simp

set_option maxRecDepth 100000 in
set_option maxHeartbeats 16000000 in
theorem script_walk (most : Int) (rv : Value) (rs : List RecV) (w : World) (hR : RecRaw w rv rs) :
    Calls Tryd.prog 6 #[.int .i64 most, rv] w fun e w' => e = .returned (.bool true) ∧ Below w.heap.size w w' := by
  obtain ⟨ra, rc, er⟩ : ∃ a c, rv = .slice a rs.length c := by obtain ⟨a, c, e, _⟩ := hR.form; exact ⟨a, c, e⟩
  have hT := zzBytesS most rv rs w hR
  have hTB := fun (h0 : rs.length ≤ 1048576) (h1 : ∀ p ∈ rs, p.key.size ≤ 1048576 ∧ p.l.length ≤ 1048576) => recsTooBig rv rs w hR h0 h1
  subst er
  go_enter Tryd.func6, Tryd.ntmps6
  go_wp2_with fail
  refine hT.mono ?_
  rintro e w1 ⟨⟨b, rfl, hb⟩, hw⟩
  replace hw := hw.symm
  subst hw
  clear hT
  cases b with
  | false =>
    clear hb hTB
    go_wp2
    go_ret
    exact ⟨rfl, Below.refl _ _⟩
  | true =>
  replace hb := hb rfl
  have hsz : ∀ p ∈ rs, p.key.size ≤ 1048576 ∧ p.l.length ≤ 1048576 := fun p hp => by have := sumR_mem hp; omega
  replace hTB := hTB (by omega) hsz
  have HSZ : Hid (∀ p ∈ rs, p.key.size ≤ 1048576 ∧ p.l.length ≤ 1048576) := hsz
  have HI : Hid (∀ p ∈ rs, ∀ z ∈ p.l, I64 z) := fun p hp => (hR.ok p hp).2.2
  clear hsz
  go_wp2_with fail
  refine hTB.mono ?_
  rintro e w1 ⟨⟨b, rfl⟩, n0, hw⟩
  clear hTB
  cases b with
  | true =>
    clear hb
    go_wp2
    go_ret
    exact ⟨rfl, below_drewN (Below.refl _ _) _⟩
  | false =>
  have hB0 : Below w.heap.size w w1 := by rw [hw]; exact below_drewN (Below.refl _ _) _
  have hsz0 : w.heap.size = w1.heap.size := by rw [hw]; rfl
  have hR1 := hR.below hB0
  clear hw hR
  have hC : Calls _ _ _ _ _ := zzCloneRecs_any _ rs w1 (by obtain ⟨ao, c, e, hn, _, hX⟩ := hR1.form; exact ⟨ao, c, e, hn, hX⟩) (by omega) (fun p hp => (HSZ.out p hp).2)
  clear hR1
  go_wp2_with fail
  refine hC.mono ?_
  rintro e w2 ⟨v2, rfl, hR2, hB2⟩
  clear hC
  have hC : Calls _ _ _ _ _ := zzCloneRecs_any _ rs w2 hR2.arg (by omega) (fun p hp => (HSZ.out p hp).2)
  obtain ⟨a2, c2, b1, L1, e2, hr2⟩ := hR2.pick
  subst e2
  clear hR2
  go_wp2_with fail
  refine hC.mono ?_
  rintro e w3 ⟨v3, rfl, hR3, hB3⟩
  clear hC
  obtain ⟨a3, c3, b2, L2, e3, hr3⟩ := hR3.pick
  subst e3
  clear hR3
  have s12 := hB2.size
  have s23 := hB3.size
  have hB13 : Below w.heap.size w w3 := hB0.trans ((hB2.trans (hB3.mono s12)).mono (Nat.le_of_eq hsz0))
  -- the boxes
  obtain ⟨W, eW⟩ : ∃ W, W = ((w3.alloc (.cells #[.int .i64 most, .map none] 50)).alloc (.cells #[.int .i64 most, .map none] 50)).alloc (.cells #[.slice none 0 0, .int .i64 0] 28) := ⟨_, rfl⟩
  have kW : Kept (fun _ => False) w3 W := by rw [eW]; exact (((Kept.refl _ _).alloc _).alloc _).alloc _
  have kl1 : KLs W w3.heap.size none most [] := ⟨by rw [eW, Below.heap_alloc _ _ _ (by simp; omega), Below.heap_alloc _ _ _ (by simp)]; exact heap_alloc_new _ _, .inl ⟨rfl, rfl⟩⟩
  have kl2 : KLs W (w3.heap.size + 1) none most [] := by
    refine ⟨?_, .inl ⟨rfl, rfl⟩⟩
    have h := heap_alloc_new (w3.alloc (.cells #[.int .i64 most, .map none] 50)) (.cells #[.int .i64 most, .map none] 50)
    rw [show (w3.alloc (.cells #[.int .i64 most, .map none] 50)).heap.size = w3.heap.size + 1 by simp] at h
    rw [eW, Below.heap_alloc _ _ _ (by simp)]; exact h
  have hE : Enc W (w3.heap.size + 2) (.slice none 0 0) [] := by
    refine ⟨⟨0, ?_⟩, World.ownsRow_nil _ _ _ _⟩
    have h := heap_alloc_new ((w3.alloc (.cells #[.int .i64 most, .map none] 50)).alloc (.cells #[.int .i64 most, .map none] 50)) (.cells #[.slice none 0 0, .int .i64 0] 28)
    rw [show ((w3.alloc (.cells #[.int .i64 most, .map none] 50)).alloc (.cells #[.int .i64 most, .map none] 50)).heap.size = w3.heap.size + 2 by simp] at h
    rw [eW]; exact h
  have st0 : S1 w w.heap.size rs most (w3.heap.size + 2) w3.heap.size (w3.heap.size + 1) b1 b2 L1 L2 W 0 (.slice none 0 0) none [] := by
    refine ⟨hE, kl1, trivial, kl2, fun h0 => ((hr2 h0).2.2.below hB3).kept kW (fun f => f) (fun _ _ _ _ _ f => f), fun h0 => (hr3 h0).2.2.kept kW (fun f => f) (fun _ _ _ _ _ f => f), by omega, below_kept hB13 kW (Nat.le_refl _) (fun _ f => f.elim), Nat.le_refl _, by omega, by omega, by omega, fun j hj => by simp [Value.ownBlock] at hj, fun j hj => by cases hj⟩
  have ha2 : 0 < rs.length → a2 = some ⟨b1, 0, none⟩ := fun h0 => (hr2 h0).1
  have ha3 : 0 < rs.length → a3 = some ⟨b2, 0, none⟩ := fun h0 => (hr3 h0).1
  clear hE kl1 kl2 kW hB13 hB0 hB2 hB3 hr2 hr3 hsz0 s12 s23
  have ST0 : Hid (S1 w w.heap.size rs most (w3.heap.size + 2) w3.heap.size (w3.heap.size + 1) b1 b2 L1 L2 W 0 (.slice none 0 0) none []) := st0
  have EW : Hid (W = ((w3.alloc (.cells #[.int .i64 most, .map none] 50)).alloc (.cells #[.int .i64 most, .map none] 50)).alloc (.cells #[.slice none 0 0, .int .i64 0] 28)) := eW
  clear st0 eW
  go_wp2
  go_loopw [9] (fun i wr => ∃ (k : Nat) (v : Value) (r : Option Nat) (M : List (ByteArray × Value)), k ≤ rs.length ∧ i = .int .i64 k ∧ S1 w w.heap.size rs most (w3.heap.size + 2) w3.heap.size (w3.heap.size + 1) b1 b2 L1 L2 wr k v r M) (fun i _ => rs.length - (intOf i).toNat)
  case atStart => exact ⟨0, _, _, _, Nat.zero_le _, rfl, by rw [← EW.out]; exact ST0.out⟩
  case round =>
    obtain ⟨k, v, r, M, hk, rfl, hS⟩ := hrel
    clear ST0 EW
    by_cases hlt : k < rs.length
    · obtain ⟨c1, c2', c3'⟩ := (hS.rc (by omega)).at k hlt hlt
      have hRd := (hS.kept (((Kept.refl (fun _ => False) wr)).drewN 1)).round hlt HSZ.out HI.out hb
      obtain ⟨la, lc, eL⟩ := ((hS.rc (by omega)).own k hlt hlt).shape
      have e2 := ha2 (by omega)
      rw [eL] at c2' hRd
      clear hS eL
      generalize (rs[k]).key = ky at *
      generalize (rs[k]).keep = kp at *
      generalize (rs[k]).l.length = ln at *
      subst e2
      go_wp2_with fail
      go_region_with (go_at_call 23; refine hRd.mono ?_; rintro e w5 ⟨rfl, v', r', M', hS'⟩)
      all_goals
        clear hRd c1 c2' c3'
        go_wp2
        go_roundw
        case rel => exact ⟨k + 1, v', r', M', by omega, by go_num, hS'⟩
        case measure => simp [intOf]; omega
    · obtain rfl : k = rs.length := by omega
      have t0 := T2.start hS
      have ceb := hS.enc.cell
      have hsee := sees_own hS.enc.own
      have hvu : OldU wr.heap.size wr v := fun j hj => ⟨hS.enc.lt.2 j hj, hS.enc.row j hj⟩
      rw [List.take_length] at hsee
      obtain ⟨va, vc, ev⟩ : ∃ a c, v = .slice a (outS most [] rs).length c := by obtain ⟨a, c, e, _⟩ := hsee.form; exact ⟨a, c, e⟩
      have hN := newDec v _ wr hsee
      subst ev
      have HS0 : Hid (T2 w w.heap.size wr.heap.size rs most w3.heap.size (w3.heap.size + 1) b2 r M (Rows1 L1 rs.length) L2 wr 0 none [] ∧ Sees wr (.slice va (outS most [] rs).length vc) (outS most [] rs) ∧ OldU wr.heap.size wr (.slice va (outS most [] rs).length vc)) := ⟨t0, hsee, hvu⟩
      clear t0 hS hsee hvu hk hlt
      go_wp2_with fail
      refine hN.mono ?_
      rintro e w6 ⟨rfl, hw6⟩
      clear hN ceb ha2
      have k6 : Kept (fun _ => False) wr w6 := by rw [hw6]; exact (Kept.refl _ _).alloc _
      clear hw6
      have k7 : Kept (fun _ => False) wr (w6.alloc (.cells #[.slice va (outS most [] rs).length vc, .int .i64 0, .nilIface] 34)) := k6.alloc _
      have st : S2 w w.heap.size wr.heap.size rs most w3.heap.size (w3.heap.size + 1) b2 w6.heap.size r M (Rows1 L1 rs.length) L2 (w6.alloc (.cells #[.slice va (outS most [] rs).length vc, .int .i64 0, .nilIface] 34)) 0 (.slice va (outS most [] rs).length vc) none [] :=
        ⟨HS0.out.1.quiet k7, heap_alloc_new _ _, HS0.out.2.1.kept k7 (fun _ _ f => f), HS0.out.2.2.kept k7 (fun _ _ f => f), k6.size⟩
      have ST : Hid (S2 w w.heap.size wr.heap.size rs most w3.heap.size (w3.heap.size + 1) b2 w6.heap.size r M (Rows1 L1 rs.length) L2 (w6.alloc (.cells #[.slice va (outS most [] rs).length vc, .int .i64 0, .nilIface] 34)) 0 (.slice va (outS most [] rs).length vc) none []) := st
      clear st HS0 k6 k7
      generalize wr.heap.size = N1 at ST
      generalize Rows1 L1 rs.length = F1 at ST
      generalize w3.heap.size = ke at *
      go_wp2
      go_loopw [11] (fun i wr => ∃ (k : Nat) (v : Value) (r2 : Option Nat) (M2 : List (ByteArray × Value)), k ≤ rs.length ∧ i = .int .i64 k ∧ S2 w w.heap.size N1 rs most ke (ke + 1) b2 w6.heap.size r M F1 L2 wr k v r2 M2) (fun i _ => rs.length - (intOf i).toNat)
      case atStart => exact ⟨0, _, _, _, Nat.zero_le _, rfl, ST.out⟩
      case round =>
        clear ST
        obtain ⟨k, v, r2, M2, hk, rfl, hS⟩ := hrel
        by_cases hlt : k < rs.length
        · obtain ⟨c1, c2', c3'⟩ := (hS.t.wt (by omega)).at k hlt hlt
          have e3 := ha3 (by omega)
          have hU := hS.len hlt HSZ.out hb
          have hDN := hS.hN
          have hky := (HSZ.out _ (List.getElem_mem hlt)).1
          have hln := (HSZ.out _ (List.getElem_mem hlt)).2
          obtain ⟨hl1, hl2, hl3⟩ := out_len (most := most) hlt HSZ.out hb
          have hLI := fun (w3 : World) (X : Value) (t3 : T2 w w.heap.size N1 rs most ke (ke + 1) b2 r M F1 L2 w3 k r2 M2) (d3 : Dec w3 w6.heap.size X .nilIface) (s3 : Sees w3 X (listS most rs k hlt ++ restS most rs k)) (u3 : OldU N1 w3 X) => S2.list t3 d3 hlt s3 u3 hDN HSZ.out HI.out hb
          have HLI : Hid (∀ (w3 : World) (X : Value) (t3 : T2 w w.heap.size N1 rs most ke (ke + 1) b2 r M F1 L2 w3 k r2 M2) (d3 : Dec w3 w6.heap.size X .nilIface) (s3 : Sees w3 X (listS most rs k hlt ++ restS most rs k)) (u3 : OldU N1 w3 X), _) := hLI
          clear hLI hS
          have HAT : Hid (∀ wx, Recs wx b2 rs.length rs.length L2 rs → (wx.cell? ⟨b2, k * 3, none⟩ = some (.string (rs[k]).key) ∧ wx.cell? ⟨b2, k * 3 + 1, none⟩ = some (L2 k) ∧ wx.cell? ⟨b2, k * 3 + 2, none⟩ = some (.bool (rs[k]).keep)) ∧ Own wx (L2 k) (rs[k]).l) := fun wx h => ⟨h.at k hlt hlt, h.own k hlt hlt⟩
          generalize listS most rs k hlt = E at *
          generalize restS most rs k = R at *
          generalize (rs[k]).key = ky at *
          generalize (rs[k]).keep = kp at *
          generalize (rs[k]).l = zs at *
          subst e3
          go_wp2_with fail
          refine hU.mono ?_
          rintro e w1 ⟨rfl, g, o, c, hc, d1, s1, u1, t1⟩
          clear hU c1 c2' c3'
          have hRs := zzRest _ _ _ w1 d1
          go_wp2_with fail
          refine hRs.mono ?_
          rintro e w2 ⟨rfl, hw2⟩
          replace hw2 := hw2.symm
          subst hw2
          clear hRs
          have hKl : ky.data.toList.length = ky.size := Array.length_toList
          obtain ⟨sK, sT⟩ := s1.cut (by rw [hKl, List.length_append]) hc
          rw [hKl] at sK sT
          rw [List.length_append] at sT
          have hcv := conv_bytes sK ky (by cases ky; simp)
          have hN := newDec _ _ w1 sT
          have HM : Hid (Dec w1 w6.heap.size (.slice (some ⟨g, o, none⟩) (ky.size + (E.length + R.length)) c) .nilIface ∧ Sees w1 (.slice (some ⟨g, o + ky.size, none⟩) (E.length + R.length) (c - ky.size)) (E ++ R) ∧ OldU N1 w1 (.slice (some ⟨g, o, none⟩) (ky.size + (E.length + R.length)) c) ∧ T2 w w.heap.size N1 rs most ke (ke + 1) b2 r M F1 L2 w1 k r2 M2) := ⟨d1, sT, u1, t1⟩
          clear sK sT d1 s1 u1 t1 hKl
          go_wp2_with fail
          refine hN.mono ?_
          rintro e w2 ⟨rfl, hw2⟩
          clear hN hcv ha3
          have k12 : Kept (fun _ => False) w1 w2 := by rw [hw2]; exact (Kept.refl _ _).alloc _
          clear hw2
          have d2 : w2.heap[w6.heap.size]? = some (.cells #[.slice (some ⟨g, o, none⟩) (ky.size + (E.length + R.length)) c, .int .i64 0, .nilIface] 34 (0, 0)) := k12.here HM.out.1 (fun f => f)
          have p0 : w2.cell? ⟨w6.heap.size, 0, none⟩ = some (.slice (some ⟨g, o, none⟩) (ky.size + (E.length + R.length)) c) := by rw [blk_cell d2]; rfl
          have p1 : w2.cell? ⟨w6.heap.size, 1, none⟩ = some (.int .i64 0) := by rw [blk_cell d2]; rfl
          have p2 : w2.cell? ⟨w6.heap.size, 2, none⟩ = some .nilIface := by rw [blk_cell d2]; rfl
          have f0 := blk_frozen d2 0
          have f1 := blk_frozen d2 1
          have f2 := blk_frozen d2 2
          obtain ⟨W3, eW3⟩ : ∃ W3, W3 = ((w2.setCell ⟨w6.heap.size, 0, none⟩ (.slice (some ⟨g, o + ky.size, none⟩) (E.length + R.length) (c - ky.size))).setCell ⟨w6.heap.size, 1, none⟩ (.int .i64 0)).setCell ⟨w6.heap.size, 2, none⟩ .nilIface := ⟨_, rfl⟩
          have d3 : Dec W3 w6.heap.size (.slice (some ⟨g, o + ky.size, none⟩) (E.length + R.length) (c - ky.size)) .nilIface := by rw [eW3]; exact (blk_set (blk_set (blk_set d2 0 _) 1 _) 2 _).trans rfl
          have k13 : Kept (fun j => j = w6.heap.size) w1 W3 := by
            rw [eW3]
            exact (((k12.mono (T := fun j => j = w6.heap.size) (fun _ _ f => f.elim)).setCell (p := ⟨w6.heap.size, 0, none⟩) (fun _ => rfl) _).setCell (p := ⟨w6.heap.size, 1, none⟩) (fun _ => rfl) _).setCell (p := ⟨w6.heap.size, 2, none⟩) (fun _ => rfl) _
          obtain ⟨m1, m2, m3, m4⟩ := HM.out
          have hgd : ¬ g = w6.heap.size := fun e => by have := (m3 g rfl).1; omega
          have t3 := m4.box m1 hDN k13
          have s3 := m2.kept k13 (fun j hj => by cases hj; exact hgd)
          have u3 : OldU N1 W3 (.slice (some ⟨g, o + ky.size, none⟩) (E.length + R.length) (c - ky.size)) := fun j hj => (m3.kept k13 (fun j hj => by cases hj; exact hgd)) j hj
          have hDL := HLI.out _ _ t3 d3 s3 u3
          obtain ⟨⟨q1, q2, q3⟩, _⟩ := HAT.out _ (t3.wt (by omega))
          clear HLI HM m1 m2 m3 m4 hgd t3 s3 u3 d3 k13 k12 d2
          have EW3 : Hid (W3 = ((w2.setCell ⟨w6.heap.size, 0, none⟩ (.slice (some ⟨g, o + ky.size, none⟩) (E.length + R.length) (c - ky.size))).setCell ⟨w6.heap.size, 1, none⟩ (.int .i64 0)).setCell ⟨w6.heap.size, 2, none⟩ .nilIface) := eW3
          rw [eW3] at q1 q2 q3 hDL
          clear eW3
          go_wp2_with fail
          refine hDL.mono ?_
          rintro e w4 ⟨lv, rfl, ⟨gs, gn, gne⟩, v4, d4, rc4, k4, hno, hyes⟩
          clear hDL p0 p1 p2 f0 f1 f2 q1 q2 q3 EW3
          obtain ⟨⟨y1, y2, y3⟩, yo⟩ := HAT.out _ rc4
          obtain ⟨ga, gc, eg⟩ : ∃ a c, lv = .slice a zs.length c := by obtain ⟨a, c, e, _⟩ := gs.form; exact ⟨a, c, e⟩
          obtain ⟨la, lc, eL⟩ := yo.shape
          have hErr := zzErr _ _ _ w4 d4
          have hIE := intsEq lv (L2 k) zs zs w4 gs yo.sees (by unfold maxLen; omega) (by unfold maxLen; omega)
          rw [beq_self_eq_true] at hIE
          have hnilI := fun (r : Option Addr) (n c n' c' : Nat) (wx : World) => Lib.run_eql_slice_nil (P := Tryd.prog) wx _ _ r n c n' c' Tryd.underlying42
          have HK4 : Hid (KLs w4 (ke + 1) r2 most M2) := k4
          have HNO : Hid (kp = false → ∀ w5, Kept (fun _ => False) w4 w5 → _) := hno
          have HYES : Hid (kp = true → ∀ w5, Kept (fun _ => False) w4 w5 → Calls Tryd.prog 22 #[.pointer (some ⟨ke + 1, 0, none⟩), .string ky, lv] w5 fun e w' => e = .returned (.tuple #[]) ∧ ∃ r2' M2', S2 w w.heap.size N1 rs most ke (ke + 1) b2 w6.heap.size r M F1 L2 w' (k + 1) v4 r2' M2') := fun hkp w5 k45 =>
            (keep_any (ke + 1) r2 most M2 ky lv w5 (k4.kept k45 (fun f => f) (fun _ _ f => f)) ⟨ga, zs.length, gc, eg⟩).mono (by
              rintro e w7 ⟨rfl, mb, hk7, hK7, hr7⟩
              exact ⟨rfl, _, _, hyes hkp w5 w7 mb k45 hk7 hK7 hr7⟩)
          rw [eL] at y2 hIE
          clear k4 hno hyes yo eL HAT gs d4 rc4
          subst eg
          by_cases hz0 : zs = []
          case' pos =>
            have hzl : zs.length = 0 := by rw [hz0]; rfl
            have e0 := gn hz0
            injection e0 with e1 e2 e3
            subst e1
            subst e3
            have hzb : ((zs.length : Int) == 0) = true := by rw [hzl]; rfl
            clear gn gne hz0 e2 hzl
          case' neg =>
            obtain ⟨x, ex⟩ : ∃ x, ga = some x := by
              have := gne hz0
              cases ga with
              | none => simp [Value.ownBlock] at this
              | some x => exact ⟨x, rfl⟩
            subst ex
            have hzp : 0 < zs.length := List.length_pos_iff.2 hz0
            have hzb : ((zs.length : Int) == 0) = false := by rw [beq_eq_false_iff_ne]; omega
            clear gn gne hz0
          all_goals
            go_wp2_with fail
            refine hErr.mono ?_
            rintro e w5 ⟨rfl, hw⟩
            replace hw := hw.symm
            subst hw
            clear hErr
            go_wp2_with fail
            refine hIE.mono ?_
            rintro e w5 ⟨rfl, n5, hw5⟩
            clear hIE
            have k45 : Kept (fun _ => False) w4 w5 := by rw [hw5]; exact (Kept.refl _ _).drewN _
            have z2 := k45.cell y2 (fun f => f)
            have z3 := k45.cell y3 (fun f => f)
            clear hw5 y1 y2 y3
            cases kp with
            | false =>
              have HS' : Hid (S2 w w.heap.size N1 rs most ke (ke + 1) b2 w6.heap.size r M F1 L2 w5 (k + 1) v4 r2 M2) := HNO.out rfl w5 k45
              clear HNO HYES HK4 k45
              go_wp2
              go_roundw
              case rel => exact ⟨k + 1, v4, r2, M2, by omega, by go_num, HS'.out⟩
              case measure => simp [intOf]; omega
            | true =>
              have hKp := HYES.out rfl w5 k45
              clear HNO HYES HK4 k45
              go_wp2_with fail
              refine hKp.mono ?_
              rintro e w7 ⟨rfl, r2', M2', HS'⟩
              clear hKp z2 z3
              go_wp2
              go_roundw
              case rel => exact ⟨k + 1, v4, r2', M2', by omega, by go_num, HS'⟩
              case measure => simp [intOf]; omega
        · obtain rfl : k = rs.length := by omega
          have hsee := hS.see
          rw [List.drop_length] at hsee
          obtain ⟨va', vc', ev'⟩ : ∃ a c, v = .slice a 0 c := by obtain ⟨a, c, e, _⟩ := hsee.form; exact ⟨a, c, e⟩
          have hErr := zzErr _ _ _ wr hS.dec
          have hRest := zzRest _ _ _ wr hS.dec
          have HT : Hid (T2 w w.heap.size N1 rs most ke (ke + 1) b2 r M F1 L2 wr rs.length r2 M2) := hS.t
          subst ev'
          clear hsee hS hk hlt
          go_wp2_with fail
          refine hErr.mono ?_
          rintro e w7 ⟨rfl, hw⟩
          replace hw := hw.symm
          subst hw
          clear hErr
          go_wp2_with fail
          refine hRest.mono ?_
          rintro e w7 ⟨rfl, hw⟩
          replace hw := hw.symm
          subst hw
          clear hRest
          go_wp2
          go_loopw [15] (fun i wx => ∃ k q : Nat, k ≤ rs.length ∧ i = .int .i64 k ∧ wx = wr.drewN q) (fun i _ => rs.length - (intOf i).toNat)
          case atStart => exact ⟨0, 0, Nat.zero_le _, rfl, rfl⟩
          case round =>
            obtain ⟨k, q, hk, rfl, rfl⟩ := hrel
            by_cases hlt : k < rs.length
            · obtain ⟨c1, _, _⟩ := (HT.out.wt (by omega)).at k hlt hlt
              obtain ⟨b, zs, x1, x2, x3, x4, x5⟩ := HT.out.same (rs[k]).key
              have kq : Kept (fun _ => False) wr (wr.drewN q) := (Kept.refl _ _).drewN q
              have hKE := keptEq_kls ke (ke + 1) r r2 most most M M2 (rs[k]).key zs b (wr.drewN q) (HT.out.k1.kept kq (fun f => f) (fun _ _ f => f)) (HT.out.k2.kept kq (fun f => f) (fun _ _ f => f)) x1 x2 (x3.drewN q) (x4.drewN q) x5
              have e3 := ha3 (by omega)
              clear x1 x2 x3 x4 x5 kq
              generalize (rs[k]).key = ky at *
              subst e3
              go_wp2_with fail
              refine hKE.mono ?_
              rintro e w8 ⟨rfl, n8, hw8⟩
              rw [World.drewN_drewN] at hw8
              subst hw8
              clear hKE c1
              go_wp2
              go_roundw
              case rel => exact ⟨k + 1, q + n8, by omega, by go_num, rfl⟩
              case measure => simp [intOf]; omega
            · have hBf : Hid (Below w.heap.size w (wr.drewN q)) := below_drewN HT.out.be _
              go_wp2
              go_ret
              exact ⟨rfl, hBf.out⟩

end Go.Proofs.Qxb6612988aDoor

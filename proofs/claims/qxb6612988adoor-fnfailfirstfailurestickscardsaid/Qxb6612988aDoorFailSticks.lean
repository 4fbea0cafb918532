/-
  FnFailFirstFailureSticks: the walk.
-/
import Derived.Test.Qxb6612988aDoorFailMid
namespace Go.Proofs.Qxb6612988aDoor
open Go.RowKit

/-- A slice of bools that came in. -/
structure Bools (w : World) (a : Option Addr) (bs : List Bool) : Prop where
  cell : 0 < bs.length → ∃ b o, a = some ⟨b, o, none⟩ ∧ ∀ j (hj : j < bs.length), w.cell? ⟨b, o + j, none⟩ = some (.bool bs[j])

theorem any_snoc (bs : List Bool) (k : Nat) (h : k < bs.length) : (bs.take (k + 1)).any id = ((bs.take k).any id || bs[k]) := by
  rw [List.take_succ_eq_append_getElem h, List.any_append]; simp

set_option maxHeartbeats 400000 in
theorem zzBytes3 (a0 a1 : Option Addr) (n0 c0 n1 c1 : Nat) (w : World) (h0 : n0 ≤ maxLen) (h1 : n1 ≤ maxLen) (b : Bool) (hb : decide (n0 + n1 ≤ 1048576) = b) :
    Calls Tryd.prog 8 #[.slice a0 n0 c0, .slice a1 n1 c1] w fun e w' => e = .returned (.bool b) ∧ w' = w := by
  unfold maxLen at h0 h1
  subst hb
  by_cases g0 : n0 ≤ 1048576
  · by_cases g1 : n1 ≤ 1048576
    · by_cases g2 : n0 + n1 ≤ 1048576
      · rw [decide_eq_true g2]
        go_enter Tryd.func8, Tryd.ntmps8
        go_wp2
        go_ret
        exact ⟨rfl, rfl⟩
      · rw [decide_eq_false g2]
        go_enter Tryd.func8, Tryd.ntmps8
        go_wp2
        go_ret
        exact ⟨rfl, rfl⟩
    · rw [decide_eq_false (by omega)]
      go_enter Tryd.func8, Tryd.ntmps8
      go_wp2
      go_ret
      exact ⟨rfl, rfl⟩
  · rw [decide_eq_false (by omega)]
    go_enter Tryd.func8, Tryd.ntmps8
    go_wp2
    go_ret
    exact ⟨rfl, rfl⟩


set_option maxHeartbeats 400000 in
theorem st_long (a0 a1 : Option Addr) (n0 c0 n1 c1 : Nat) (w : World) (h0 : n0 ≤ maxLen) (h1 : n1 ≤ maxLen) (hbig : ¬ (n0 + n1 ≤ 1048576)) :
    Calls Tryd.prog 3 #[.slice a0 n0 c0, .slice a1 n1 c1] w fun e w' => e = .returned (.bool true) ∧ Below w.heap.size w w' := by
  have hZ := zzBytes3 a0 a1 n0 c0 n1 c1 w h0 h1 false (decide_eq_false hbig)
  unfold maxLen at h0 h1
  go_enter Tryd.func3, Tryd.ntmps3
  go_wp2_with fail
  refine hZ.mono ?_
  rintro e w' ⟨rfl, rfl⟩
  clear hZ
  go_wp2
  go_ret
  exact ⟨rfl, Below.refl _ _⟩

set_option maxHeartbeats 400000 in
theorem st_big (a0 a1 : Option Addr) (n0 c0 n1 c1 : Nat) (w : World) (hsm : n0 + n1 ≤ 1048576) (hbig : 1048576 < 8 * n0 + n1) :
    Calls Tryd.prog 3 #[.slice a0 n0 c0, .slice a1 n1 c1] w fun e w' => e = .returned (.bool true) ∧ Below w.heap.size w w' := by
  have hZ := zzBytes3 a0 a1 n0 c0 n1 c1 w (by unfold maxLen; omega) (by unfold maxLen; omega) true (decide_eq_true hsm)
  have hT := failTooBig a0 n0 c0 (n1 : Int) w (by omega) (by omega) (by omega) true (decide_eq_true (by omega))
  go_enter Tryd.func3, Tryd.ntmps3
  go_wp2_with fail
  refine hZ.mono ?_
  rintro e w' ⟨rfl, rfl⟩
  clear hZ
  go_wp2_with fail
  refine hT.mono ?_
  rintro e w' ⟨rfl, rfl⟩
  clear hT
  go_wp2
  go_ret
  exact ⟨rfl, Below.refl _ _⟩

set_option maxHeartbeats 4000000 in
/-- The script is empty: all reads back. -/
theorem st_empty (a0 a1 : Option Addr) (c0 c1 : Nat) (xs : List Nat) (w : World) (hX : U64s w a0 xs) (hsm : 8 * xs.length ≤ 1048576) :
    Calls Tryd.prog 3 #[.slice a0 xs.length c0, .slice a1 0 c1] w fun e w' => e = .returned (.bool true) ∧ Below w.heap.size w w' := by
  have hZ := zzBytes3 a0 a1 xs.length c0 0 c1 w (by unfold maxLen; omega) (by unfold maxLen; omega) true (decide_eq_true (by omega))
  have hT := failTooBig a0 xs.length c0 0 w (by omega) (by omega) (by omega) false (decide_eq_false (by omega))
  have hx8 : xs.length ≤ 131072 := by omega
  go_enter Tryd.func3, Tryd.ntmps3
  go_wp2_with fail
  refine hZ.mono ?_
  rintro e w1 ⟨rfl, hw⟩
  replace hw := hw.symm
  subst hw
  clear hZ
  go_wp2_with fail
  refine hT.mono ?_
  rintro e w1 ⟨rfl, hw⟩
  replace hw := hw.symm
  subst hw
  clear hT
  go_wp2
  go_loopw [6] (fun i wr => ∃ (k : Nat) (v : Value), k ≤ xs.length ∧ i = .int .i64 k ∧ Enc wr w.heap.size v (encU (xs.take k)) ∧ (∀ j, v.ownBlock = some j → w.heap.size < j) ∧ Below w.heap.size w wr)
    (fun i _ => xs.length - (intOf i).toNat)
  case atStart =>
    refine ⟨0, .slice none 0 0, Nat.zero_le _, rfl, ⟨⟨0, heap_alloc_new _ _⟩, World.ownsRow_nil _ _ _ _⟩, fun j hj => by simp [Value.ownBlock] at hj, (Below.refl _ _).alloc (Nat.le_refl _) _⟩
  case round =>
    obtain ⟨k, v, hk, rfl, hE, hv, hB⟩ := hrel
    have hlt1 : w.heap.size < wr.heap.size := lt_of_block hE.box.choose_spec
    have hlen := encU_length (xs.take k) (fun x hx => hX.lt x (List.mem_of_mem_take hx))
    have hlen2 : (xs.take k).length ≤ k := List.length_take_le _ _
    by_cases hlt : k < xs.length
    · obtain ⟨b, o, ha, hc⟩ := hX.cell (by omega)
      have hcx := hX.at ha hc hB k hlt
      subst ha
      have hxk := hX.lt xs[k] (List.getElem_mem hlt)
      have hU := enc_uvarint w.heap.size xs[k] v _ wr hE hxk (by omega)
      rw [← encU_snoc xs k hlt] at hU
      clear hlen hlen2 hE hc
      go_wp2_with fail
      refine hU.mono ?_
      rintro e w2 ⟨rfl, v', hE', hK, hM⟩
      obtain ⟨hB', hv'⟩ := enc_step hB (Nat.le_refl _) hv (Nat.le_refl _) hlt1 hK hM
      clear hU hK hM hB hv hcx
      go_wp2
      go_roundw
      case rel => exact ⟨k + 1, v', by omega, by go_num, hE', hv', hB'⟩
      case measure => simp [intOf]; omega
    · obtain rfl : k = xs.length := by omega
      rw [List.take_length] at hE hlen
      have hS := sees_own hE.own
      obtain ⟨t, hbox⟩ := hE.box
      have hc0 : wr.cell? ⟨w.heap.size, 0, none⟩ = some v := by rw [blk_cell hbox]; rfl
      obtain ⟨ao, n, c, hvv⟩ := hS.shape
      subst hvv
      have hN := newDec _ _ wr hS
      have hneb : (Value.slice ao n c).ownBlock ≠ some (wr.heap.size + 1) := by
        intro e
        have := (hE.own.lt _ e).2
        omega
      have hlim : (encU xs).length ≤ 140737488355328 := by omega
      have hD := dec_made (.cells #[.slice ao n c, .int .i64 0, .nilIface] 34) hS hB (Nat.le_refl _)
      have hdbw : w.heap.size < wr.heap.size + 1 := by omega
      clear hlen hlen2 hE hbox
      go_wp2_with fail
      refine hN.mono ?_
      rintro e w2 ⟨rfl, rfl⟩
      clear hN
      go_wp2
      generalize hdbE : wr.heap.size + 1 = db at hD hneb hdbw ⊢
      clear hdbE
      obtain ⟨hD0, hS0, hB0⟩ := hD
      refine wp_loop_rounds 1 ?_
      rw [rounds_succ]
      have hEr := zzErr db _ _ _ hD0
      go_wp2_with fail
      refine hEr.mono ?_
      rintro e w1 ⟨rfl, hw⟩
      subst hw
      clear hEr
      go_wp2
      go_loopw [10, 11] (fun i _ wq => ∃ (k : Nat) (v : Value), k ≤ xs.length ∧ i = .int .i64 k ∧ Dec wq db v .nilIface ∧ Sees wq v (encU (xs.drop k)) ∧ v.ownBlock ≠ some db ∧ Below w.heap.size w wq)
        (fun i _ _ => xs.length - (intOf i).toNat)
      case atStart => exact ⟨0, _, Nat.zero_le _, rfl, hD0, hS0, hneb, hB0⟩
      case round =>
        clear hD0 hS0 hneb hB0 hB hS hc0 hlt1 hv hk
        obtain ⟨k, v, hk, rfl, hD, hS, hne, hB⟩ := hrel
        by_cases hlt : k < xs.length
        · obtain ⟨b, o, ha, hc⟩ := hX.cell (by omega)
          have hxk := hX.lt xs[k] (List.getElem_mem hlt)
          have hcw : ∀ (wq : World), Below w.heap.size w wq → wq.cell? ⟨b, o + k, none⟩ = some (.int .u64 (xs[k] : Nat)) := fun wq hq => hX.at ha hc hq k hlt
          subst ha
          have hl2 : (encU (xs.drop k)).length ≤ 140737488355328 := by
            have h1 := encU_length (xs.drop k) (fun x hx => hX.lt x (List.mem_of_mem_drop hx))
            have h3 : (xs.drop k).length ≤ xs.length := by simp
            omega
          rw [encU_drop xs k hlt] at hS hl2
          have hU := decu_some db xs[k] v .nilIface _ wr hD hxk hS hl2 hne
          go_wp2_with fail
          refine hU.mono ?_
          rintro e w2 ⟨rfl, v', hD2, hS2, hv2, hK2⟩
          have hB2 : Below w.heap.size w w2 := dec_step hB (Nat.le_of_lt hdbw) (Nat.le_refl _) hK2
          have hcx2 := hcw w2 hB2
          clear hU hK2 hD hS hc hcw hB
          go_wp2
          go_roundw
          case rel => exact ⟨k + 1, v', by omega, by go_num, hD2, hS2, hv2 ▸ hne, hB2⟩
          case measure => simp [intOf]; omega
        · obtain rfl : k = xs.length := by omega
          rw [List.drop_length] at hS
          obtain ⟨ao2, c2, hvv⟩ : ∃ ao c, v = .slice ao 0 c := by
            rcases hS with ⟨_, ao, c, e⟩ | ⟨g, o, c, e, _⟩
            · exact ⟨ao, c, e⟩
            · exact ⟨_, c, e⟩
          subst hvv
          have hEr := zzErr db _ .nilIface wr hD
          have hR := zzRest db _ .nilIface wr hD
          clear hS hD
          go_wp2_with fail
          refine hEr.mono ?_
          rintro e w1 ⟨rfl, hw⟩
          replace hw := hw.symm
          subst hw
          clear hEr
          go_wp2_with fail
          refine hR.mono ?_
          rintro e w1 ⟨rfl, hw⟩
          replace hw := hw.symm
          subst hw
          clear hR
          go_wp2
          go_ret
          exact ⟨rfl, hB⟩

set_option maxHeartbeats 4000000 in
/-- The script is not empty: nothing is left to read. -/
theorem st_some (a0 a1 : Option Addr) (c0 c1 : Nat) (xs : List Nat) (bs : List Bool) (w : World) (a : Addr) (hm : Malf w a) (hg : 0 < w.heap.size) (hX : U64s w a0 xs) (hY : Bools w a1 bs) (hpos : 0 < bs.length) (hsm : 8 * xs.length + bs.length ≤ 1048576) :
    Calls Tryd.prog 3 #[.slice a0 xs.length c0, .slice a1 bs.length c1] w fun e w' => e = .returned (.bool true) ∧ Below w.heap.size w w' := by
  have hpos3 : ((bs.length : Int) == 0) = false := beq_eq_false_iff_ne.2 (by omega)
  have hZ := zzBytes3 a0 a1 xs.length c0 bs.length c1 w (by unfold maxLen; omega) (by unfold maxLen; omega) true (decide_eq_true (by omega))
  have hT := failTooBig a0 xs.length c0 (bs.length : Int) w (by omega) (by omega) (by omega) false (decide_eq_false (by omega))
  have hx8 : xs.length ≤ 131072 := by omega
  have hb8 : bs.length ≤ 1048576 := by omega
  go_enter Tryd.func3, Tryd.ntmps3
  go_wp2_with fail
  refine hZ.mono ?_
  rintro e w1 ⟨rfl, hw⟩
  replace hw := hw.symm
  subst hw
  clear hZ
  go_wp2_with fail
  refine hT.mono ?_
  rintro e w1 ⟨rfl, hw⟩
  replace hw := hw.symm
  subst hw
  clear hT
  go_wp2
  go_loopw [6] (fun i wr => ∃ (k : Nat) (v : Value), k ≤ xs.length ∧ i = .int .i64 k ∧ Enc wr w.heap.size v (encU (xs.take k)) ∧ (∀ j, v.ownBlock = some j → w.heap.size < j) ∧ Below w.heap.size w wr)
    (fun i _ => xs.length - (intOf i).toNat)
  case atStart =>
    refine ⟨0, .slice none 0 0, Nat.zero_le _, rfl, ⟨⟨0, heap_alloc_new _ _⟩, World.ownsRow_nil _ _ _ _⟩, fun j hj => by simp [Value.ownBlock] at hj, (Below.refl _ _).alloc (Nat.le_refl _) _⟩
  case round =>
    obtain ⟨k, v, hk, rfl, hE, hv, hB⟩ := hrel
    have hlt1 : w.heap.size < wr.heap.size := lt_of_block hE.box.choose_spec
    have hlen := encU_length (xs.take k) (fun x hx => hX.lt x (List.mem_of_mem_take hx))
    have hlen2 : (xs.take k).length ≤ k := List.length_take_le _ _
    by_cases hlt : k < xs.length
    · obtain ⟨b, o, ha, hc⟩ := hX.cell (by omega)
      have hcx := hX.at ha hc hB k hlt
      subst ha
      have hxk := hX.lt xs[k] (List.getElem_mem hlt)
      have hU := enc_uvarint w.heap.size xs[k] v _ wr hE hxk (by omega)
      rw [← encU_snoc xs k hlt] at hU
      clear hlen hlen2 hE hc
      go_wp2_with fail
      refine hU.mono ?_
      rintro e w2 ⟨rfl, v', hE', hK, hM⟩
      obtain ⟨hB', hv'⟩ := enc_step hB (Nat.le_refl _) hv (Nat.le_refl _) hlt1 hK hM
      clear hU hK hM hB hv hcx
      go_wp2
      go_roundw
      case rel => exact ⟨k + 1, v', by omega, by go_num, hE', hv', hB'⟩
      case measure => simp [intOf]; omega
    · obtain rfl : k = xs.length := by omega
      rw [List.take_length] at hE hlen
      have hS := sees_own hE.own
      obtain ⟨t, hbox⟩ := hE.box
      have hc0 : wr.cell? ⟨w.heap.size, 0, none⟩ = some v := by rw [blk_cell hbox]; rfl
      obtain ⟨ao, n, c, hvv⟩ := hS.shape
      subst hvv
      have hN := newDec _ _ wr hS
      have hneb : (Value.slice ao n c).ownBlock ≠ some (wr.heap.size + 1) := by
        intro e
        have := (hE.own.lt _ e).2
        omega
      have hlim : (encU xs).length ≤ 140737488355328 := by omega
      have hD := dec_made (.cells #[.slice ao n c, .int .i64 0, .nilIface] 34) hS hB (Nat.le_refl _)
      have hdbw : w.heap.size < wr.heap.size + 1 := by omega
      clear hlen hlen2 hE hbox
      go_wp2_with fail
      refine hN.mono ?_
      rintro e w2 ⟨rfl, rfl⟩
      clear hN
      go_wp2
      generalize hdbE : wr.heap.size + 1 = db at hD hneb hdbw ⊢
      clear hdbE
      obtain ⟨hD0, hS0, hB0⟩ := hD
      go_loopw [8, 9] (fun an i wq => ∃ (k : Nat) (vd : Value), k ≤ bs.length ∧ i = .int .i64 k ∧ an = .bool ((bs.take k).any id) ∧ Dec wq db vd (errV a ((bs.take k).any id)) ∧ (0 < k → vd = .slice none 0 0) ∧ Below w.heap.size w wq)
        (fun _ i _ => bs.length - (intOf i).toNat)
      case atStart => exact ⟨0, _, Nat.zero_le _, rfl, by simp, by simpa [errV] using hD0, fun h => absurd h (by decide), hB0⟩
      case round =>
        clear hD0 hS0 hneb hB0 hB hS hc0 hlt1 hv hk
        obtain ⟨k, vd, hk, rfl, rfl, hD, hvd, hB⟩ := hrel
        by_cases hlt : k < bs.length
        · obtain ⟨b, o, ha, hc⟩ := hY.cell (by omega)
          have hcx : wr.cell? ⟨b, o + k, none⟩ = some (.bool bs[k]) := (hB.cell (p := ⟨b, o + k, none⟩) (World.block_lt_of_cell? w _ (hc k hlt))).trans (hc k hlt)
          have hany := any_snoc bs k hlt
          subst ha
          clear hc hvd
          cases hbk : bs[k] with
          | true =>
            rw [hbk] at hcx hany
            have hmr : Malf wr a := (hB.cell (p := ⟨0, 0, none⟩) hg).trans hm
            have hF := fail_malf db vd a _ wr hD hmr
            rw [Bool.or_true] at hany
            have HA : Hid ((bs.take (k + 1)).any id = true) := hany
            clear hany hD hmr hbk
            generalize (bs.take k).any id = b0 at *
            go_wp2_with fail
            refine hF.mono ?_
            rintro e w2 ⟨rfl, hD2, hK2⟩
            have hB2 : Below w.heap.size w w2 := dec_step hB (Nat.le_of_lt hdbw) (Nat.le_refl _) hK2
            clear hF hK2 hB hcx
            go_wp2
            go_roundw
            case rel => exact ⟨k + 1, _, by omega, by go_num, by rw [HA.out], by rw [HA.out]; exact hD2, fun _ => rfl, hB2⟩
            case measure => simp [intOf]; omega
          | false =>
            rw [hbk] at hcx hany
            have hF := fail_nil db vd a _ wr hD
            rw [Bool.or_false] at hany
            have HA : Hid ((bs.take (k + 1)).any id = (bs.take k).any id) := hany
            clear hany hD hbk
            generalize (bs.take k).any id = b0 at *
            go_wp2_with fail
            refine hF.mono ?_
            rintro e w2 ⟨rfl, hD2, hK2⟩
            have hB2 : Below w.heap.size w w2 := dec_step hB (Nat.le_of_lt hdbw) (Nat.le_refl _) hK2
            clear hF hK2 hB hcx
            go_wp2
            go_roundw
            case rel => exact ⟨k + 1, _, by omega, by go_num, by rw [HA.out], by rw [HA.out]; exact hD2, fun _ => rfl, hB2⟩
            case measure => simp [intOf]; omega
        · obtain rfl : k = bs.length := by omega
          obtain rfl := hvd hpos
          clear hvd
          generalize (List.take bs.length bs).any id = b0 at *
          have hEr := zzErr db _ _ wr hD
          have hR := zzRest db _ _ wr hD
          cases b0
          all_goals
            simp only [errV] at hEr
            go_wp2_with fail
            refine hEr.mono ?_
            rintro e w1 ⟨rfl, hw⟩
            replace hw := hw.symm
            subst hw
            clear hEr
            go_wp2_with fail
            refine hR.mono ?_
            rintro e w1 ⟨rfl, hw⟩
            replace hw := hw.symm
            subst hw
            clear hR
            go_wp2
          · -- no failure was recorded: the first read, if there is one, records it
            go_loopw [10, 11] (fun i _ wq => ∃ k : Nat, k ≤ xs.length ∧ i = .int .i64 k ∧ Dec wq db (.slice none 0 0) (errV a (decide (0 < k))) ∧ Below w.heap.size w wq)
              (fun i _ _ => xs.length - (intOf i).toNat)
            case atStart => exact ⟨0, Nat.zero_le _, rfl, hD, hB⟩
            case round =>
              clear hD hB hk
              obtain ⟨k, hk, rfl, hD, hB⟩ := hrel
              by_cases hlt : k < xs.length
              · have hmr : Malf wr a := (hB.cell (p := ⟨0, 0, none⟩) hg).trans hm
                have hU := decu_nil db _ a _ wr hD (.inl ⟨rfl, none, 0, rfl⟩) hmr
                clear hD
                go_wp2_with fail
                refine hU.mono ?_
                rintro e w3 ⟨rfl, hD3, hK3⟩
                have hB3 : Below w.heap.size w w3 := dec_step hB (Nat.le_of_lt hdbw) (Nat.le_refl _) hK3
                clear hU hmr hK3 hB
                go_wp2
                go_roundw
                case rel => exact ⟨k + 1, by omega, by go_num, by rw [decide_eq_true (Nat.succ_pos k)]; exact hD3, hB3⟩
                case measure => simp [intOf]; omega
              · obtain rfl : k = xs.length := by omega
                have hEr := zzErr db _ _ wr hD
                clear hD
                by_cases hx0 : 0 < xs.length
                · rw [decide_eq_true hx0] at hEr
                  simp only [errV] at hEr
                  go_wp2_with fail
                  refine hEr.mono ?_
                  rintro e w1 ⟨rfl, hw⟩
                  replace hw := hw.symm
                  subst hw
                  clear hEr
                  go_wp2
                  go_ret
                  exact ⟨rfl, hB⟩
                · rw [decide_eq_false hx0] at hEr
                  simp only [errV] at hEr
                  have hx1 : ¬ (0 : Int) < (xs.length : Int) := by omega
                  go_wp2_with fail
                  refine hEr.mono ?_
                  rintro e w1 ⟨rfl, hw⟩
                  replace hw := hw.symm
                  subst hw
                  clear hEr
                  go_wp2
                  go_ret
                  exact ⟨rfl, hB⟩
          · -- a failure was recorded: it sticks
            go_loopw [10, 11] (fun i _ wq => ∃ k : Nat, k ≤ xs.length ∧ i = .int .i64 k ∧ Dec wq db (.slice none 0 0) (errV a true) ∧ Below w.heap.size w wq)
              (fun i _ _ => xs.length - (intOf i).toNat)
            case atStart => exact ⟨0, Nat.zero_le _, rfl, hD, hB⟩
            case round =>
              clear hD hB hk
              obtain ⟨k, hk, rfl, hD, hB⟩ := hrel
              by_cases hlt : k < xs.length
              · have hmr : Malf wr a := (hB.cell (p := ⟨0, 0, none⟩) hg).trans hm
                have hU := decu_nil db _ a _ wr hD (.inl ⟨rfl, none, 0, rfl⟩) hmr
                clear hD
                go_wp2_with fail
                refine hU.mono ?_
                rintro e w3 ⟨rfl, hD3, hK3⟩
                have hB3 : Below w.heap.size w w3 := dec_step hB (Nat.le_of_lt hdbw) (Nat.le_refl _) hK3
                clear hU hmr hK3 hB
                go_wp2
                go_roundw
                case rel => exact ⟨k + 1, by omega, by go_num, hD3, hB3⟩
                case measure => simp [intOf]; omega
              · have hEr := zzErr db _ _ wr hD
                clear hD
                simp only [errV] at hEr
                go_wp2_with fail
                refine hEr.mono ?_
                rintro e w1 ⟨rfl, hw⟩
                replace hw := hw.symm
                subst hw
                clear hEr
                go_wp2
                go_ret
                exact ⟨rfl, hB⟩

end Go.Proofs.Qxb6612988aDoor

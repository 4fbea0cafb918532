/-
  FnFailStopsTheRecordMidway: the walk.
-/
import Derived.Test.Qxb6612988aDoorCodec
import Derived.Deep.RegionWith
import Derived.Outline
namespace Go.Proofs.Qxb6612988aDoor
open Go.RowKit

/-! ### Plain -/
def encU (xs : List Nat) : List UInt8 := xs.flatMap Lib.uvarint
theorem encU_nil : encU [] = [] := rfl
theorem encU_append (a b : List Nat) : encU (a ++ b) = encU a ++ encU b := by simp [encU]
theorem encU_one (x : Nat) : encU [x] = Lib.uvarint x := by simp [encU]
theorem encU_snoc (xs : List Nat) (k : Nat) (h : k < xs.length) : encU (xs.take (k + 1)) = encU (xs.take k) ++ Lib.uvarint xs[k] := by
  rw [List.take_succ_eq_append_getElem h, encU_append, encU_one]
theorem encU_drop (xs : List Nat) (k : Nat) (h : k < xs.length) : encU (xs.drop k) = Lib.uvarint xs[k] ++ encU (xs.drop (k + 1)) := by
  rw [List.drop_eq_getElem_cons h]; rfl
theorem encU_length : ∀ (xs : List Nat), (∀ x ∈ xs, x < 18446744073709551616) → (encU xs).length ≤ 10 * xs.length
  | [], _ => by simp [encU]
  | x :: xs, h => by
    have h1 := Lib.uvarint_length64 (h x (by simp))
    have h2 := encU_length xs (fun y hy => h y (by simp [hy]))
    have e : encU (x :: xs) = Lib.uvarint x ++ encU xs := rfl
    rw [e, List.length_append, List.length_cons]
    omega

/-- A slice of uint64 that came in: its numbers. -/
structure U64s (w : World) (a : Option Addr) (xs : List Nat) : Prop where
  cell : 0 < xs.length → ∃ b o, a = some ⟨b, o, none⟩ ∧ ∀ j (hj : j < xs.length), w.cell? ⟨b, o + j, none⟩ = some (.int .u64 (xs[j] : Nat))
  lt : ∀ x ∈ xs, x < 18446744073709551616

theorem Sees.shape {w : World} {v : Value} {l : List UInt8} (h : Sees w v l) : ∃ ao n c, v = .slice ao n c := by
  rcases h with ⟨_, ao, c, e⟩ | ⟨g, o, c, e, _⟩
  · exact ⟨ao, _, c, e⟩
  · exact ⟨_, _, c, e⟩

theorem dec_made {B : Nat} {w wr : World} {v : Value} {l : List UInt8} (o : Obj) (hS : Sees wr v l) (hB : Below B w wr) (hsz : B ≤ w.heap.size) :
    Dec ((wr.alloc o).alloc (.cells #[v, .int .i64 0, .nilIface] 34)) (wr.heap.size + 1) v .nilIface ∧ Sees ((wr.alloc o).alloc (.cells #[v, .int .i64 0, .nilIface] 34)) v l ∧
      Below B w ((wr.alloc o).alloc (.cells #[v, .int .i64 0, .nilIface] 34)) := by
  have hs := hB.size
  refine ⟨heap_alloc2_new _ _ _, hS.kept (S := fun _ => False) (((Kept.refl _ _).alloc _).alloc _) (fun _ _ h => h), (hB.alloc (by omega) _).alloc (by simp; omega) _⟩

/-- What a read does to the frame of the whole call. -/
theorem dec_step {B db : Nat} {w wr w2 : World} (hB : Below B w wr) (hdb : B ≤ db) (hsz : B ≤ w.heap.size) (hK : Kept (fun k => k = db) wr w2) : Below B w w2 := by
  have hs := hB.size
  exact hB.trans (hK.below fun j hj => ⟨by omega, fun e => by omega⟩)

/-- What a write to the encoder does to the frame of the whole call. -/
theorem enc_step {B eb : Nat} {w wr w2 : World} {v v' : Value} (hB : Below B w wr) (_hsz : B ≤ w.heap.size) (hv : ∀ j, v.ownBlock = some j → eb < j) (heb : B ≤ eb) (hlt : eb < wr.heap.size)
    (hK : Kept (fun k => k = eb ∨ v.ownBlock = some k) wr w2) (hM : Moved wr v v') : Below B w w2 ∧ ∀ j, v'.ownBlock = some j → eb < j := by
  have hs := hB.size
  refine ⟨hB.trans (hK.below fun j hj => ⟨by omega, ?_⟩), fun j hj => ?_⟩
  · rintro (e | e)
    · omega
    · have := hv j e; omega
  · rcases hM with e | ⟨k, e, hk⟩
    · exact hv j (e ▸ hj)
    · rw [hj] at e; cases e; omega

theorem U64s.at {w : World} {a : Option Addr} {xs : List Nat} {b o : Nat} (_h : U64s w a xs) (_ha : a = some ⟨b, o, none⟩) (hc : ∀ j (hj : j < xs.length), w.cell? ⟨b, o + j, none⟩ = some (.int .u64 (xs[j] : Nat)))
    {wr : World} (hB : Below w.heap.size w wr) (k : Nat) (hk : k < xs.length) : wr.cell? ⟨b, o + k, none⟩ = some (.int .u64 (xs[k] : Nat)) :=
  (hB.cell (p := ⟨b, o + k, none⟩) (World.block_lt_of_cell? w _ (hc k hk))).trans (hc k hk)

/-! ### The tests on sizes -/
set_option maxHeartbeats 400000 in
theorem zzBytes4 (a0 a1 : Option Addr) (n0 c0 n1 c1 : Nat) (w : World) (h0 : n0 ≤ maxLen) (h1 : n1 ≤ maxLen) (b : Bool) (hb : decide (n0 + n1 ≤ 1048576) = b) :
    Calls Tryd.prog 17 #[.slice a0 n0 c0, .slice a1 n1 c1] w fun e w' => e = .returned (.bool b) ∧ w' = w := by
  unfold maxLen at h0 h1
  subst hb
  by_cases g0 : n0 ≤ 1048576
  · by_cases g1 : n1 ≤ 1048576
    · by_cases g2 : n0 + n1 ≤ 1048576
      · rw [decide_eq_true g2]
        go_enter Tryd.func17, Tryd.ntmps17
        go_wp2
        go_ret
        exact ⟨rfl, rfl⟩
      · rw [decide_eq_false g2]
        go_enter Tryd.func17, Tryd.ntmps17
        go_wp2
        go_ret
        exact ⟨rfl, rfl⟩
    · rw [decide_eq_false (by omega)]
      go_enter Tryd.func17, Tryd.ntmps17
      go_wp2
      go_ret
      exact ⟨rfl, rfl⟩
  · rw [decide_eq_false (by omega)]
    go_enter Tryd.func17, Tryd.ntmps17
    go_wp2
    go_ret
    exact ⟨rfl, rfl⟩

set_option maxHeartbeats 400000 in
theorem failTooBig (a0 : Option Addr) (n0 c0 : Nat) (n : Int) (w : World) (h0 : n0 ≤ 1048576) (h1 : 0 ≤ n) (h2 : n ≤ 1000000000) (b : Bool) (hb : decide (1048576 < 8 * (n0 : Int) + n) = b) :
    Calls Tryd.prog 9 #[.slice a0 n0 c0, .int .i64 n] w fun e w' => e = .returned (.bool b) ∧ w' = w := by
  subst hb
  by_cases g0 : n0 ≤ 131072
  · by_cases g1 : n ≤ 1048576
    · by_cases g2 : 1048576 < 8 * (n0 : Int) + n
      · rw [decide_eq_true g2]
        go_enter Tryd.func9, Tryd.ntmps9
        go_wp2
        go_ret
        exact ⟨rfl, rfl⟩
      · rw [decide_eq_false g2]
        go_enter Tryd.func9, Tryd.ntmps9
        go_wp2
        go_ret
        exact ⟨rfl, rfl⟩
    · rw [decide_eq_true (by omega)]
      go_enter Tryd.func9, Tryd.ntmps9
      go_wp2
      go_ret
      exact ⟨rfl, rfl⟩
  · rw [decide_eq_true (by omega)]
    go_enter Tryd.func9, Tryd.ntmps9
    go_wp2
    go_ret
    exact ⟨rfl, rfl⟩

/-! ### The law: the ways that end at once -/
set_option maxHeartbeats 400000 in
theorem mid_long (a0 a1 : Option Addr) (n0 c0 n1 c1 : Nat) (w : World) (h0 : n0 ≤ maxLen) (h1 : n1 ≤ maxLen) (hbig : ¬ (n0 + n1 ≤ 1048576)) :
    Calls Tryd.prog 4 #[.slice a0 n0 c0, .slice a1 n1 c1] w fun e w' => e = .returned (.bool true) ∧ Below w.heap.size w w' := by
  have hZ := zzBytes4 a0 a1 n0 c0 n1 c1 w h0 h1 false (decide_eq_false hbig)
  unfold maxLen at h0 h1
  go_enter Tryd.func4, Tryd.ntmps4
  go_wp2_with fail
  refine hZ.mono ?_
  rintro e w' ⟨rfl, rfl⟩
  clear hZ
  go_wp2
  go_ret
  exact ⟨rfl, Below.refl _ _⟩

set_option maxHeartbeats 400000 in
theorem mid_big (a0 a1 : Option Addr) (n0 c0 n1 c1 : Nat) (w : World) (hsm : n0 + n1 ≤ 1048576) (hbig : 1048576 < 8 * n0 + 8 * n1) :
    Calls Tryd.prog 4 #[.slice a0 n0 c0, .slice a1 n1 c1] w fun e w' => e = .returned (.bool true) ∧ Below w.heap.size w w' := by
  have hZ := zzBytes4 a0 a1 n0 c0 n1 c1 w (by unfold maxLen; omega) (by unfold maxLen; omega) true (decide_eq_true hsm)
  have hT := failTooBig a0 n0 c0 (8 * (n1 : Int)) w (by omega) (by omega) (by omega) true (decide_eq_true (by omega))
  go_enter Tryd.func4, Tryd.ntmps4
  go_wp2_with fail
  refine hZ.mono ?_
  rintro e w' ⟨rfl, rfl⟩
  clear hZ
  go_wp2_with fail
  refine hT.mono ?_
  rintro e w' ⟨rfl, rfl⟩
  clear hT
  go_wp2
  go_ret
  exact ⟨rfl, Below.refl _ _⟩

set_option maxHeartbeats 2000000 in
theorem mid_main (a0 a1 : Option Addr) (c0 c1 : Nat) (xs ys : List Nat) (w : World) (a : Addr) (hm : Malf w a) (hg : 0 < w.heap.size) (hX : U64s w a0 xs) (hY : U64s w a1 ys) (hsm : 8 * xs.length + 8 * ys.length ≤ 1048576) :
    Calls Tryd.prog 4 #[.slice a0 xs.length c0, .slice a1 ys.length c1] w fun e w' => e = .returned (.bool true) ∧ Below w.heap.size w w' := by
  have hZ := zzBytes4 a0 a1 xs.length c0 ys.length c1 w (by unfold maxLen; omega) (by unfold maxLen; omega) true (decide_eq_true (by omega))
  have hT := failTooBig a0 xs.length c0 (8 * (ys.length : Int)) w (by omega) (by omega) (by omega) false (decide_eq_false (by omega))
  have hx8 : xs.length ≤ 131072 := by omega
  have hy8 : ys.length ≤ 131072 := by omega
  go_enter Tryd.func4, Tryd.ntmps4
  go_wp2_with fail
  refine hZ.mono ?_
  rintro e w1 ⟨rfl, hw⟩
  replace hw := hw.symm
  subst hw
  clear hZ
  go_wp2_with fail
  refine hT.mono ?_
  rintro e w1 ⟨rfl, hw⟩
  replace hw := hw.symm
  subst hw
  clear hT
  go_wp2
  go_loopw [6] (fun i wr => ∃ (k : Nat) (v : Value), k ≤ xs.length ∧ i = .int .i64 k ∧ Enc wr w.heap.size v (encU (xs.take k)) ∧ (∀ j, v.ownBlock = some j → w.heap.size < j) ∧ Below w.heap.size w wr)
    (fun i _ => xs.length - (intOf i).toNat)
  case atStart =>
    refine ⟨0, .slice none 0 0, Nat.zero_le _, rfl, ⟨⟨0, heap_alloc_new _ _⟩, World.ownsRow_nil _ _ _ _⟩, fun j hj => by simp [Value.ownBlock] at hj, (Below.refl _ _).alloc (Nat.le_refl _) _⟩
  case round =>
    obtain ⟨k, v, hk, rfl, hE, hv, hB⟩ := hrel
    have hlt1 : w.heap.size < wr.heap.size := lt_of_block hE.box.choose_spec
    have hlen := encU_length (xs.take k) (fun x hx => hX.lt x (List.mem_of_mem_take hx))
    have hlen2 : (xs.take k).length ≤ k := List.length_take_le _ _
    by_cases hlt : k < xs.length
    · obtain ⟨b, o, ha, hc⟩ := hX.cell (by omega)
      have hcx := hX.at ha hc hB k hlt
      subst ha
      have hxk := hX.lt xs[k] (List.getElem_mem hlt)
      have hU := enc_uvarint w.heap.size xs[k] v _ wr hE hxk (by omega)
      rw [← encU_snoc xs k hlt] at hU
      clear hlen hlen2 hE hc
      go_wp2_with fail
      refine hU.mono ?_
      rintro e w2 ⟨rfl, v', hE', hK, hM⟩
      obtain ⟨hB', hv'⟩ := enc_step hB (Nat.le_refl _) hv (Nat.le_refl _) hlt1 hK hM
      clear hU hK hM hB hv hcx
      go_wp2
      go_roundw
      case rel => exact ⟨k + 1, v', by omega, by go_num, hE', hv', hB'⟩
      case measure => simp [intOf]; omega
    · obtain rfl : k = xs.length := by omega
      rw [List.take_length] at hE
      clear hlen hlen2
      go_wp2
      go_loopw [7] (fun i wq => ∃ (k : Nat) (v : Value), k ≤ ys.length ∧ i = .int .i64 k ∧ Enc wq w.heap.size v (encU (xs ++ ys.take k)) ∧ (∀ j, v.ownBlock = some j → w.heap.size < j) ∧ Below w.heap.size w wq)
        (fun i _ => ys.length - (intOf i).toNat)
      case atStart => exact ⟨0, v, Nat.zero_le _, rfl, by simpa using hE, hv, hB⟩
      case round =>
        clear hE hv hB hlt1 v
        obtain ⟨k, v, hk, rfl, hE, hv, hB⟩ := hrel
        have hlt1 : w.heap.size < wr.heap.size := lt_of_block hE.box.choose_spec
        have hlen := encU_length (xs ++ ys.take k) (fun x hx => by
          rcases List.mem_append.1 hx with h | h
          · exact hX.lt x h
          · exact hY.lt x (List.mem_of_mem_take h))
        have hlen2 : (ys.take k).length ≤ k := List.length_take_le _ _
        rw [List.length_append] at hlen
        by_cases hlt : k < ys.length
        · obtain ⟨b, o, ha, hc⟩ := hY.cell (by omega)
          have hcx := hY.at ha hc hB k hlt
          subst ha
          have hyk := hY.lt ys[k] (List.getElem_mem hlt)
          have hU := enc_uvarint w.heap.size ys[k] v _ wr hE hyk (by omega)
          rw [encU_append, List.append_assoc, ← encU_snoc ys k hlt, ← encU_append] at hU
          clear hlen hlen2 hE hc
          go_wp2_with fail
          refine hU.mono ?_
          rintro e w2 ⟨rfl, v', hE', hK, hM⟩
          obtain ⟨hB', hv'⟩ := enc_step hB (Nat.le_refl _) hv (Nat.le_refl _) hlt1 hK hM
          clear hU hK hM hB hv hcx
          go_wp2
          go_roundw
          case rel => exact ⟨k + 1, v', by omega, by go_num, hE', hv', hB'⟩
          case measure => simp [intOf]; omega
        · obtain rfl : k = ys.length := by omega
          rw [List.take_length] at hE hlen
          -- the record is written: the decoder is made
          have hS := sees_own hE.own
          obtain ⟨t, hbox⟩ := hE.box
          have hc0 : wr.cell? ⟨w.heap.size, 0, none⟩ = some v := by rw [blk_cell hbox]; rfl
          obtain ⟨ao, n, c, hvv⟩ := hS.shape
          subst hvv
          have hN := newDec _ _ wr hS
          have hneb : (Value.slice ao n c).ownBlock ≠ some (wr.heap.size + 1) := by
            intro e
            have := (hE.own.lt _ e).2
            omega
          have hlim : (encU (xs ++ ys)).length ≤ 140737488355328 := by omega
          have hD := dec_made (.cells #[.slice ao n c, .int .i64 0, .nilIface] 34) hS hB (Nat.le_refl _)
          have hdbw : w.heap.size < wr.heap.size + 1 := by omega
          clear hlen hlen2 hE hbox
          go_wp2_with fail
          refine hN.mono ?_
          rintro e w2 ⟨rfl, rfl⟩
          clear hN
          go_wp2
          generalize hdbE : wr.heap.size + 1 = db at hD hneb hdbw ⊢
          clear hdbE
          go_loopw [9] (fun i wq => ∃ (k : Nat) (v : Value), k ≤ xs.length ∧ i = .int .i64 k ∧ Dec wq db v .nilIface ∧ Sees wq v (encU (xs.drop k ++ ys)) ∧ v.ownBlock ≠ some db ∧ Below w.heap.size w wq)
            (fun i _ => xs.length - (intOf i).toNat)
          case atStart => exact ⟨0, _, Nat.zero_le _, rfl, hD.1, hD.2.1, hneb, hD.2.2⟩
          case round =>
            clear hD hneb hB hS hc0 hlt1 hv hk
            obtain ⟨k, v, hk, rfl, hD, hS, hne, hB⟩ := hrel
            by_cases hlt : k < xs.length
            · obtain ⟨b, o, ha, hc⟩ := hX.cell (by omega)
              have hcx := hX.at ha hc hB k hlt
              have hxk := hX.lt xs[k] (List.getElem_mem hlt)
              have hbdb : b ≠ db := by have := World.block_lt_of_cell? w _ (hc k hlt); simp at this; omega
              subst ha
              rw [encU_append, encU_drop xs k hlt, List.append_assoc, ← encU_append] at hS
              have hl2 : (Lib.uvarint xs[k] ++ encU (List.drop (k + 1) xs ++ ys)).length ≤ 140737488355328 := by
                rw [encU_append, ← List.append_assoc, ← encU_drop xs k hlt, List.length_append]
                have h1 := encU_length (xs.drop k) (fun x hx => hX.lt x (List.mem_of_mem_drop hx))
                have h2 := encU_length ys hY.lt
                have h3 : (xs.drop k).length ≤ xs.length := by simp
                omega
              go_wp2_with fail
              go_region_with (go_at_call 16; refine (decu_some db xs[k] v .nilIface _ _ (by exact hD) hxk (by exact hS) hl2 hne).mono ?_; rintro e w2 ⟨rfl, v', hD2, hS2, hv2, hK2⟩; have hcx2 := hK2.cell (by exact hcx) hbdb)
              all_goals
                have hB2 : Below w.heap.size w w2 := dec_step hB.drew (Nat.le_of_lt hdbw) (Nat.le_refl _) hK2
                clear hcx hcx2 hK2 hD hS hc hbdb
                go_wp2
                go_roundw
                case rel => exact ⟨k + 1, v', by omega, by go_num, hD2, hS2, hv2 ▸ hne, hB2⟩
                case measure => simp [intOf]; omega
            · obtain rfl : k = xs.length := by omega
              have hmr : Malf wr a := (hB.cell (p := ⟨0, 0, none⟩) hg).trans hm
              have hEr := zzErr db v .nilIface wr hD
              go_wp2_with fail
              refine hEr.mono ?_
              rintro e w1 ⟨rfl, hw⟩
              replace hw := hw.symm
              subst hw
              clear hEr
              have hFm := fail_malf db v a false wr hD hmr
              go_wp2_with fail
              refine hFm.mono ?_
              rintro e w2 ⟨rfl, hD2, hK2⟩
              have hB2 : Below w.heap.size w w2 := dec_step hB (Nat.le_of_lt hdbw) (Nat.le_refl _) hK2
              have hm2 : Malf w2 a := (hB2.cell (p := ⟨0, 0, none⟩) hg).trans hm
              clear hFm hK2 hmr hD hS hB
              have hEr := zzErr db _ _ w2 hD2
              have hR := zzRest db _ _ w2 hD2
              simp only [errV] at hEr
              go_wp2_with fail
              refine hEr.mono ?_
              rintro e w1 ⟨rfl, hw⟩
              replace hw := hw.symm
              subst hw
              clear hEr
              go_wp2_with fail
              refine hR.mono ?_
              rintro e w1 ⟨rfl, hw⟩
              replace hw := hw.symm
              subst hw
              clear hR
              go_wp2
              go_loopw [10] (fun i wq => ∃ k : Nat, k ≤ ys.length ∧ i = .int .i64 k ∧ Dec wq db (.slice none 0 0) (errV a true) ∧ Below w.heap.size w wq)
                (fun i _ => ys.length - (intOf i).toNat)
              case atStart => exact ⟨0, Nat.zero_le _, rfl, hD2, hB2⟩
              case round =>
                clear hD2 hB2 hm2
                obtain ⟨k, hk, rfl, hD, hB⟩ := hrel
                by_cases hlt : k < ys.length
                · have hmr : Malf wr a := (hB.cell (p := ⟨0, 0, none⟩) hg).trans hm
                  have hU := decu_nil db _ a true wr hD (.inl ⟨rfl, none, 0, rfl⟩) hmr
                  go_wp2_with fail
                  refine hU.mono ?_
                  rintro e w3 ⟨rfl, hD3, hK3⟩
                  have hB3 : Below w.heap.size w w3 := dec_step hB (Nat.le_of_lt hdbw) (Nat.le_refl _) hK3
                  clear hU hmr hK3 hD hB
                  go_wp2
                  go_roundw
                  case rel => exact ⟨k + 1, by omega, by go_num, hD3, hB3⟩
                  case measure => simp [intOf]; omega
                · have hEr := zzErr db _ _ wr hD
                  simp only [errV] at hEr
                  go_wp2_with fail
                  refine hEr.mono ?_
                  rintro e w1 ⟨rfl, hw⟩
                  replace hw := hw.symm
                  subst hw
                  clear hEr
                  go_wp2
                  go_ret
                  exact ⟨rfl, hB⟩

end Go.Proofs.Qxb6612988aDoor

/-
  Decoder.KeyResult, ZZDecKeyResult, zzKeptEq, by their contracts.
-/
import Derived.Test.Qxb6612988aDoorLawCut
namespace Go.Proofs.Qxb6612988aDoor
open Go.RowKit

theorem encR_ge (kf : Nat → List Int) (i : Nat) (zss : List (List Int)) : zss.length ≤ (encR kf i zss).length := by
  induction zss generalizing i with
  | nil => simp
  | cons z r ih =>
    have h1 := encKL_two (kf i) z
    have h2 := ih (i + 1)
    simp only [encR, List.length_append, List.length_cons]
    omega
theorem encR_drop (kf : Nat → List Int) (zss : List (List Int)) (k : Nat) (h : k < zss.length) : encR kf k (zss.drop k) = encKL (kf k) zss[k] ++ encR kf (k + 1) (zss.drop (k + 1)) := by
  rw [List.drop_eq_getElem_cons h]
  rfl

theorem GotL.keptAt {S : Nat → Prop} {w0 w w' : World} {v : Value} {zs : List Int} (h : GotL w0 w v zs) (k : Kept S w w') (hS : ∀ j, v.ownBlock = some j → ¬ S j) : GotL w0 w' v zs := ⟨h.1.keptAt k hS, h.2⟩
theorem GotL.old {w0 w1 w : World} {v : Value} {zs : List Int} (h : GotL w1 w v zs) (hs : w0.heap.size ≤ w1.heap.size) : GotL w0 w v zs := ⟨h.1.mono (fun j _ hj => by omega), h.2⟩

/-- The rows that have been read: the first k. -/
def RowGot (w0 w : World) (b n k : Nat) (zss : List (List Int)) : Prop :=
  ∃ cur : Array Value, w.heap[b]? = some (.cells cur 42 (0, 0)) ∧ cur.size = n ∧ ∀ j (hj : j < zss.length), j < k → ∃ lv, cur[j]? = some lv ∧ GotL w0 w lv zss[j]

theorem RowGot.keptD {S : Nat → Prop} {w0 w w' : World} {b n k db : Nat} {cs : Array Value} {zss : List (List Int)} (h : RowGot w0 w b n k zss) (hk : Kept S w w') (hS : ∀ j, S j → j = db) (hdb : w.heap[db]? = some (.cells cs 34 (0, 0))) : RowGot w0 w' b n k zss := by
  obtain ⟨cur, hb, hs, hc⟩ := h
  have hne : b ≠ db := by rintro rfl; rw [hb] at hdb; simp at hdb
  refine ⟨cur, hk.here hb (fun f => hne (hS _ f)), hs, fun j hj hjk => ?_⟩
  obtain ⟨lv, h1, h2⟩ := hc j hj hjk
  exact ⟨lv, h1, h2.keptAt hk (fun i hi f => h2.1.off hdb (by decide) i hi (hS _ f))⟩

theorem RowGot.step {w0 w : World} {b n k : Nat} {zss : List (List Int)} (h : RowGot w0 w b n k zss) (hk : k < n) (hkz : k < zss.length) {v : Value} (hv : GotL w0 w v zss[k]) : RowGot w0 (w.setCell ⟨b, k, none⟩ v) b n (k + 1) zss := by
  obtain ⟨cur, hb, hs, hc⟩ := h
  have hK : Kept (fun j => j = b) w (w.setCell ⟨b, k, none⟩ v) := (Kept.refl (fun j => j = b) w).setCell (p := ⟨b, k, none⟩) (fun _ => rfl) v
  refine ⟨_, blk_set hb k v, by simp [hs], fun j hj hjk => ?_⟩
  by_cases e : j = k
  · subst e
    exact ⟨v, by simp [hs, hk], hv.keptAt hK (hv.1.off hb (by decide))⟩
  · obtain ⟨lv, h1, h2⟩ := hc j hj (by omega)
    exact ⟨lv, by rw [Array.getElem?_setIfInBounds, if_neg (by omega)]; exact h1, h2.keptAt hK (h2.1.off hb (by decide))⟩

/-- What a KeyResult reads. -/
def GotR (w w' : World) (rv : Value) (zss : List (List Int)) : Prop :=
  (zss = [] ∧ rv = .slice none 0 0) ∨ (zss ≠ [] ∧ ∃ g, rv = .slice (some ⟨g, 0, none⟩) zss.length zss.length ∧ w.heap.size ≤ g ∧ RowGot w w' g zss.length zss.length zss)

set_option maxRecDepth 100000 in
set_option maxHeartbeats 8000000 in
theorem dec_keyResult (db kb : Nat) (most : Int) (A : List (ByteArray × List Int)) (F : Nat → Prop) (v err ov : Value) (keys : List ByteArray) (r : List UInt8) (zss : List (List Int)) (w : World)
    (hd : Dec w db v err) (hk : KL w kb most A F) (ho : OpsAt w ov keys) (hv : Sees w v (Lib.uvarint zss.length ++ (encR (fun i => (kget A (keyOf' keys i)).getD []) 0 zss ++ r))) (hne : v.ownBlock ≠ some db)
    (hF : ∀ j, F j → j ≠ db ∧ j < w.heap.size) (hO : ∀ j, ov.ownBlock = some j → j ≠ db ∧ j < w.heap.size) (hz : ∀ z ∈ zss, z.length ≤ 1048576 ∧ ∀ y ∈ z, I64 y) (hl : zss.length ≤ 1048576)
    (hlim : (Lib.uvarint zss.length ++ (encR (fun i => (kget A (keyOf' keys i)).getD []) 0 zss ++ r)).length ≤ 1073741824) :
    Calls Tryd.prog 49 #[.pointer (some ⟨db, 0, none⟩), .pointer (some ⟨kb, 0, none⟩), .agg #[ov]] w fun e w' => ∃ rv, e = .returned (resV rv) ∧ GotR w w' rv zss ∧ ∃ v', Dec w' db v' err ∧ Sees w' v' r ∧ v'.ownBlock = v.ownBlock ∧ Kept (fun k => k = db) w w' := by
  obtain ⟨oa, oc, e2, hol, hright⟩ := ho.form
  clear hright
  obtain ⟨kf, hkf⟩ : ∃ kf : Nat → List Int, kf = fun i => (kget A (keyOf' keys i)).getD [] := ⟨_, rfl⟩
  rw [← hkf] at hv hlim
  have HKF : Hid (kf = fun i => (kget A (keyOf' keys i)).getD []) := hkf
  have hvlt := hv.lt (by have := Lib.uvarint_pos zss.length; rw [List.length_append]; omega)
  have HVLT : Hid (∀ j, v.ownBlock = some j → j < w.heap.size) := hvlt
  have hge := encR_ge kf 0 zss
  have kA : Kept (fun k => k = db) w (w.alloc (.cells #[ov] 77)) := (Kept.refl _ _).alloc _
  have hdb := lt_of_block hd
  have hC := count_some db zss.length v err _ (w.alloc (.cells #[ov] 77)) (hd.kept ((Kept.refl (fun _ => False) w).alloc _) (fun f => f)) (by rw [List.length_append]; omega) (hv.kept ((Kept.refl (fun _ => False) w).alloc _) (fun _ _ f => f)) (by omega) hne
  have hbox0 : (w.alloc (.cells #[ov] 77)).cell? ⟨w.heap.size, 0, none⟩ = some ov := by rw [World.cell?_alloc_new]; rfl
  have HLEN : Hid (∀ k, k ≤ zss.length → (encR kf k (zss.drop k) ++ r).length ≤ 1073741824) := by
    intro k hk
    have e1 := encR_append kf 0 (zss.take k) (zss.drop k)
    rw [List.take_append_drop, List.length_take, Nat.min_eq_left hk, Nat.zero_add] at e1
    simp only [List.length_append, e1] at hlim ⊢
    omega
  obtain ⟨i0, hi, hz0, hz1, hz2⟩ := info_parts infoRow
  clear hvlt hge hv hkf hlim
  subst e2
  go_enter Tryd.func49, Tryd.ntmps49
  go_wp2_with fail
  refine hC.mono ?_
  rintro e w1 ⟨rfl, v1, hD1, hS1, hO1, hk1⟩
  clear hC
  have hk01 := kA.trans hk1 (fun _ _ h => h)
  have hbox1 := hk1.cell hbox0 (by simp; omega)
  have hsz1 := hk1.size
  simp at hsz1
  by_cases hz00 : zss = []
  · subst hz00
    have hS1' : Sees w1 v1 r := by simpa [encR] using hS1
    have hr := result_any none 0 0 w1
    clear hS1
    go_wp2
    go_ret
    exact ⟨.slice none 0 0, rfl, .inl ⟨rfl, rfl⟩, v1, hD1, hS1', hO1, hk01⟩
  · have hzpos : 0 < zss.length := List.length_pos_iff.2 hz00
    have hzb : ((zss.length : Int) == 0) = false := by rw [beq_eq_false_iff_ne]; omega
    go_wp2_with (refine wpList_make_full _ rfl (.tmp 14) (.tmp 14) 69 rfl 0 42 i0 (.slice none 0 0) 1 Tryd.underlying69 hi hz0 hz1 .i64 .i64 _ _ zss.length rfl rfl rfl rfl ?q1 ?q2 ?q3 ?q4)
    case q1 => rw [hz2]; omega
    case q2 => unfold maxLen; omega
    case q3 => exact Nat.zero_le _
    case q4 =>
      intro w2 hown hgr
      have hrow : RowGot w w2 w1.heap.size zss.length 0 zss := by
        rcases hown.2 with ⟨e, _⟩ | ⟨g', cap, cur, e, _, hb, _, _, hs, _⟩
        · cases e
        · cases e; exact ⟨cur, hb, by simpa using hs, fun j _ hj => by omega⟩
      have hkf2 : Kept (fun _ => False) w1 w2 := (Kept.refl _ _).grown hgr (fun k h => by cases h)
      have hD2 := hD1.kept hkf2 (fun f => f)
      have hS2 := hS1.kept hkf2 (fun _ _ f => f)
      have hbox2 := hkf2.cell hbox1 (fun f => f)
      have hsz2 := hkf2.size
      have hk02 : Kept (fun k => k = db) w w2 := hk01.trans hkf2 (fun _ _ f => f.elim)
      clear hown hgr hD1 hS1 hbox1 hkf2 hk01 hk1 hbox0 kA hi hz0 hz1 hz2
      have hgw : w.heap.size < w1.heap.size := by omega
      have HZ : Hid (∀ z ∈ zss, z.length ≤ 1048576 ∧ ∀ y ∈ z, I64 y) := hz
      have HO : Hid (OpsAt w (.slice oa keys.length oc) keys) := ho
      have HOO : Hid (∀ j, (Value.slice oa keys.length oc).ownBlock = some j → j ≠ db ∧ j < w.heap.size) := hO
      have HFF : Hid (∀ j, F j → j ≠ db ∧ j < w.heap.size) := hF
      clear hz ho hO hF hd
      go_wp2
      go_loopw [9, 18] (fun _ i wr => ∃ (k : Nat) (dv : Value), k ≤ zss.length ∧ i = .int .i64 k ∧ RowGot w wr w1.heap.size zss.length k zss ∧ Dec wr db dv err ∧ Sees wr dv (encR kf k (zss.drop k) ++ r) ∧ dv.ownBlock = v.ownBlock ∧ Kept (fun j => j = db) w wr ∧ wr.cell? ⟨w.heap.size, 0, none⟩ = some (.slice oa keys.length oc) ∧ w1.heap.size ≤ wr.heap.size)
        (fun _ i _ => zss.length - (intOf i).toNat)
      case atStart => exact ⟨0, v1, Nat.zero_le _, rfl, hrow, hD2, by simpa using hS2, hO1, hk02, hbox2, hsz2⟩
      case round =>
        clear hrow hD2 hS2 hO1 hk02 hbox2
        obtain ⟨k, dv, hkl, rfl, hrow, hD, hS, hOd, hKr, hbox, hsz⟩ := hrel
        by_cases hlt : k < zss.length
        · have kB : ∀ S, Kept S wr (wr.alloc (.cells #[.slice oa keys.length oc] 77)) := fun S => (Kept.refl S wr).alloc _
          have hOK := opKey _ keys k wr (HO.out.kept hKr (fun j hj e => (HOO.out j hj).1 e)) (by omega)
          obtain ⟨q1, q2⟩ := HZ.out zss[k] (List.getElem_mem hlt)
          have hln := HLEN.out k hkl
          rw [encR_drop kf zss k hlt, List.append_assoc] at hS hln
          have hfk : kf k = (kget A (keyOf' keys k)).getD [] := congrFun HKF.out k
          rw [hfk] at hS hln
          have hDK := dec_keyList db kb most A F (keyOf' keys k) dv err _ zss[k] (wr.alloc (.cells #[.slice oa keys.length oc] 77)) (hD.kept (kB (fun _ => False)) (fun f => f)) ((hk.kept hKr (fun j hj e => (HFF.out j hj).1 e)).kept (kB (fun _ => False)) (fun _ _ f => f))
            (hS.kept (kB (fun _ => False)) (fun _ _ f => f)) (by rw [hOd]; exact hne) (fun j hj => (HFF.out j hj).1) q2 q1 hln
          have hrowB := hrow.keptD (db := db) (kB (fun _ => False)) (fun _ f => f.elim) hD
          have hDB := hD.kept (kB (fun _ => False)) (fun f => f)
          have hszr := hKr.size
          have hbox' := (kB (fun _ => False)).cell hbox (fun f => f)
          clear hS hln hfk q1 q2 hD hrow
          go_wp2_with fail
          refine hOK.mono ?_
          rintro e w4 ⟨rfl, rfl⟩
          clear hOK
          go_wp2_with fail
          refine hDK.mono ?_
          rintro e w5 ⟨lv, rfl, hG, v5, hD5, hS5, hO5, hk5⟩
          clear hDK
          have hG5 : GotL w w5 lv zss[k] := hG.old (by simp; omega)
          have hrow5 := hrowB.keptD hk5 (fun _ h => h) hDB
          have hbox5 := hk5.cell hbox' (by simp; omega)
          have hs5 := hk5.size
          simp at hs5
          have hK5 : Kept (fun j => j = db) w w5 := (hKr.trans (kB (fun j => j = db)) (fun _ _ h => h)).trans hk5 (fun _ _ h => h)
          obtain ⟨la, ln, lc, el⟩ := hG5.1.shape
          subst el
          have hst := hrow5.step hlt hlt hG5
          obtain ⟨cur, hb, hs, _⟩ := hrow5
          have d1 : w5.cell? ⟨w1.heap.size, k, none⟩ = some (cur[k]'(by omega)) := by rw [blk_cell hb]; simp [hs, hlt]
          have f1 := blk_frozen hb k
          have kS : Kept (fun j => j = w1.heap.size) w5 (w5.setCell ⟨w1.heap.size, k, none⟩ (.slice la ln lc)) := (Kept.refl (fun j => j = w1.heap.size) w5).setCell (p := ⟨w1.heap.size, k, none⟩) (fun _ => rfl) _
          have hD6 := hD5.kept kS (by omega)
          have hS6 := hS5.kept kS (fun j hj e => by rw [hO5, hOd] at hj; have := HVLT.out j hj; omega)
          have hbox6 := kS.cell hbox5 (by simp; omega)
          have hK6 : Kept (fun j => j = db) w (w5.setCell ⟨w1.heap.size, k, none⟩ (.slice la ln lc)) := hK5.trans kS (fun i hi e => by omega)
          have hsz6 : w1.heap.size ≤ (w5.setCell ⟨w1.heap.size, k, none⟩ (.slice la ln lc)).heap.size := by have := kS.size; omega
          rw [hOd] at hO5
          clear hb hG hG5 hrowB hbox5 kS kB hD5 hS5 hk5 hDB hK5 hKr hbox hbox'
          generalize cur[k]'(by omega) = x0 at *
          go_wp2
          go_roundw
          case rel => exact ⟨k + 1, v5, by omega, by go_num, hst, hD6, hS6, hO5, hK6, hbox6, hsz6⟩
          case measure => simp [intOf]; omega
        · obtain rfl : k = zss.length := by omega
          have hr := result_any (some ⟨w1.heap.size, 0, none⟩) zss.length zss.length wr
          have hfin : GotR w wr (.slice (some ⟨w1.heap.size, 0, none⟩) zss.length zss.length) zss ∧ ∃ v', Dec wr db v' err ∧ Sees wr v' r ∧ v'.ownBlock = v.ownBlock ∧ Kept (fun k => k = db) w wr :=
            ⟨.inr ⟨hz00, _, rfl, by omega, hrow⟩, dv, hD, by simpa [encR] using hS, hOd, hKr⟩
          clear hrow hD hS
          go_wp2_with fail
          refine hr.mono ?_
          rintro e w6 ⟨rfl, hw6⟩
          replace hw6 := hw6.symm
          subst hw6
          clear hr
          go_wp2
          go_ret
          exact ⟨_, rfl, hfin⟩

theorem GotR.shape {w w' : World} {rv : Value} {zss : List (List Int)} (h : GotR w w' rv zss) : ∃ ao, rv = .slice ao zss.length zss.length ∧ (ao = none → zss.length = 0 ∧ zss.length = 0) := by
  rcases h with ⟨rfl, rfl⟩ | ⟨_, g, rfl, _⟩
  · exact ⟨none, rfl, fun _ => ⟨rfl, rfl⟩⟩
  · exact ⟨_, rfl, fun e => by cases e⟩

set_option maxRecDepth 100000 in
set_option maxHeartbeats 4000000 in
theorem zzDecKeyResult (db kb : Nat) (most : Int) (A : List (ByteArray × List Int)) (F : Nat → Prop) (v err ov : Value) (keys : List ByteArray) (r : List UInt8) (zss : List (List Int)) (w : World)
    (hd : Dec w db v err) (hk : KL w kb most A F) (ho : OpsAt w ov keys) (hv : Sees w v (Lib.uvarint zss.length ++ (encR (fun i => (kget A (keyOf' keys i)).getD []) 0 zss ++ r))) (hne : v.ownBlock ≠ some db)
    (hF : ∀ j, F j → j ≠ db ∧ j < w.heap.size) (hO : ∀ j, ov.ownBlock = some j → j ≠ db ∧ j < w.heap.size) (hz : ∀ z ∈ zss, z.length ≤ 1048576 ∧ ∀ y ∈ z, I64 y) (hl : zss.length ≤ 1048576)
    (hlim : (Lib.uvarint zss.length ++ (encR (fun i => (kget A (keyOf' keys i)).getD []) 0 zss ++ r)).length ≤ 1073741824) :
    Calls Tryd.prog 39 #[.pointer (some ⟨db, 0, none⟩), .pointer (some ⟨kb, 0, none⟩), .agg #[ov]] w fun e w' => ∃ rv, e = .returned rv ∧ GotR w w' rv zss ∧ ∃ v', Dec w' db v' err ∧ Sees w' v' r ∧ v'.ownBlock = v.ownBlock ∧ Kept (fun k => k = db) w w' := by
  obtain ⟨oa, oc, e2, hol, hright⟩ := ho.form
  clear hright
  have kA : ∀ S, Kept S w (w.alloc (.cells #[ov] 77)) := fun S => (Kept.refl S w).alloc _
  have hD := dec_keyResult db kb most A F v err ov keys r zss (w.alloc (.cells #[ov] 77)) (hd.kept (kA (fun _ => False)) (fun f => f)) (hk.kept (kA (fun _ => False)) (fun _ _ f => f)) (ho.kept (kA (fun _ => False)) (fun _ _ f => f)) (hv.kept (kA (fun _ => False)) (fun _ _ f => f)) hne
    (fun j hj => ⟨(hF j hj).1, by have := (hF j hj).2; simp; omega⟩) (fun j hj => ⟨(hO j hj).1, by have := (hO j hj).2; simp; omega⟩) hz hl hlim
  clear hd hk ho hv hF hO hz hlim
  subst e2
  go_enter Tryd.func39, Tryd.ntmps39
  go_wp2_with fail
  refine hD.mono ?_
  rintro e w1 ⟨rv, rfl, hG, v1, hD1, hS1, hO1, hk1⟩
  obtain ⟨ao, er, hao⟩ := hG.shape
  subst er
  have hR := reads_any ao zss.length zss.length w1 hao
  have hfin : GotR w w1 (.slice ao zss.length zss.length) zss ∧ ∃ v', Dec w1 db v' err ∧ Sees w1 v' r ∧ v'.ownBlock = v.ownBlock ∧ Kept (fun k => k = db) w w1 := by
    refine ⟨?_, v1, hD1, hS1, hO1, (kA (fun k => k = db)).trans hk1 (fun _ _ h => h)⟩
    rcases hG with h | ⟨h1, g, h2, h3, cur, h4, h5, h6⟩
    · exact .inl h
    · simp at h3
      refine .inr ⟨h1, g, h2, by omega, cur, h4, h5, fun j hj hjk => ?_⟩
      obtain ⟨lv, q1, q2⟩ := h6 j hj hjk
      exact ⟨lv, q1, q2.old (by simp)⟩
  clear hD hG hD1 hS1 hk1 kA
  generalize hrv : resV (.slice ao zss.length zss.length) = rvv at *
  go_wp2_with fail
  refine hR.mono ?_
  rintro e w2 ⟨rfl, hw2⟩
  replace hw2 := hw2.symm
  subst hw2
  clear hR
  go_wp2
  go_ret
  exact ⟨_, rfl, hfin⟩

set_option maxRecDepth 100000 in
set_option maxHeartbeats 4000000 in
/-- Two KeyLists that keep the same. -/
theorem keptEq_same (ka kb : Nat) (most most' : Int) (A : List (ByteArray × List Int)) (F G : Nat → Prop) (key : ByteArray) (w : World) (ha : KL w ka most A F) (hb : KL w kb most' A G) :
    Calls Tryd.prog 32 #[.pointer (some ⟨ka, 0, none⟩), .pointer (some ⟨kb, 0, none⟩), .string key] w fun e w' => e = .returned (.bool true) ∧ ∃ n, w' = w.drewN n := by
  have h1 := zzKept_KL ka most A F key w ha
  have h2 := zzKept_KL kb most' A G key w hb
  clear ha hb
  generalize kget A key = o at *
  obtain ⟨b, eb⟩ : ∃ b, o.isSome = b := ⟨_, rfl⟩
  rw [eb] at h1 h2
  clear eb
  obtain ⟨zs, ez⟩ : ∃ zs, o.getD [] = zs := ⟨_, rfl⟩
  rw [ez] at h1 h2
  clear ez
  have hbb : (b == b) = true := by cases b <;> rfl
  go_enter Tryd.func32, Tryd.ntmps32
  go_wp2_with fail
  refine h1.mono ?_
  rintro e w1 ⟨⟨v1, rfl, hv1⟩, hw⟩
  replace hw := hw.symm
  subst hw
  obtain ⟨a1, c1, e1⟩ : ∃ a c, v1 = .slice a zs.length c := by obtain ⟨a, c, e, _⟩ := hv1.sees.form; exact ⟨a, c, e⟩
  subst e1
  clear h1
  go_wp2_with fail
  refine h2.mono ?_
  rintro e w1 ⟨⟨v2, rfl, hv2⟩, hw⟩
  replace hw := hw.symm
  subst hw
  obtain ⟨a2, c2, e2⟩ : ∃ a c, v2 = .slice a zs.length c := by obtain ⟨a, c, e, _⟩ := hv2.sees.form; exact ⟨a, c, e⟩
  subst e2
  clear h2
  have hl := hv1.len
  have hE := intsEq _ _ zs zs w hv1.sees hv2.sees (by unfold maxLen; omega) (by unfold maxLen; omega)
  rw [beq_self_eq_true] at hE
  clear hv1 hv2
  cases b
  all_goals
    go_wp2_with fail
    refine hE.mono ?_
    rintro e w1 ⟨rfl, n, hw⟩
    clear hE
    go_wp2
    go_ret
    exact ⟨rfl, n, rfl⟩

end Go.Proofs.Qxb6612988aDoor

/-
  RESULTS: opKey, result, reads, Encoder.KeyResult, ZZEncKeyResult, by their contracts.
-/
import Derived.Test.Qxb6612988aDoorKL
import Derived.Deep.DeepFit
namespace Go.Proofs.Qxb6612988aDoor
open Go.RowKit

/-- A slice of consort's operations: their keys. -/
structure OpsAt (w : World) (v : Value) (keys : List ByteArray) : Prop where
  form : ∃ ao c, v = .slice ao keys.length c ∧ keys.length ≤ 1048576 ∧ (0 < keys.length → ∃ g o, ao = some ⟨g, o, none⟩ ∧ keys.length ≤ c ∧ ∀ j (hj : j < keys.length), w.cell? ⟨g, o + j * 3 + 1, none⟩ = some (.string keys[j]))

def keyOf' (keys : List ByteArray) (i : Nat) : ByteArray := keys[i]?.getD ByteArray.empty

set_option maxHeartbeats 1000000 in
theorem opKey (v : Value) (keys : List ByteArray) (i : Nat) (w : World) (h : OpsAt w v keys) (hi : i ≤ 1048576) :
    Calls Tryd.prog 54 #[.agg #[v], .int .i64 i] w fun e w' => e = .returned (.string (keyOf' keys i)) ∧ w' = w.alloc (.cells #[v] 77) := by
  obtain ⟨ao, c, rfl, hl, hX⟩ := h.form
  clear h
  by_cases hlt : i < keys.length
  · obtain ⟨g, o, rfl, _, hcell⟩ := hX (by omega)
    have hcx := hcell i hlt
    have hg := World.block_lt_of_cell? w _ hcx
    simp at hg
    have hcx2 : (w.alloc (.cells #[.slice (some ⟨g, o, none⟩) keys.length c] 77)).cell? ⟨g, o + i * 3 + 1, none⟩ = some (.string keys[i]) := by
      rw [World.cell?_alloc_past _ _ _ hg]; exact hcx
    have HK : Hid (keyOf' keys i = keys[i]) := by unfold Hid keyOf'; simp [hlt]
    clear hX hcell
    go_enter Tryd.func54, Tryd.ntmps54
    go_wp2
    go_ret
    exact ⟨congrArg (fun q => Ending.returned (.string q)) HK.out.symm, rfl⟩
  · have HK : Hid (keyOf' keys i = ByteArray.empty) := by unfold Hid keyOf'; rw [List.getElem?_eq_none (by omega)]; rfl
    clear hX
    go_enter Tryd.func54, Tryd.ntmps54
    go_wp2
    go_ret
    exact ⟨congrArg (fun q => Ending.returned (.string q)) HK.out.symm, rfl⟩

/-- A list of lists as consort's Result: nil for nil. -/
def resV : Value → Value
  | .slice none _ _ => .nilIface
  | v => .iface 110 v

set_option maxHeartbeats 1000000 in
theorem result_any (ao : Option Addr) (n c : Nat) (w : World) :
    Calls Tryd.prog 47 #[.slice ao n c] w fun e w' => e = .returned (resV (.slice ao n c)) ∧ w' = w := by
  have hnil := fun (r : Option Addr) (n c n' c' : Nat) (wx : World) => Lib.run_eql_slice_nil (P := Tryd.prog) wx _ _ r n c n' c' Tryd.underlying69
  cases ao with
  | none =>
    go_enter Tryd.func47, Tryd.ntmps47
    go_wp2
    go_ret
    exact ⟨rfl, rfl⟩
  | some a =>
    go_enter Tryd.func47, Tryd.ntmps47
    go_wp2
    go_ret
    exact ⟨rfl, rfl⟩

theorem assertReads (v : Value) (w : World) : (Instr.typeAssert (.iface 110 v) 99 110 false).run Tryd.prog w = .ok v w := by kernel_rfl

set_option maxRecDepth 100000 in
set_option maxHeartbeats 1000000 in
theorem reads_any (ao : Option Addr) (n c : Nat) (w : World) (h0 : ao = none → n = 0 ∧ c = 0) :
    Calls Tryd.prog 48 #[resV (.slice ao n c)] w fun e w' => e = .returned (.slice ao n c) ∧ w' = w := by
  cases ao with
  | none =>
    obtain ⟨rfl, rfl⟩ := h0 rfl
    simp only [resV]
    go_enter Tryd.func48, Tryd.ntmps48
    go_wp2
    go_ret
    exact ⟨rfl, rfl⟩
  | some a =>
    simp only [resV]
    have has := assertReads
    go_enter Tryd.func48, Tryd.ntmps48
    go_wp2
    go_ret
    exact ⟨rfl, rfl⟩

/-- A list of lists: each row's list lies in F. -/
structure RowsAt (w : World) (F : Nat → Prop) (v : Value) (zss : List (List Int)) : Prop where
  form : ∃ ao c, v = .slice ao zss.length c ∧ (ao = none → c = 0) ∧ zss.length ≤ 1048576 ∧ (0 < zss.length → ∃ g o, ao = some ⟨g, o, none⟩ ∧ zss.length ≤ c ∧ F g ∧ ∀ j (hj : j < zss.length), ∃ lv, w.cell? ⟨g, o + j, none⟩ = some lv ∧ Holds w F lv zss[j])

theorem RowsAt.kept {S F : Nat → Prop} {w w' : World} {v : Value} {zss : List (List Int)} (h : RowsAt w F v zss) (k : Kept S w w') (hS : ∀ j, F j → ¬ S j) : RowsAt w' F v zss := by
  obtain ⟨ao, c, h1, h2, h3, h4⟩ := h.form
  refine ⟨ao, c, h1, h2, h3, fun hp => ?_⟩
  obtain ⟨g, o, e, hcap, hg, hc⟩ := h4 hp
  refine ⟨g, o, e, hcap, hg, fun j hj => ?_⟩
  obtain ⟨lv, h5, h6⟩ := hc j hj
  exact ⟨lv, k.cell h5 (hS g hg), h6.kept k hS⟩

theorem OpsAt.kept {S : Nat → Prop} {w w' : World} {v : Value} {keys : List ByteArray} (h : OpsAt w v keys) (k : Kept S w w') (hS : ∀ j, v.ownBlock = some j → ¬ S j) : OpsAt w' v keys := by
  obtain ⟨ao, c, rfl, h3, h4⟩ := h.form
  refine ⟨ao, c, rfl, h3, fun hp => ?_⟩
  obtain ⟨g, o, rfl, hcap, hc⟩ := h4 hp
  exact ⟨g, o, rfl, hcap, fun j hj => k.cell (hc j hj) (hS g rfl)⟩

/-! ### The bytes of a result -/
/-- Read by read, the i-th against the kept list kf i. -/
def encR (kf : Nat → List Int) : Nat → List (List Int) → List UInt8
  | _, [] => []
  | i, z :: r => encKL (kf i) z ++ encR kf (i + 1) r
theorem encR_append (kf : Nat → List Int) (i : Nat) (a b : List (List Int)) : encR kf i (a ++ b) = encR kf i a ++ encR kf (i + a.length) b := by
  induction a generalizing i with
  | nil => rfl
  | cons z r ih => simp only [List.cons_append, encR, ih, List.append_assoc, List.length_cons]; rw [show i + 1 + r.length = i + (r.length + 1) by omega]
theorem encR_snoc (kf : Nat → List Int) (zss : List (List Int)) (k : Nat) (h : k < zss.length) : encR kf 0 (zss.take (k + 1)) = encR kf 0 (zss.take k) ++ encKL (kf k) zss[k] := by
  rw [List.take_succ_eq_append_getElem h, encR_append, List.length_take, Nat.min_eq_left (by omega)]
  simp [encR]
theorem encKL_length (ks zs : List Int) (h : zs.length ≤ 1048576) : (encKL ks zs).length ≤ 10 * zs.length + 20 := by
  have hc : cpre zs ks ≤ zs.length := by
    induction zs generalizing ks with
    | nil => simp [cpre]
    | cons a r ih =>
      cases ks with
      | nil => simp [cpre]
      | cons b s =>
        simp only [cpre]
        split
        · have := ih s (by simp at h; omega); simp; omega
        · simp
  have h1 := Lib.uvarint_length64 (x := cpre zs ks) (by omega)
  have h2 := Lib.uvarint_length64 (x := (zs.drop (cpre zs ks)).length) (by rw [List.length_drop]; omega)
  have h3 := encD_length (lastOr 0 (zs.take (cpre zs ks))) (zs.drop (cpre zs ks))
  rw [List.length_drop] at h3
  unfold encKL
  simp only [List.length_append]
  omega
/-- The sum of the lists' lengths. -/
def total : List (List Int) → Nat
  | [] => 0
  | z :: r => z.length + total r
theorem total_append (a b : List (List Int)) : total (a ++ b) = total a + total b := by
  induction a with
  | nil => simp [total]
  | cons z r ih => simp only [List.cons_append, total, ih]; omega
theorem encR_length (kf : Nat → List Int) (i : Nat) (zss : List (List Int)) (h : ∀ z ∈ zss, z.length ≤ 1048576) : (encR kf i zss).length ≤ 10 * total zss + 20 * zss.length := by
  induction zss generalizing i with
  | nil => simp [encR]
  | cons z r ih =>
    have h1 := encKL_length (kf i) z (h z (by simp))
    have h2 := ih (i + 1) (fun y hy => h y (by simp [hy]))
    simp only [encR, List.length_append, total, List.length_cons]
    omega
theorem total_take (zss : List (List Int)) (k : Nat) : total (zss.take k) ≤ total zss := by
  have := total_append (zss.take k) (zss.drop k)
  rw [List.take_append_drop] at this
  omega

/-! ### Encoder.KeyResult -/
set_option maxRecDepth 100000 in
set_option maxHeartbeats 4000000 in
theorem enc_keyResult (eb kb : Nat) (most : Int) (A : List (ByteArray × List Int)) (F R : Nat → Prop) (v ov rv : Value) (keys : List ByteArray) (l : List UInt8) (zss : List (List Int)) (w : World)
    (h : Enc w eb v l) (hk : KL w kb most A F) (ho : OpsAt w ov keys) (hr : RowsAt w R rv zss)
    (hF : ∀ j, F j → j < w.heap.size ∧ j ≠ eb ∧ v.ownBlock ≠ some j) (hR : ∀ j, R j → j < w.heap.size ∧ j ≠ eb ∧ v.ownBlock ≠ some j ∧ ¬ F j) (hO : ∀ j, ov.ownBlock = some j → j < w.heap.size ∧ j ≠ eb ∧ v.ownBlock ≠ some j)
    (htot : total zss ≤ 1048576) (hlim : l.length ≤ 1073741824) :
    Calls Tryd.prog 46 #[.pointer (some ⟨eb, 0, none⟩), .pointer (some ⟨kb, 0, none⟩), .agg #[ov], resV rv] w fun e w' => e = .returned (.tuple #[]) ∧ ∃ v', Enc w' eb v' (l ++ (Lib.uvarint zss.length ++ encR (fun i => (kget A (keyOf' keys i)).getD []) 0 zss)) ∧ Wrote eb w w' v v' := by
  obtain ⟨ao, c, e1, hn, hl, hX⟩ := hr.form
  obtain ⟨oa, oc, e2, hol, _⟩ := ho.form
  have hzl : ∀ z ∈ zss, z.length ≤ 1048576 := by
    intro z hz
    obtain ⟨i, hi, rfl⟩ := List.getElem_of_mem hz
    obtain ⟨g, o, _, _, _, hc⟩ := hX (by omega)
    obtain ⟨lv, _, hv⟩ := hc i hi
    exact hv.len
  have heb := lt_of_block h.box.choose_spec
  have hz0 : ao = none → zss.length = 0 := by
    intro e
    rcases Nat.eq_zero_or_pos zss.length with h0 | h0
    · exact h0
    · obtain ⟨g, o, e', _⟩ := hX h0
      rw [e] at e'
      cases e'
  subst e1
  subst e2
  obtain ⟨W, hW⟩ : ∃ W, W = w.alloc (.cells #[.slice oa keys.length oc] 77) := ⟨_, rfl⟩
  have hKW : ∀ S, Kept S w W := fun S => by rw [hW]; exact (Kept.refl S w).alloc _
  have hsz : W.heap.size = w.heap.size + 1 := by rw [hW]; simp
  have hbx : W.heap[w.heap.size]? = some (.cells #[.slice oa keys.length oc] 77 (0, 0)) := by rw [hW]; exact heap_alloc_new _ _
  have hRd := reads_any ao zss.length c W (fun e => ⟨hz0 e, hn e⟩)
  have hEW : Enc W eb v l := by rw [hW]; exact h.alloc _
  have hvlt : ∀ j, v.ownBlock = some j → j < w.heap.size := fun j hj => (h.own.lt j hj).2
  have hn64 := Lib.uvarint_length64 (x := zss.length) (by omega)
  have hU := enc_uvarint eb zss.length v l W hEW (by omega) (by omega)
  have HX : Hid (0 < zss.length → ∃ g o, ao = some ⟨g, o, none⟩ ∧ zss.length ≤ c ∧ R g ∧ ∀ j (hj : j < zss.length), ∃ lv, w.cell? ⟨g, o + j, none⟩ = some lv ∧ Holds w R lv zss[j]) := hX
  have HW : Hid (W = w.alloc (.cells #[.slice oa keys.length oc] 77)) := hW
  have HBX : Hid (W.heap[w.heap.size]? = some (.cells #[.slice oa keys.length oc] 77 (0, 0))) := hbx
  have HSZ : Hid (W.heap.size = w.heap.size + 1) := hsz
  clear hX hbx hz0 hsz
  subst hW
  go_enter Tryd.func46, Tryd.ntmps46
  go_wp2_with fail
  refine hRd.mono ?_
  rintro e w1 ⟨rfl, hw⟩
  subst hw
  clear hRd
  go_wp2_with fail
  refine hU.mono ?_
  rintro e w1 ⟨rfl, v1, hE1, hK1, hM1⟩
  have hW1 : Wrote eb (w.alloc (.cells #[.slice oa keys.length oc] 77)) w1 v v1 := ⟨hK1, hM1⟩
  clear hU hK1 hM1
  go_wp2
  go_loopw [9, 10, 20] (fun _ _ i wr => ∃ (k : Nat) (vk : Value), k ≤ zss.length ∧ i = .int .i64 k ∧ Enc wr eb vk (l ++ (Lib.uvarint zss.length ++ encR (fun i => (kget A (keyOf' keys i)).getD []) 0 (zss.take k))) ∧ Wrote eb (w.alloc (.cells #[.slice oa keys.length oc] 77)) wr v vk)
    (fun _ _ i _ => zss.length - (intOf i).toNat)
  case atStart => exact ⟨0, v1, Nat.zero_le _, rfl, by simpa [encR] using hE1, hW1⟩
  case round =>
    clear hE1 hW1 v1
    obtain ⟨k, vk, hk', rfl, hE, hW⟩ := hrel
    by_cases hlt : k < zss.length
    · obtain ⟨g, o, ha, _, hRg, hcell⟩ := HX.out (by omega)
      obtain ⟨lv, hlc, hlv⟩ := hcell k hlt
      -- all that was there is there still
      have hKr : Kept (fun j => j = eb ∨ v.ownBlock = some j) w wr := (hKW (fun j => j = eb ∨ v.ownBlock = some j)).trans hW.1 (fun _ _ h => h)
      obtain ⟨r1, r2, r3, r4⟩ := hR g hRg
      have hcx : wr.cell? ⟨g, o + k, none⟩ = some lv := hKr.cell hlc (by rintro (e | e); exact r2 e; exact r3 e)
      have hbox : wr.cell? ⟨w.heap.size, 0, none⟩ = some (.slice oa keys.length oc) := by
        refine hW.1.cell (by rw [blk_cell HBX.out]; rfl) ?_
        rintro (e | e)
        · exact absurd e (by simp; omega)
        · have := hvlt _ e; simp at this
      have hlv' : Holds wr R lv zss[k] := hlv.kept hKr (fun j hj => by rintro (e | e); exact (hR j hj).2.1 e; exact (hR j hj).2.2.1 e)
      have hoa : OpsAt wr (.slice oa keys.length oc) keys := ho.kept hKr (fun j hj => by rintro (e | e); exact (hO j hj).2.1 e; exact (hO j hj).2.2 e)
      have hkr : KL wr kb most A F := hk.kept hKr (fun j hj => by rintro (e | e); exact (hF j hj).2.1 e; exact (hF j hj).2.2 e)
      have hOK := opKey _ keys k wr hoa (by omega)
      have hsh := hlv'.shape
      obtain ⟨lao, ln, lc, elv⟩ := hsh
      subst elv
      have hlen := encR_length (fun i => (kget A (keyOf' keys i)).getD []) 0 (zss.take k) (fun z hz => hzl z (List.mem_of_mem_take hz))
      have hlt2 := total_take zss k
      have hl3 : (zss.take k).length ≤ k := List.length_take_le _ _
      have hzk := hlv'.len
      have hKL := keyList_KL eb kb most A F (keyOf' keys k) vk (.slice lao ln lc) _ zss[k] (wr.alloc (.cells #[.slice oa keys.length oc] 77)) (hE.alloc _) (hkr.alloc _) (hlv'.sees.kept (S := fun _ => False) ((Kept.refl _ _).alloc _) (fun _ _ f => f)) hlv'.ints
        (fun j hj => ⟨hW.off (by have := (hR j (hlv'.foot j hj)).1; rw [HSZ.out]; omega) (hR j (hlv'.foot j hj)).2.2.1, (hR j (hlv'.foot j hj)).2.2.2⟩) (hlv'.solid.kept (S := fun _ => False) ((Kept.refl _ _).alloc _) (fun _ _ f => f)) (by simp only [List.length_append]; omega)
      have HE : Hid (encR (fun i => (kget A (keyOf' keys i)).getD []) 0 (zss.take (k + 1)) = encR (fun i => (kget A (keyOf' keys i)).getD []) 0 (zss.take k) ++ encKL ((kget A (keyOf' keys k)).getD []) zss[k]) := encR_snoc _ zss k hlt
      clear hcell hlc hlv hKr hlv' hkr hoa hlen hlt2 hl3 hzk hE
      subst ha
      go_wp2_with fail
      refine hOK.mono ?_
      rintro e w2 ⟨rfl, rfl⟩
      clear hOK
      go_wp2_with fail
      refine hKL.mono ?_
      rintro e w2 ⟨rfl, v2, hE2, hW2⟩
      have hE3 : Enc w2 eb v2 (l ++ (Lib.uvarint zss.length ++ encR (fun i => (kget A (keyOf' keys i)).getD []) 0 (zss.take (k + 1)))) := by
        rw [HE.out, ← List.append_assoc, ← List.append_assoc, List.append_assoc l]; exact hE2
      have hW3 := (hW.alloc _).trans hW2
      clear hKL hE2 hW2 hW hcx hbox HE
      go_wp2
      go_roundw
      case rel => exact ⟨k + 1, v2, by omega, by go_num, hE3, hW3⟩
      case measure => simp [intOf]; omega
    · obtain rfl : k = zss.length := by omega
      rw [List.take_length] at hE
      have hWW : Wrote eb w wr v vk := ((Wrote.refl eb w v).alloc _).trans hW
      go_wp2
      go_end0
      exact ⟨rfl, vk, hE, hWW⟩

set_option maxRecDepth 100000 in
set_option maxHeartbeats 4000000 in
theorem zzEncKeyResult (eb kb : Nat) (most : Int) (A : List (ByteArray × List Int)) (F R : Nat → Prop) (v ov rv : Value) (keys : List ByteArray) (l : List UInt8) (zss : List (List Int)) (w : World)
    (h : Enc w eb v l) (hk : KL w kb most A F) (ho : OpsAt w ov keys) (hr : RowsAt w R rv zss)
    (hF : ∀ j, F j → j < w.heap.size ∧ j ≠ eb ∧ v.ownBlock ≠ some j) (hR : ∀ j, R j → j < w.heap.size ∧ j ≠ eb ∧ v.ownBlock ≠ some j ∧ ¬ F j) (hO : ∀ j, ov.ownBlock = some j → j < w.heap.size ∧ j ≠ eb ∧ v.ownBlock ≠ some j)
    (htot : total zss ≤ 1048576) (hlim : l.length ≤ 1073741824) :
    Calls Tryd.prog 38 #[.pointer (some ⟨eb, 0, none⟩), .pointer (some ⟨kb, 0, none⟩), .agg #[ov], rv] w fun e w' => e = .returned (.tuple #[]) ∧ ∃ v', Enc w' eb v' (l ++ (Lib.uvarint zss.length ++ encR (fun i => (kget A (keyOf' keys i)).getD []) 0 zss)) ∧ Wrote eb w w' v v' := by
  obtain ⟨ao, c, e1, hn, hl, hX⟩ := hr.form
  obtain ⟨oa, oc, e2, hol, _⟩ := ho.form
  subst e1
  subst e2
  -- whatever draws stand ahead of it
  have hE : ∀ wx, Kept (fun _ => False) w wx → Calls Tryd.prog 46 #[.pointer (some ⟨eb, 0, none⟩), .pointer (some ⟨kb, 0, none⟩), .agg #[.slice oa keys.length oc], resV (.slice ao zss.length c)] wx fun e w' => e = .returned (.tuple #[]) ∧ ∃ v', Enc w' eb v' (l ++ (Lib.uvarint zss.length ++ encR (fun i => (kget A (keyOf' keys i)).getD []) 0 zss)) ∧ Wrote eb w w' v v' := by
    intro wx hx
    have hs := hx.size
    refine (enc_keyResult eb kb most A F R v _ _ keys l zss wx (h.kept hx (fun f => f) (fun _ _ f => f)) (hk.kept hx (fun _ _ f => f)) (ho.kept hx (fun _ _ f => f)) (hr.kept hx (fun _ _ f => f))
      (fun j hj => ⟨by have := (hF j hj).1; omega, (hF j hj).2⟩) (fun j hj => ⟨by have := (hR j hj).1; omega, (hR j hj).2⟩) (fun j hj => ⟨by have := (hO j hj).1; omega, (hO j hj).2⟩) htot hlim).mono ?_
    rintro e w' ⟨h1, v', h2, h3⟩
    exact ⟨h1, v', h2, Wrote.trans ⟨hx.mono (fun _ _ f => f.elim), .inl rfl⟩ h3⟩
  clear h hk ho hr hF hR hO hX hn
  have hRes := fun wx => result_any ao zss.length c wx
  go_enter Tryd.func38, Tryd.ntmps38
  go_wp2_with fail
  go_region_with (first | (go_at_call 47; refine (hRes _).mono ?_; rintro e w2 ⟨rfl, rfl⟩) | (go_at_call 46; refine (hE _ (by exact ((Kept.refl _ w).alloc _).drew)).mono ?_; rintro e w2 ⟨rfl, v2, hE2, hW2⟩))
  all_goals
    go_wp2
    go_end0
    exact ⟨rfl, v2, hE2, hW2⟩

end Go.Proofs.Qxb6612988aDoor

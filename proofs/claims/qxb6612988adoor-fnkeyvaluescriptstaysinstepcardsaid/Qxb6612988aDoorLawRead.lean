/-
  FnKeyResultReadsBack: the walk.
-/
import Derived.Test.Qxb6612988aDoorSizeR
namespace Go.Proofs.Qxb6612988aDoor
open Go.RowKit

theorem sumK_mem1 {xs : List (ByteArray × List Int)} {p : ByteArray × List Int} (h : p ∈ xs) : p.1.size ≤ sumK xs := by
  induction xs with
  | nil => cases h
  | cons z r ih =>
    rcases List.mem_cons.1 h with rfl | h
    · simp only [sumK]; omega
    · have := ih h; simp only [sumK]; omega
theorem sumO_mem {xs : List OpV} {p : OpV} (h : p ∈ xs) : p.key.size ≤ sumO xs := by
  induction xs with
  | nil => cases h
  | cons z r ih =>
    rcases List.mem_cons.1 h with rfl | h
    · simp only [sumO]; omega
    · have := ih h; simp only [sumO]; omega

theorem own_cap {w : World} {base e size n g c : Nat} {xs : List Value} (h : w.ownsRow base e size (.slice (some ⟨g, 0, none⟩) n c) n xs) : n ≤ c := by
  rcases h.2 with ⟨e, _⟩ | ⟨g', cap, cur, e, _, _, hn, _⟩
  · cases e
  · cases e; exact hn
theorem Enc.cell {w : World} {eb : Nat} {v : Value} {l : List UInt8} (h : Enc w eb v l) : w.cell? ⟨eb, 0, none⟩ = some v := by
  obtain ⟨t, hb⟩ := h.box
  rw [blk_cell hb]; rfl

theorem bytesEq_same (va vb : Value) (xs : List UInt8) (w : World) (hx : Sees w va xs) (hy : Sees w vb xs) (hl : xs.length ≤ 1073741824) :
    Calls Tryd.prog 24 #[va, vb] w fun e w' => e = .returned (.bool true) ∧ ∃ n, w' = w.drewN n := by
  refine (bytesEq va vb xs xs w hx hy (by unfold maxLen; omega) (by unfold maxLen; omega)).mono ?_
  rintro e w' ⟨rfl, h⟩
  exact ⟨by rw [beq_self_eq_true], h⟩

theorem Sees.takeAt {w : World} {l : List UInt8} {v : Value} (h : Sees w v l) {g c n : Nat} (hv : v = .slice (some ⟨g, 0, none⟩) n c) (p m : Nat) (hp : p + m ≤ l.length) (c' : Nat) (hc : c' = c - p) : Sees w (.slice (some ⟨g, p, none⟩) m c') ((l.drop p).take m) := by
  subst hv
  rcases h with ⟨rfl, ao, c0, h⟩ | ⟨g', o, c0, e, hcap, hcell⟩
  · simp at hp
    obtain ⟨rfl, rfl⟩ : p = 0 ∧ m = 0 := by omega
    exact .inl ⟨by simp, _, _, rfl⟩
  · simp at e
    obtain ⟨⟨rfl, rfl⟩, rfl, rfl⟩ := e
    have hlen : ((l.drop p).take m).length = m := by simp; omega
    refine .inr ⟨g, p, c', by rw [hlen], by omega, fun j hj => ?_⟩
    have := hcell (p + j) (by omega)
    simpa using this


/-- A clone of bytes owns its row, in a block that is new. -/
theorem ClonedB.owns {w w' : World} {v v' : Value} {zs : List UInt8} (h : ClonedB w w' v v' zs) (hl : zs.length ≤ 1048576) : w'.ownsRow 0 5 1 v' zs.length (Lib.byteCells zs) ∧ Kept (fun _ => False) w w' ∧ (∀ j, v'.ownBlock = some j → w.heap.size ≤ j ∧ j < w'.heap.size) ∧ ∃ a c, v' = .slice a zs.length c := by
  rcases h with ⟨_, rfl, rfl, rfl⟩ | ⟨_, rfl, hb, hk⟩
  · exact ⟨World.ownsRow_nil _ _ _ _, Kept.refl _ _, fun j hj => by simp [Value.ownBlock] at hj, _, _, rfl⟩
  · refine ⟨⟨by rw [Lib.byteCells_length, Nat.mul_one], .inr ⟨w.heap.size, zs.length, _, rfl, Nat.zero_le _, hb, Nat.le_refl _, by unfold maxLen; omega, ?_, ?_⟩⟩, hk, fun j hj => ?_, _, _, rfl⟩
    · simp [Lib.byteCells_length]
    · have := Lib.byteCells_length zs
      rw [Nat.mul_one]
      exact List.take_of_length_le (Nat.le_of_eq this)
    · cases hj; exact ⟨Nat.le_refl _, lt_of_block hb⟩

/-- What stands once the record has been written. -/
structure RStage (W : World) (eb ke kd kr : Nat) (most : Int) (A : List (ByteArray × List Int)) (ve vx vp vw kv ov : Value) (keys : List ByteArray) (items : List (ByteArray × List Int)) (ops : List OpV) (zss : List (List Int)) (pre L : List UInt8) (F6 F7 F8 Q : Nat → Prop) : Prop where
  enc : Enc W eb ve L
  k1 : KL W ke most A F6
  k2 : KL W kd most A F7
  k3 : KL W kr most A F8
  xs : OpsAt W vx keys
  ws : RowsAt W Q vw zss
  wp : Sees W vp pre
  ks : KLRaw W kv items
  os : OpRaw W ov ops
  h7 : ∀ j, F7 j → j < W.heap.size
  hX : ∀ j, vx.ownBlock = some j → j < W.heap.size

theorem RStage.kept {W W' : World} {eb ke kd kr : Nat} {most : Int} {A : List (ByteArray × List Int)} {ve vx vp vw kv ov : Value} {keys : List ByteArray} {items : List (ByteArray × List Int)} {ops : List OpV} {zss : List (List Int)} {pre L : List UInt8} {F6 F7 F8 Q : Nat → Prop}
    (h : RStage W eb ke kd kr most A ve vx vp vw kv ov keys items ops zss pre L F6 F7 F8 Q) (k : Kept (fun _ => False) W W') : RStage W' eb ke kd kr most A ve vx vp vw kv ov keys items ops zss pre L F6 F7 F8 Q where
  enc := h.enc.kept k (fun f => f) (fun _ _ f => f)
  k1 := h.k1.kept k (fun _ _ f => f)
  k2 := h.k2.kept k (fun _ _ f => f)
  k3 := h.k3.kept k (fun _ _ f => f)
  xs := h.xs.kept k (fun _ _ f => f)
  ws := h.ws.kept k (fun _ _ f => f)
  wp := h.wp.kept k (fun _ _ f => f)
  ks := h.ks.below (k.fresh (fun _ f => f.elim))
  os := h.os.below (k.fresh (fun _ f => f.elim))
  h7 := fun j hj => Nat.lt_of_lt_of_le (h.h7 j hj) k.size
  hX := fun j hj => Nat.lt_of_lt_of_le (h.hX j hj) k.size

set_option maxRecDepth 100000 in
set_option maxHeartbeats 16000000 in
theorem read_walk (pv : Value) (pre : List UInt8) (most : Int) (kv ov rv : Value) (items : List (ByteArray × List Int)) (ops : List OpV) (zss : List (List Int)) (w : World) (hP : Sees w pv pre) (hpn : pre.length ≤ maxLen) (hK : KLRaw w kv items) (hO : OpRaw w ov ops) (hR : RowRaw w rv zss) :
    Calls Tryd.prog 7 #[pv, .int .i64 most, kv, ov, rv] w fun e w' => e = .returned (.bool true) ∧ Below w.heap.size w w' := by
  obtain ⟨pa, pc, ep⟩ : ∃ a c, pv = .slice a pre.length c := by obtain ⟨a, c, e, _⟩ := hP.form; exact ⟨a, c, e⟩
  obtain ⟨ka, kc, ek⟩ : ∃ a c, kv = .slice a items.length c := by obtain ⟨a, c, e, _⟩ := hK.form; exact ⟨a, c, e⟩
  obtain ⟨oa, oc, eo⟩ : ∃ a c, ov = .slice a ops.length c := by obtain ⟨a, c, e, _⟩ := hO.form; exact ⟨a, c, e⟩
  obtain ⟨ra, rc, er⟩ : ∃ a c, rv = .slice a zss.length c := by obtain ⟨a, c, e, _⟩ := hR.form; exact ⟨a, c, e⟩
  have hT := zzBytesR pa pre.length pc most kv ov rv items ops zss w hpn hK hO hR
  have hTB := fun (hp : pre.length ≤ 1048576) (hk : items.length ≤ 1048576) (ho : ops.length ≤ 1048576) (hr : zss.length ≤ 1048576) (hk2 : ∀ p ∈ items, p.1.size ≤ 1048576 ∧ p.2.length ≤ 1048576) (ho2 : ∀ p ∈ ops, p.key.size ≤ 1048576) (hr2 : ∀ z ∈ zss, z.length ≤ 1048576) => resultTooBig pa pre.length pc kv ov rv items ops zss w hK hO hR hp hk ho hr hk2 ho2 hr2
  subst ep
  subst ek
  subst eo
  subst er
  go_enter Tryd.func7, Tryd.ntmps7
  go_wp2_with fail
  refine hT.mono ?_
  rintro e w1 ⟨⟨b, rfl, hb⟩, hw⟩
  replace hw := hw.symm
  subst hw
  clear hT
  cases b with
  | false =>
    clear hb hTB
    go_wp2
    go_ret
    exact ⟨rfl, Below.refl _ _⟩
  | true =>
  replace hb := hb rfl
  have hk2 : ∀ p ∈ items, p.1.size ≤ 1048576 ∧ p.2.length ≤ 1048576 := fun p hp => by have := sumK_mem hp; have := sumK_mem1 hp; omega
  have ho2 : ∀ p ∈ ops, p.key.size ≤ 1048576 := fun p hp => by have := sumO_mem hp; omega
  have hr2 : ∀ z ∈ zss, z.length ≤ 1048576 := fun z hz => by have := total_mem hz; omega
  replace hTB := hTB (by omega) (by omega) (by omega) (by omega) hk2 ho2 hr2
  clear hk2 ho2
  go_wp2_with fail
  refine hTB.mono ?_
  rintro e w1 ⟨⟨b, rfl⟩, n0, hw⟩
  clear hTB
  cases b with
  | true =>
    clear hb
    go_wp2
    go_ret
    exact ⟨rfl, below_drewN (Below.refl _ _) _⟩
  | false =>
  have hB0 : Below w.heap.size w w1 := by rw [hw]; exact below_drewN (Below.refl _ _) _
  have hsz0 : w.heap.size = w1.heap.size := by rw [hw]; rfl
  have HB0 : Hid (Below w.heap.size w w1) := hB0
  have HSZ0 : Hid (w.heap.size = w1.heap.size) := hsz0
  have HI : Hid (∀ z ∈ zss, z.length ≤ 1048576 ∧ ∀ y ∈ z, I64 y) := fun z hz => ⟨hr2 z hz, (hR.ok z hz).2⟩
  replace hP := hP.below hB0
  replace hK := hK.below hB0
  replace hO := hO.below hB0
  replace hR := hR.below hB0
  clear hB0 hsz0 hw
  -- pre
  have hC1 := cloneBytes _ pre w1 hP (by omega)
  go_wp2_with fail
  refine hC1.mono ?_
  rintro e w2 ⟨v2, rfl, hq2⟩
  clear hC1
  obtain ⟨hp2, hk12, hv2, a2, c2, e2⟩ := hq2.owns (by omega)
  subst e2
  clear hq2 hP
  have hB12 : Below w1.heap.size w1 w2 := hk12.fresh (fun _ f => f.elim)
  -- rs
  have hC2 := zzCloneRows_any _ zss w2 ((hR.below hB12).arg (by omega) (by omega))
  go_wp2_with fail
  refine hC2.mono ?_
  rintro e w3 ⟨v3, rfl, hR3, hB23, hv3⟩
  clear hC2
  obtain ⟨a3, c3, e3⟩ : ∃ a c, v3 = .slice a zss.length c := by obtain ⟨a, c, e, _⟩ := hR3.form; exact ⟨a, c, e⟩
  subst e3
  -- wantPre
  have hC3 := cloneBytes _ pre w3 ((sees_own hp2).below hB23) (by omega)
  go_wp2_with fail
  refine hC3.mono ?_
  rintro e w4 ⟨v4, rfl, hq4⟩
  clear hC3
  obtain ⟨hp4, hk34, hv4, a4, c4, e4⟩ := hq4.owns (by omega)
  subst e4
  clear hq4
  have hB34 : Below w3.heap.size w3 w4 := hk34.fresh (fun _ f => f.elim)
  -- wantRs
  have hC4 := zzCloneRows_any _ zss w4 (hR3.kept hk34 (fun _ _ f => f)).arg
  go_wp2_with fail
  refine hC4.mono ?_
  rintro e w5 ⟨v5, rfl, hR5, hB45, hv5⟩
  clear hC4
  obtain ⟨a5, c5, e5⟩ : ∃ a c, v5 = .slice a zss.length c := by obtain ⟨a, c, e, _⟩ := hR5.form; exact ⟨a, c, e⟩
  subst e5
  have s12 := hB12.size
  have s23 := hB23.size
  have s34 := hB34.size
  have s45 := hB45.size
  have hB35 : Below w3.heap.size w3 w5 := hB34.trans (hB45.mono s34)
  have hB25 : Below w2.heap.size w2 w5 := hB23.trans (hB35.mono s23)
  have hB15 : Below w1.heap.size w1 w5 := hB12.trans (hB25.mono s12)
  -- the three KeyLists
  have hK6 := zzKeepAll_any most _ items w5 ((hK.below hB15).arg (by omega) (by omega))
  go_wp2_with fail
  refine hK6.mono ?_
  rintro e w6 ⟨rfl, hKL6, hB56⟩
  clear hK6
  have s56 := hB56.size
  have hB16 : Below w1.heap.size w1 w6 := hB15.trans (hB56.mono (by omega))
  have hK7 := zzKeepAll_any most _ items w6 ((hK.below hB16).arg (by omega) (by omega))
  go_wp2_with fail
  refine hK7.mono ?_
  rintro e w7 ⟨rfl, hKL7, hB67⟩
  clear hK7
  have s67 := hB67.size
  have hB17 : Below w1.heap.size w1 w7 := hB16.trans (hB67.mono (by omega))
  have hK8 := zzKeepAll_any most _ items w7 ((hK.below hB17).arg (by omega) (by omega))
  go_wp2_with fail
  refine hK8.mono ?_
  rintro e w8 ⟨rfl, hKL8, hB78⟩
  clear hK8
  have s78 := hB78.size
  have hB18 : Below w1.heap.size w1 w8 := hB17.trans (hB78.mono (by omega))
  have hO9 := zzOps_any _ ops w8 ((hO.below hB18).arg (by omega))
  go_wp2_with fail
  refine hO9.mono ?_
  rintro e w9 ⟨v9, rfl, hX9, hB89, hv9⟩
  clear hO9
  obtain ⟨a9, c9, e9⟩ : ∃ a c, v9 = .slice a (ops.map (·.key)).length c := by obtain ⟨a, c, e, _⟩ := hX9.form; exact ⟨a, c, e⟩
  subst e9
  have s89 := hB89.size
  have hB79 : Below w7.heap.size w7 w9 := hB78.trans (hB89.mono s78)
  have hB69 : Below w6.heap.size w6 w9 := hB67.trans (hB79.mono s67)
  have hB59 : Below w5.heap.size w5 w9 := hB56.trans (hB69.mono s56)
  have hB49 : Below w4.heap.size w4 w9 := hB45.trans (hB59.mono s45)
  have hB39 : Below w3.heap.size w3 w9 := hB34.trans (hB49.mono s34)
  have hB29 : Below w2.heap.size w2 w9 := hB23.trans (hB39.mono s23)
  have hB19 : Below w1.heap.size w1 w9 := hB12.trans (hB29.mono s12)
  obtain ⟨keys, hkeys⟩ : ∃ keys, keys = ops.map (·.key) := ⟨_, rfl⟩
  have hkl : keys.length = ops.length := by rw [hkeys]; simp
  rw [← hkeys, hkl] at hX9 hv9
  obtain ⟨W, eW⟩ : ∃ W, W = (w9.alloc (.cells #[.slice a9 ops.length c9] 77)).alloc (.cells #[.slice a2 pre.length c2, .int .i64 0] 28) := ⟨_, rfl⟩
  have kW : Kept (fun _ => False) w9 W := by rw [eW]; exact ((Kept.refl _ _).alloc _).alloc _
  have hsW : W.heap.size = w9.heap.size + 2 := by rw [eW]; simp
  have hboxX : W.cell? ⟨w9.heap.size, 0, none⟩ = some (.slice a9 ops.length c9) := by
    rw [eW, World.cell?_alloc_past _ _ _ (by simp), World.cell?_alloc_new]; rfl
  have hEW : W.heap[w9.heap.size + 1]? = some (.cells #[.slice a2 pre.length c2, .int .i64 0] 28 (0, 0)) := by
    have h := heap_alloc_new (w9.alloc (.cells #[.slice a9 ops.length c9] 77)) (.cells #[.slice a2 pre.length c2, .int .i64 0] 28)
    rw [show (w9.alloc (.cells #[.slice a9 ops.length c9] 77)).heap.size = w9.heap.size + 1 by simp] at h
    rw [eW]; exact h
  have kl1 := ((hKL6.mono (G := fun j => w5.heap.size ≤ j ∧ j < w6.heap.size) (fun j h1 h2 => ⟨h2, h1⟩)).below hB69 (fun j hj => hj.2)).kept kW (fun _ _ f => f)
  have kl2 := ((hKL7.mono (G := fun j => w6.heap.size ≤ j ∧ j < w7.heap.size) (fun j h1 h2 => ⟨h2, h1⟩)).below hB79 (fun j hj => hj.2)).kept kW (fun _ _ f => f)
  have kl3 := ((hKL8.mono (G := fun j => w7.heap.size ≤ j ∧ j < w8.heap.size) (fun j h1 h2 => ⟨h2, h1⟩)).below hB89 (fun j hj => hj.2)).kept kW (fun _ _ f => f)
  have hrW := ((hR3.mono (G := fun j => w2.heap.size ≤ j ∧ j < w3.heap.size) (fun j h1 h2 => ⟨h2, h1⟩)).below hB39 (fun j hj => hj.2)).kept kW (fun _ _ f => f)
  have hwW := ((hR5.mono (G := fun j => w4.heap.size ≤ j ∧ j < w5.heap.size) (fun j h1 h2 => ⟨h2, h1⟩)).below hB59 (fun j hj => hj.2)).kept kW (fun _ _ f => f)
  have hxW := hX9.kept kW (fun _ _ f => f)
  have hpW : W.ownsRow 0 5 1 (.slice a2 pre.length c2) pre.length (Lib.byteCells pre) := kW.owns ((Kept.ofBelow hB29).owns hp2 (fun j hj f => by have := hv2 j hj; omega)) (fun _ _ f => f)
  have hpp := ((sees_own hp4).below hB49).kept kW (fun _ _ f => f)
  have hZ := zzEncKeyResult (w9.heap.size + 1) w5.heap.size most (keepAll most items) _ _ (.slice a2 pre.length c2) _ _ keys pre zss W ⟨⟨0, hEW⟩, hpW⟩ kl1 hxW hrW
    (fun j hj => ⟨by omega, by omega, fun e => by have := hv2 j e; omega⟩) (fun j hj => ⟨by omega, by omega, fun e => by have := hv2 j e; omega, by omega⟩) (fun j hj => ⟨by have := hv9 j hj; omega, by have := hv9 j hj; omega, fun e => by have := hv2 j e; have := hv9 j hj; omega⟩) (by omega) (by omega)
  have HBW : Hid (Below w1.heap.size w1 W) := below_kept hB19 kW (Nat.le_refl _) (fun _ f => f.elim)
  have HKRaw : Hid (KLRaw w1 (.slice ka items.length kc) items) := hK
  have HORaw : Hid (OpRaw w1 (.slice oa ops.length oc) ops) := hO
  have HKS : Hid (keys = ops.map (·.key)) := hkeys
  have HKL : Hid (keys.length = ops.length) := hkl
  have EW : Hid (W = (w9.alloc (.cells #[.slice a9 ops.length c9] 77)).alloc (.cells #[.slice a2 pre.length c2, .int .i64 0] 28)) := eW
  clear hkeys hkl hR3 hR5 hKL6 hKL7 hKL8 hX9 hp2 hp4 hB12 hB23 hB34 hB45 hB56 hB67 hB78 hB89 hB35 hB25 hB15 hB16 hB17 hB18 hB79 hB69 hB59 hB49 hB39 hB29 hB19 hk12 hk34 hK hO hR hEW hpW kW
  clear eW
  go_wp2_with fail
  have hZ' := hZ
  rw [EW.out] at hZ'
  refine hZ'.mono ?_
  rintro e w10 ⟨rfl, v10, hE10, hW10⟩
  clear hZ hZ'
  obtain ⟨kf, hkf⟩ : ∃ kf : Nat → List Int, kf = fun i => (kget (keepAll most items) (keyOf' keys i)).getD [] := ⟨_, rfl⟩
  rw [← hkf] at hE10
  have HKF : Hid (kf = fun i => (kget (keepAll most items) (keyOf' keys i)).getD []) := hkf
  clear hkf
  rw [← EW.out] at hW10
  have hk10 := hW10.1
  have off : ∀ j, j ≠ w9.heap.size + 1 → (j < w1.heap.size ∨ w2.heap.size ≤ j) → ¬ (j = w9.heap.size + 1 ∨ (Value.slice a2 pre.length c2).ownBlock = some j) := by
    rintro j h1 h2 (e | e)
    · exact h1 e
    · have := hv2 j e; omega
  have hB10 : Below w1.heap.size w1 w10 := by
    have hbs := HBW.out.size
    exact HBW.out.trans (hk10.below (fun j hj => ⟨by omega, off j (by omega) (.inl hj)⟩))
  have s10 := hk10.size
  have st : RStage w10 (w9.heap.size + 1) w5.heap.size w6.heap.size w7.heap.size most (keepAll most items) v10 (.slice a9 ops.length c9) (.slice a4 pre.length c4) (.slice a5 zss.length c5) (.slice ka items.length kc) (.slice oa ops.length oc) keys items ops zss pre (pre ++ (Lib.uvarint zss.length ++ encR kf 0 zss)) (fun j => w5.heap.size ≤ j ∧ j < w6.heap.size) (fun j => w6.heap.size ≤ j ∧ j < w7.heap.size) (fun j => w7.heap.size ≤ j ∧ j < w8.heap.size) (fun j => w4.heap.size ≤ j ∧ j < w5.heap.size) := by
    refine ⟨hE10, kl1.kept hk10 (fun j hj => off j (by omega) (.inr (by omega))), kl2.kept hk10 (fun j hj => off j (by omega) (.inr (by omega))), kl3.kept hk10 (fun j hj => off j (by omega) (.inr (by omega))), hxW.kept hk10 (fun j hj => off j (by have := hv9 j hj; omega) (.inr (by have := hv9 j hj; omega))), hwW.kept hk10 (fun j hj => off j (by omega) (.inr (by omega))), hpp.kept hk10 (fun j hj => off j (by have := hv4 j hj; omega) (.inr (by have := hv4 j hj; omega))), HKRaw.out.below hB10, HORaw.out.below hB10, fun j hj => by omega, fun j hj => by have := hv9 j hj; omega⟩
  have hboxX10 := hk10.cell hboxX (off _ (by simp) (.inr (by simp; omega)))
  have HB10 : Hid (Below w.heap.size w w10) := HB0.out.trans (hB10.mono (Nat.le_of_eq HSZ0.out))
  have hX10 : w9.heap.size < w10.heap.size := by omega
  clear off hk10 hW10 hboxX kl1 kl2 kl3 hrW hwW hxW hpp HBW HKRaw HORaw EW hE10 hv2 hv3 hv4 hv5 hv9 hB10 HB0 HSZ0 s10 hsW
  generalize hF6 : (fun j => w5.heap.size ≤ j ∧ j < w6.heap.size) = F6 at st
  generalize hF7 : (fun j => w6.heap.size ≤ j ∧ j < w7.heap.size) = F7 at st
  generalize hF8 : (fun j => w7.heap.size ≤ j ∧ j < w8.heap.size) = F8 at st
  generalize hQ : (fun j => w4.heap.size ≤ j ∧ j < w5.heap.size) = Q at st
  clear hF6 hF7 hF8 hQ s12 s23 s34 s45 s56 s67 s78 s89
  generalize w9.heap.size = xb at *
  generalize w5.heap.size = ke at *
  generalize w6.heap.size = kd at *
  generalize w7.heap.size = kr at *
  -- the numbers
  have hRl := encR_length kf 0 zss hr2
  have hL1 := Lib.uvarint_pos zss.length
  have hL2 := Lib.uvarint_length64 (x := zss.length) (by omega)
  obtain ⟨T, hT⟩ : ∃ T, T = Lib.uvarint zss.length ++ encR kf 0 zss := ⟨_, rfl⟩
  have hTl : T.length = (Lib.uvarint zss.length).length + (encR kf 0 zss).length := by rw [hT, List.length_append]
  rw [← hT] at st
  have HT : Hid (T = Lib.uvarint zss.length ++ encR kf 0 zss) := hT
  have hT1 : 1 ≤ T.length := by omega
  have hT2 : T.length ≤ 33554432 := by omega
  have hpl : pre.length ≤ 1048576 := by omega
  clear hT hTl hRl hL1 hL2
  obtain ⟨g10, c10, e10⟩ := own_shape st.enc.own (by simp; omega)
  subst e10
  have hLl : (pre ++ T).length = pre.length + T.length := List.length_append
  have c12 := st.enc.cell
  have hcap := own_cap st.enc.own
  have hSp := (sees_own st.enc.own).takeAt rfl 0 pre.length (by omega) c10 rfl
  have hSr := (sees_own st.enc.own).takeAt rfl pre.length T.length (by omega) (c10 - pre.length) rfl
  have e1 : ((pre ++ T).drop 0).take pre.length = pre := by simp
  have e2 : ((pre ++ T).drop pre.length).take T.length = T := by simp
  rw [e1] at hSp
  rw [e2] at hSr
  have hEq := bytesEq_same _ _ pre w10 hSp st.wp (by omega)
  have HST : Hid (RStage w10 (xb + 1) ke kd kr most (keepAll most items) (.slice (some ⟨g10, 0, none⟩) (pre ++ T).length c10) (.slice a9 ops.length c9) (.slice a4 pre.length c4) (.slice a5 zss.length c5) (.slice ka items.length kc) (.slice oa ops.length oc) keys items ops zss pre (pre ++ T) F6 F7 F8 Q) := st
  rw [hLl] at c12 hcap
  have HSr : Hid (Sees w10 (.slice (some ⟨g10, pre.length, none⟩) T.length (c10 - pre.length)) T) := hSr
  clear hLl hSp hSr e1 e2 st
  generalize pre.length = pn at *
  generalize htn : T.length = tn at *
  have HTN : Hid (T.length = tn) := htn
  clear htn
  go_wp2_with fail
  refine hEq.mono ?_
  rintro e w11 ⟨rfl, n11, hw11⟩
  clear hEq
  have hk11 : Kept (fun _ => False) w10 w11 := by rw [hw11]; exact (Kept.refl _ _).drewN _
  have hSr11 := HSr.out.kept hk11 (fun _ _ f => f)
  have c12' := hk11.cell c12 (fun f => f)
  have hboxX11 := hk11.cell hboxX10 (fun f => f)
  have hX11 : xb < w11.heap.size := by have := hk11.size; omega
  have HST11 : Hid (RStage w11 (xb + 1) ke kd kr most (keepAll most items) (.slice (some ⟨g10, 0, none⟩) (pre ++ T).length c10) (.slice a9 ops.length c9) (.slice a4 pn c4) (.slice a5 zss.length c5) (.slice ka items.length kc) (.slice oa ops.length oc) keys items ops zss pre (pre ++ T) F6 F7 F8 Q) := HST.out.kept hk11
  have HB11 : Hid (Below w.heap.size w w11) := below_kept HB10.out hk11 (Nat.le_refl _) (fun _ f => f.elim)
  have hN := newDec _ T w11 hSr11
  clear hw11 hk11 HST HSr c12 hboxX10 HB10 hX10
  go_wp2_with fail
  refine hN.mono ?_
  rintro e w12 ⟨rfl, hw12⟩
  clear hN
  have hsz12 : w12.heap.size = w11.heap.size + 1 := by rw [hw12]; simp
  have hk12 : Kept (fun _ => False) w11 w12 := by rw [hw12]; exact (Kept.refl _ _).alloc _
  have hk13 : Kept (fun _ => False) w11 (w12.alloc (.cells #[.slice (some ⟨g10, pn, none⟩) tn (c10 - pn), .int .i64 0, .nilIface] 34)) := hk12.alloc _
  have hD13 : Dec (w12.alloc (.cells #[.slice (some ⟨g10, pn, none⟩) tn (c10 - pn), .int .i64 0, .nilIface] 34)) w12.heap.size (.slice (some ⟨g10, pn, none⟩) tn (c10 - pn)) .nilIface := heap_alloc_new _ _
  have hSr13 := hSr11.kept hk13 (fun _ _ f => f)
  have hboxX13 := hk13.cell hboxX11 (fun f => f)
  have hg10 : g10 < w11.heap.size := hSr11.lt (by rw [HTN.out]; omega) g10 rfl
  have HST13 := HST11.out.kept hk13
  have hgne : (Value.slice (some ⟨g10, pn, none⟩) tn (c10 - pn)).ownBlock ≠ some w12.heap.size := by
    intro e
    have e' : g10 = w12.heap.size := by simpa [Value.ownBlock] using e
    omega
  have hZD := zzDecKeyResult w12.heap.size kd most (keepAll most items) F7 _ _ _ keys [] zss _ hD13 HST13.k2 HST13.xs (by rw [List.append_nil, ← HKF.out, ← HT.out]; exact hSr13) hgne
    (fun j hj => by have := HST11.out.h7 j hj; constructor; omega; simp; omega) (fun j hj => by have := HST11.out.hX j hj; constructor; omega; simp; omega) HI.out (by omega) (by rw [List.append_nil, ← HKF.out, ← HT.out, HTN.out]; omega)
  have hdbsz : Hid (w11.heap.size ≤ w12.heap.size) := by unfold Hid; omega
  rw [hsz12] at hZD
  clear hw12 hSr11 hboxX11 c12' HST13 hD13 hSr13
  go_wp2_with fail
  refine hZD.mono ?_
  rintro e w14 ⟨rv, rfl, hG, v14, hD14, hS14, hO14, hk14⟩
  clear hZD
  have hk1114 : Kept (fun _ => False) w11 w14 := hk13.trans hk14 (fun i hi e => by omega)
  have HST14 : Hid (RStage w14 (xb + 1) ke kd kr most (keepAll most items) (.slice (some ⟨g10, 0, none⟩) (pre ++ T).length c10) (.slice a9 ops.length c9) (.slice a4 pn c4) (.slice a5 zss.length c5) (.slice ka items.length kc) (.slice oa ops.length oc) keys items ops zss pre (pre ++ T) F6 F7 F8 Q) := HST11.out.kept hk1114
  have HB14 : Hid (Below w.heap.size w w14) := below_kept HB11.out hk1114 (Nat.le_refl _) (fun _ f => f.elim)
  obtain ⟨v14a, v14c, e14⟩ : ∃ a c, v14 = .slice a 0 c := by obtain ⟨a, c, e, _⟩ := hS14.form; exact ⟨a, c, e⟩
  subst e14
  have hErr := zzErr _ _ _ w14 hD14
  have hRest := zzRest _ _ _ w14 hD14
  have hnil := fun (r : Option Addr) (n c n' c' : Nat) (wx : World) => Lib.run_eql_slice_nil (P := Tryd.prog) wx _ _ r n c n' c' Tryd.underlying69
  have hnilI := fun (r : Option Addr) (n c n' c' : Nat) (wx : World) => Lib.run_eql_slice_nil (P := Tryd.prog) wx _ _ r n c n' c' Tryd.underlying42
  obtain ⟨ao, erv, _⟩ := hG.shape
  have HG : Hid (GotR (w12.alloc (.cells #[.slice (some ⟨g10, pn, none⟩) tn (c10 - pn), .int .i64 0, .nilIface] 34)) w14 rv zss) := hG
  clear hG hD14 hS14 hO14 hk14 hk13 hk12 hk1114 HST11 HB11 hboxX13
  by_cases hz0 : zss = []
  case' pos =>
    have erv2 : rv = .slice none 0 0 := by
      rcases HG.out with ⟨_, e⟩ | ⟨h, _⟩
      · exact e
      · exact absurd hz0 h
    clear erv
    subst erv2
    have hzl : zss.length = 0 := by rw [hz0]; rfl
    rw [hzl]
    rw [hzl] at HST14
    go_wp2_with fail
    refine hErr.mono ?_
    rintro e w15 ⟨rfl, hw15⟩
    replace hw15 := hw15.symm
    subst hw15
    go_wp2_with fail
    refine hRest.mono ?_
    rintro e w15 ⟨rfl, hw15⟩
    replace hw15 := hw15.symm
    subst hw15
    clear hErr hRest
    go_wp2
  case' neg =>
    obtain ⟨g14, erv2⟩ : ∃ g, rv = .slice (some ⟨g, 0, none⟩) zss.length zss.length := by
      rcases HG.out with ⟨h, _⟩ | ⟨_, g, e, _⟩
      · exact absurd h hz0
      · exact ⟨g, e⟩
    clear erv
    subst erv2
    have hzpos : 0 < zss.length := List.length_pos_iff.2 hz0
    have hzb : ((zss.length : Int) == 0) = false := by rw [beq_eq_false_iff_ne]; omega
    go_wp2_with fail
    refine hErr.mono ?_
    rintro e w15 ⟨rfl, hw15⟩
    replace hw15 := hw15.symm
    subst hw15
    go_wp2_with fail
    refine hRest.mono ?_
    rintro e w15 ⟨rfl, hw15⟩
    replace hw15 := hw15.symm
    subst hw15
    clear hErr hRest
    go_wp2
  case' neg =>
    go_loopw [20] (fun i wr => ∃ k q : Nat, k ≤ zss.length ∧ i = .int .i64 k ∧ wr = w14.drewN q) (fun i _ => zss.length - (intOf i).toNat)
    case atStart => exact ⟨0, 0, Nat.zero_le _, rfl, rfl⟩
    case round =>
      obtain ⟨k, q, hk, rfl, rfl⟩ := hrel
      by_cases hlt : k < zss.length
      · obtain ⟨cur, hb14, hs14, hc14⟩ : ∃ cur : Array Value, w14.heap[g14]? = some (.cells cur 42 (0, 0)) ∧ cur.size = zss.length ∧ ∀ j (hj : j < zss.length), j < zss.length → ∃ lv, cur[j]? = some lv ∧ GotL (w12.alloc (.cells #[.slice (some ⟨g10, pn, none⟩) tn (c10 - pn), .int .i64 0, .nilIface] 34)) w14 lv zss[j] := by
          rcases HG.out with ⟨h, _⟩ | ⟨_, g, e, _, hr⟩
          · exact absurd h hz0
          · cases e; exact hr
        obtain ⟨lv, hlv1, hlv2⟩ := hc14 k hlt hlt
        have cg : w14.cell? ⟨g14, k, none⟩ = some lv := by rw [blk_cell hb14]; exact hlv1
        obtain ⟨wa, wc, we, _, _, wX⟩ := HST14.out.ws.form
        cases we
        obtain ⟨g5, o5, ea5, _, _, wcell⟩ := wX (by omega)
        obtain ⟨lw, cw, hlw⟩ := wcell k hlt
        have hlen1 := hlv2.1.len
        have hIE : ∀ n, Calls Tryd.prog 27 #[lv, lw] (w14.drewN (q + n)) fun e w' => e = .returned (.bool true) ∧ ∃ m, w' = w14.drewN (q + m) := fun n => by
          refine (intsEq lv lw _ _ (w14.drewN (q + n)) (hlv2.1.sees.drewN _) (hlw.sees.drewN _) (by unfold maxLen; omega) (by unfold maxLen; omega)).mono ?_
          rintro e w' ⟨rfl, m, rfl⟩
          exact ⟨by rw [beq_self_eq_true], n + m, by rw [World.drewN_drewN, Nat.add_assoc]⟩
        obtain ⟨la, lc, el⟩ : ∃ a c, lv = .slice a (zss[k]).length c := by obtain ⟨a, c, e, _⟩ := hlv2.1.sees.form; exact ⟨a, c, e⟩
        obtain ⟨ma, mc, em⟩ : ∃ a c, lw = .slice a (zss[k]).length c := by obtain ⟨a, c, e, _⟩ := hlw.sees.form; exact ⟨a, c, e⟩
        have hN0 := hlv2.2
        clear hb14 hs14 hc14 hlv1 hlv2 wX wcell hlw
        subst ea5
        subst em
        by_cases hzk : zss[k] = []
        case' pos =>
          have el2 := hN0.1 hzk
          have hzkl : (zss[k]).length = 0 := by rw [hzk]; rfl
          rw [el2] at cg hIE
          rw [hzkl] at cw hIE
          clear el hN0 el2 hzkl hzk hlen1
        case' neg =>
          obtain ⟨la', el3⟩ : ∃ x, la = some x := by
            have := hN0.2 hzk
            rw [el] at this
            cases la with
            | none => simp [Value.ownBlock] at this
            | some x => exact ⟨x, rfl⟩
          have hzkp : 0 < (zss[k]).length := List.length_pos_iff.2 hzk
          have hzkb : (((zss[k]).length : Int) == 0) = false := by rw [beq_eq_false_iff_ne]; omega
          subst el
          subst el3
          clear hN0 hzk
          generalize (zss[k]).length = zl at *
        all_goals
          go_wp2_with fail
          go_quiet ((go_at_call 27; exact hIE _))
          go_wp2
          go_roundw
          case rel => exact ⟨k + 1, _, by omega, by go_num, rfl⟩
          case measure => simp [intOf]; omega
      · skip
        go_wp2
        go_loopw [21] (fun i wr => ∃ k q : Nat, k ≤ items.length ∧ i = .int .i64 k ∧ wr = w14.drewN q) (fun i _ => items.length - (intOf i).toNat)
        case atStart => exact ⟨0, _, Nat.zero_le _, rfl, rfl⟩
        case round =>
          obtain ⟨k2, q2, hk2, rfl, rfl⟩ := hrel
          by_cases hltk2 : k2 < items.length
          · obtain ⟨_, _, e6, _, _, hX6⟩ := HST14.out.ks.form
            cases e6
            obtain ⟨g6, o6, ea6, hX6⟩ := hX6 (by omega)
            obtain ⟨ckey, _⟩ := hX6 k2 hltk2
            have hKE := keptEq_same ke kr most most _ F6 F8 (items[k2]).1 (w14.drewN q2) (HST14.out.k1.drewN q2) (HST14.out.k3.drewN q2)
            clear hX6
            generalize (items[k2]).1 = ky at *
            subst ea6
            go_wp2_with fail
            refine hKE.mono ?_
            rintro e w15 ⟨rfl, n15, hw15⟩
            rw [World.drewN_drewN] at hw15
            subst hw15
            clear hKE
            go_wp2
            go_roundw
            case rel => exact ⟨k2 + 1, q2 + n15, by omega, by go_num, rfl⟩
            case measure => simp [intOf]; omega
          · skip
            go_wp2
            go_loopw [22] (fun i wr => ∃ k q : Nat, k ≤ ops.length ∧ i = .int .i64 k ∧ wr = w14.drewN q) (fun i _ => ops.length - (intOf i).toNat)
            case atStart => exact ⟨0, _, Nat.zero_le _, rfl, rfl⟩
            case round =>
              obtain ⟨k3, q3, hk3, rfl, rfl⟩ := hrel
              by_cases hltk3 : k3 < ops.length
              · obtain ⟨_, _, e6, _, _, hX6⟩ := HST14.out.os.form
                cases e6
                obtain ⟨g6, o6, ea6, hX6⟩ := hX6 (by omega)
                obtain ⟨_, ckey, _⟩ := hX6 k3 hltk3
                have hKE := keptEq_same ke kr most most _ F6 F8 (ops[k3]).key (w14.drewN q3) (HST14.out.k1.drewN q3) (HST14.out.k3.drewN q3)
                clear hX6
                generalize (ops[k3]).key = ky at *
                subst ea6
                go_wp2_with fail
                refine hKE.mono ?_
                rintro e w15 ⟨rfl, n15, hw15⟩
                rw [World.drewN_drewN] at hw15
                subst hw15
                clear hKE
                go_wp2
                go_roundw
                case rel => exact ⟨k3 + 1, q3 + n15, by omega, by go_num, rfl⟩
                case measure => simp [intOf]; omega
              · skip
                have hKE := keptEq_same ke kr most most _ F6 F8 ⟨#[]⟩ (w14.drewN q3) (HST14.out.k1.drewN q3) (HST14.out.k3.drewN q3)
                go_wp2_with fail
                refine hKE.mono ?_
                rintro e w15 ⟨rfl, n15, hw15⟩
                have hBf : Hid (Below w.heap.size w w15) := by rw [hw15]; exact below_drewN (below_drewN HB14.out _) _
                clear hKE hw15
                go_wp2
                go_ret
                exact ⟨rfl, hBf.out⟩
  refine wp_loop_rounds 1 ?_
  rw [rounds_succ]
  go_wp2
  go_loopw [21] (fun i wr => ∃ k q : Nat, k ≤ items.length ∧ i = .int .i64 k ∧ wr = w14.drewN q) (fun i _ => items.length - (intOf i).toNat)
  case atStart => exact ⟨0, 0, Nat.zero_le _, rfl, rfl⟩
  case round =>
    obtain ⟨k2, q2, hk2, rfl, rfl⟩ := hrel
    by_cases hltk2 : k2 < items.length
    · obtain ⟨_, _, e6, _, _, hX6⟩ := HST14.out.ks.form
      cases e6
      obtain ⟨g6, o6, ea6, hX6⟩ := hX6 (by omega)
      obtain ⟨ckey, _⟩ := hX6 k2 hltk2
      have hKE := keptEq_same ke kr most most _ F6 F8 (items[k2]).1 (w14.drewN q2) (HST14.out.k1.drewN q2) (HST14.out.k3.drewN q2)
      clear hX6
      generalize (items[k2]).1 = ky at *
      subst ea6
      go_wp2_with fail
      refine hKE.mono ?_
      rintro e w15 ⟨rfl, n15, hw15⟩
      rw [World.drewN_drewN] at hw15
      subst hw15
      clear hKE
      go_wp2
      go_roundw
      case rel => exact ⟨k2 + 1, q2 + n15, by omega, by go_num, rfl⟩
      case measure => simp [intOf]; omega
    · skip
      go_wp2
      go_loopw [22] (fun i wr => ∃ k q : Nat, k ≤ ops.length ∧ i = .int .i64 k ∧ wr = w14.drewN q) (fun i _ => ops.length - (intOf i).toNat)
      case atStart => exact ⟨0, _, Nat.zero_le _, rfl, rfl⟩
      case round =>
        obtain ⟨k3, q3, hk3, rfl, rfl⟩ := hrel
        by_cases hltk3 : k3 < ops.length
        · obtain ⟨_, _, e6, _, _, hX6⟩ := HST14.out.os.form
          cases e6
          obtain ⟨g6, o6, ea6, hX6⟩ := hX6 (by omega)
          obtain ⟨_, ckey, _⟩ := hX6 k3 hltk3
          have hKE := keptEq_same ke kr most most _ F6 F8 (ops[k3]).key (w14.drewN q3) (HST14.out.k1.drewN q3) (HST14.out.k3.drewN q3)
          clear hX6
          generalize (ops[k3]).key = ky at *
          subst ea6
          go_wp2_with fail
          refine hKE.mono ?_
          rintro e w15 ⟨rfl, n15, hw15⟩
          rw [World.drewN_drewN] at hw15
          subst hw15
          clear hKE
          go_wp2
          go_roundw
          case rel => exact ⟨k3 + 1, q3 + n15, by omega, by go_num, rfl⟩
          case measure => simp [intOf]; omega
        · skip
          have hKE := keptEq_same ke kr most most _ F6 F8 ⟨#[]⟩ (w14.drewN q3) (HST14.out.k1.drewN q3) (HST14.out.k3.drewN q3)
          go_wp2_with fail
          refine hKE.mono ?_
          rintro e w15 ⟨rfl, n15, hw15⟩
          have hBf : Hid (Below w.heap.size w w15) := by rw [hw15]; exact below_drewN (below_drewN HB14.out _) _
          clear hKE hw15
          go_wp2
          go_ret
          exact ⟨rfl, hBf.out⟩

end Go.Proofs.Qxb6612988aDoor

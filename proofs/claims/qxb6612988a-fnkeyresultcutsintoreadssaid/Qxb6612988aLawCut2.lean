/-
  FnKeyResultCutsIntoReads: the walk.
-/
import Derived.Test.Qxb6612988aLawCutB
namespace Go.Proofs.Qxb6612988a
open Go.RowKit

theorem bytesEq_same (va vb : Value) (xs : List UInt8) (w : World) (hx : Sees w va xs) (hy : Sees w vb xs) (hl : xs.length ≤ 1073741824) :
    Calls Try.prog 9 #[va, vb] w fun e w' => e = .returned (.bool true) ∧ ∃ n, w' = w.drewN n := by
  refine (bytesEq va vb xs xs w hx hy (by unfold maxLen; omega) (by unfold maxLen; omega)).mono ?_
  rintro e w' ⟨rfl, h⟩
  exact ⟨by rw [beq_self_eq_true], h⟩

theorem Sees.takeAt {w : World} {l : List UInt8} {v : Value} (h : Sees w v l) {g c n : Nat} (hv : v = .slice (some ⟨g, 0, none⟩) n c) (p m : Nat) (hp : p + m ≤ l.length) (c' : Nat) (hc : c' = c - p) : Sees w (.slice (some ⟨g, p, none⟩) m c') ((l.drop p).take m) := by
  subst hv
  rcases h with ⟨rfl, ao, c0, h⟩ | ⟨g', o, c0, e, hcap, hcell⟩
  · simp at hp
    obtain ⟨rfl, rfl⟩ : p = 0 ∧ m = 0 := by omega
    exact .inl ⟨by simp, _, _, rfl⟩
  · simp at e
    obtain ⟨⟨rfl, rfl⟩, rfl, rfl⟩ := e
    have hlen : ((l.drop p).take m).length = m := by simp; omega
    refine .inr ⟨g, p, c', by rw [hlen], by omega, fun j hj => ?_⟩
    have := hcell (p + j) (by omega)
    simpa using this

theorem piece_facts {w : World} {eb : Nat} {v : Value} {E : List UInt8} (h : Enc w eb v ([1] ++ E)) : ∃ g c, v = .slice (some ⟨g, 0, none⟩) (E.length + 1) c ∧ E.length + 1 ≤ c ∧ w.cell? ⟨eb, 0, none⟩ = some (.slice (some ⟨g, 0, none⟩) (E.length + 1) c) ∧ Sees w (.slice (some ⟨g, 0, none⟩) 1 c) [1] ∧ Sees w (.slice (some ⟨g, 1, none⟩) E.length (c - 1)) E := by
  have hc := h.cell
  obtain ⟨g, c, rfl⟩ := own_shape h.own (by simp)
  have hcap := own_cap h.own
  have hS := sees_own h.own
  have h0 := hS.takeAt rfl 0 1 (by simp) c rfl
  have h1 := hS.takeAt rfl 1 E.length (by simp; omega) (c - 1) rfl
  have hl : ([1] ++ E).length = E.length + 1 := by simp
  rw [hl] at hc hcap
  refine ⟨g, c, by rw [hl], hcap, hc, by simpa using h0, by simpa using h1⟩

theorem sees_two (w : World) : Sees (w.alloc (.cells #[.int .u8 0, .int .u8 0] 5)) (.slice (some ⟨w.heap.size, 0, none⟩) 2 2) [0, 0] := by
  refine .inr ⟨w.heap.size, 0, 2, rfl, by simp, fun j hj => ?_⟩
  rw [World.cell?_alloc_new]
  match j, hj with
  | 0, _ => rfl
  | 1, _ => rfl

theorem slice_row (g o n c k : Nat) (h : k + 1 ≤ c) (wx : World) : (Instr.slice 34 (.slice (some ⟨g, o, none⟩) n c) (some (.int .i64 k)) (some (.int .i64 ((k : Int) + 1))) none).run Try.prog wx = .ok (.slice (some ⟨g, o + k, none⟩) 1 (c - k)) wx := by
  have h1 : (k : Int) ≤ (k : Int) + 1 := by omega
  have h2 : (k : Int) + 1 ≤ (c : Int) := by omega
  have h3 : ((k : Int) + 1).toNat = k + 1 := by omega
  go_simp
  omega

theorem RowsAt.one {w : World} {R : Nat → Prop} {a : Option Addr} {n c : Nat} {zss : List (List Int)} (h : RowsAt w R (.slice a n c) zss) (k : Nat) (hk : k < zss.length) : ∃ g o, a = some ⟨g, o, none⟩ ∧ zss.length ≤ c ∧ RowsAt w R (.slice (some ⟨g, o + k, none⟩) 1 (c - k)) [zss[k]] := by
  obtain ⟨ao, c', e, _, hl, hX⟩ := h.form
  cases e
  obtain ⟨g, o, rfl, hc, hg, hcell⟩ := hX (by omega)
  refine ⟨g, o, rfl, hc, some ⟨g, o + k, none⟩, c - k, rfl, (fun e => by cases e), by simp, fun _ => ⟨g, o + k, rfl, by simp; omega, hg, fun j hj => ?_⟩⟩
  obtain rfl : j = 0 := by simpa using hj
  exact hcell k hk
theorem OpsAt.drop {w : World} {a : Option Addr} {n c : Nat} {keys : List ByteArray} (h : OpsAt w (.slice a n c) keys) (k : Nat) (hk : k < keys.length) : ∃ g o, a = some ⟨g, o, none⟩ ∧ keys.length ≤ c ∧ OpsAt w (.slice (some ⟨g, o + k * 3, none⟩) (n - k) (c - k)) (keys.drop k) := by
  obtain ⟨ao, c', e, hl, hX⟩ := h.form
  cases e
  obtain ⟨g, o, rfl, hc, hcell⟩ := hX (by omega)
  refine ⟨g, o, rfl, hc, some ⟨g, o + k * 3, none⟩, c - k, by simp, by simp; omega, fun _ => ⟨g, o + k * 3, rfl, by simp; omega, fun j hj => ?_⟩⟩
  have := hcell (k + j) (by simp at hj; omega)
  rw [show o + (k + j) * 3 + 1 = o + k * 3 + j * 3 + 1 by omega] at this
  rw [this]
  simp

set_option maxRecDepth 100000 in
set_option maxHeartbeats 16000000 in
theorem cut_walk (most : Int) (kv ov rv : Value) (items : List (ByteArray × List Int)) (ops : List OpV) (zss : List (List Int)) (w : World) (hK : KLRaw w kv items) (hO : OpRaw w ov ops) (hR : RowRaw w rv zss) :
    Calls Try.prog 5 #[.int .i64 most, kv, ov, rv] w fun e w' => e = .returned (.bool true) ∧ Below w.heap.size w w' := by
  obtain ⟨ka, kc, ek⟩ : ∃ a c, kv = .slice a items.length c := by obtain ⟨a, c, e, _⟩ := hK.form; exact ⟨a, c, e⟩
  obtain ⟨oa, oc, eo⟩ : ∃ a c, ov = .slice a ops.length c := by obtain ⟨a, c, e, _⟩ := hO.form; exact ⟨a, c, e⟩
  obtain ⟨ra, rc, er⟩ : ∃ a c, rv = .slice a zss.length c := by obtain ⟨a, c, e, _⟩ := hR.form; exact ⟨a, c, e⟩
  have hT := zzBytesA most kv ov rv items ops zss w hK hO hR
  have hTB := fun (hk : items.length ≤ 1048576) (ho : ops.length ≤ 1048576) (hr : zss.length ≤ 1048576) (hk2 : ∀ p ∈ items, p.1.size ≤ 1048576 ∧ p.2.length ≤ 1048576) (ho2 : ∀ p ∈ ops, p.key.size ≤ 1048576) (hr2 : ∀ z ∈ zss, z.length ≤ 1048576) => resultTooBig none 0 0 kv ov rv items ops zss w hK hO hR (by omega) hk ho hr hk2 ho2 hr2
  subst ek
  subst eo
  subst er
  go_enter Try.func5, Try.ntmps5
  go_wp2_with fail
  refine hT.mono ?_
  rintro e w1 ⟨⟨b, rfl, hb⟩, hw⟩
  replace hw := hw.symm
  subst hw
  clear hT
  cases b with
  | false =>
    clear hb hTB
    go_wp2
    go_ret
    exact ⟨rfl, Below.refl _ _⟩
  | true =>
  replace hb := hb rfl
  have hk2 : ∀ p ∈ items, p.1.size ≤ 1048576 ∧ p.2.length ≤ 1048576 := fun p hp => by have := sumK_mem hp; have := sumK_mem1 hp; omega
  have ho2 : ∀ p ∈ ops, p.key.size ≤ 1048576 := fun p hp => by have := sumO_mem hp; omega
  have hr2 : ∀ z ∈ zss, z.length ≤ 1048576 := fun z hz => by have := total_mem hz; omega
  replace hTB := hTB (by omega) (by omega) (by omega) hk2 ho2 hr2
  clear hk2 ho2
  go_wp2_with fail
  refine hTB.mono ?_
  rintro e w1 ⟨⟨b, rfl⟩, n0, hw⟩
  clear hTB
  cases b with
  | true =>
    clear hb
    go_wp2
    go_ret
    exact ⟨rfl, below_drewN (Below.refl _ _) _⟩
  | false =>
  have hB0 : Below w.heap.size w w1 := by rw [hw]; exact below_drewN (Below.refl _ _) _
  have hsz0 : w.heap.size = w1.heap.size := by rw [hw]; rfl
  have HB0 : Hid (Below w.heap.size w w1) := hB0
  have HSZ0 : Hid (w.heap.size = w1.heap.size) := hsz0
  replace hK := hK.below hB0
  replace hO := hO.below hB0
  replace hR := hR.below hB0
  clear hB0 hsz0 hw
  have hC1 := zzCloneRows_any _ zss w1 (hR.arg (by omega) (by omega))
  go_wp2_with fail
  refine hC1.mono ?_
  rintro e w2 ⟨v2, rfl, hR2, hB2, hv2⟩
  clear hC1
  obtain ⟨a2, c2, e2⟩ : ∃ a c, v2 = .slice a zss.length c := by obtain ⟨a, c, e, _⟩ := hR2.form; exact ⟨a, c, e⟩
  subst e2
  have hC2 := zzCloneRows_any _ zss w2 hR2.arg
  go_wp2_with fail
  refine hC2.mono ?_
  rintro e w3 ⟨v3, rfl, hR3, hB3, hv3⟩
  clear hC2
  obtain ⟨a3, c3, e3⟩ : ∃ a c, v3 = .slice a zss.length c := by obtain ⟨a, c, e, _⟩ := hR3.form; exact ⟨a, c, e⟩
  subst e3
  have hB23 : Below w1.heap.size w1 w3 := hB2.trans (hB3.mono hB2.size)
  have hK4 := zzKeepAll_any most _ items w3 ((hK.below hB23).arg (by omega) (by omega))
  go_wp2_with fail
  refine hK4.mono ?_
  rintro e w4 ⟨rfl, hKL4, hB4⟩
  clear hK4
  have hB24 : Below w1.heap.size w1 w4 := hB23.trans (hB4.mono hB23.size)
  have hO5 := zzOps_any _ ops w4 ((hO.below hB24).arg (by omega))
  go_wp2_with fail
  refine hO5.mono ?_
  rintro e w5 ⟨v5, rfl, hX5, hB5, hv5⟩
  clear hO5
  obtain ⟨a5, c5, e5⟩ : ∃ a c, v5 = .slice a (ops.map (·.key)).length c := by obtain ⟨a, c, e, _⟩ := hX5.form; exact ⟨a, c, e⟩
  subst e5
  have hB25 : Below w1.heap.size w1 w5 := hB24.trans (hB5.mono hB24.size)
  have hB35 : Below w2.heap.size w2 w5 := hB3.trans ((hB4.mono hB3.size).trans (hB5.mono (Nat.le_trans hB3.size hB4.size)))
  have hB45 : Below w3.heap.size w3 w5 := hB4.trans (hB5.mono hB4.size)
  have s2 := hB2.size
  have s3 := hB3.size
  have s4 := hB4.size
  have s5 := hB5.size
  obtain ⟨keys, hkeys⟩ : ∃ keys, keys = ops.map (·.key) := ⟨_, rfl⟩
  have hkl : keys.length = ops.length := by rw [hkeys]; simp
  rw [← hkeys, hkl] at hX5 hv5
  have hkl6 := ((hKL4.mono (G := fun j => w3.heap.size ≤ j ∧ j < w4.heap.size) (fun j h1 h2 => ⟨h2, h1⟩)).below hB5 (fun j hj => hj.2)).alloc (.cells #[.slice none 0 0, .int .i64 0] 27)
  have kA : Kept (fun _ => False) w5 (w5.alloc (.cells #[.slice none 0 0, .int .i64 0] 27)) := (Kept.refl _ _).alloc _
  have hr6 := ((hR2.mono (G := fun j => w1.heap.size ≤ j ∧ j < w2.heap.size) (fun j h1 h2 => ⟨h2, h1⟩)).below hB35 (fun j hj => hj.2)).kept kA (fun _ _ f => f)
  have hw6 := ((hR3.mono (G := fun j => w2.heap.size ≤ j ∧ j < w3.heap.size) (fun j h1 h2 => ⟨h2, h1⟩)).below hB45 (fun j hj => hj.2)).kept kA (fun _ _ f => f)
  have hx6 := hX5.kept kA (fun _ _ f => f)
  have HO : Hid (OpRaw w1 (.slice oa ops.length oc) ops) := hO
  have HB1 : Hid (Below w1.heap.size w1 (w5.alloc (.cells #[.slice none 0 0, .int .i64 0] 27))) := hB25.alloc hB25.size _
  have hE6 : Enc (w5.alloc (.cells #[.slice none 0 0, .int .i64 0] 27)) w5.heap.size (.slice none 0 0) [] := ⟨⟨0, heap_alloc_new _ _⟩, World.ownsRow_nil _ _ _ _⟩
  have hZ := zzEncKeyResult w5.heap.size w3.heap.size most (keepAll most items) _ _ _ _ _ keys [] zss _ hE6 hkl6 hx6 hr6
    (fun j hj => ⟨by simp; omega, by omega, by simp [Value.ownBlock]⟩) (fun j hj => ⟨by simp; omega, by omega, by simp [Value.ownBlock], by omega⟩) (fun j hj => ⟨by simp; have := hv5 j hj; omega, by have := hv5 j hj; omega, by simp [Value.ownBlock]⟩) (by omega) (by simp)
  have hBW : Below w.heap.size w (w5.alloc (.cells #[.slice none 0 0, .int .i64 0] 27)) := (HB0.out.trans (hB25.mono (Nat.le_of_eq HSZ0.out))).alloc (by have := HB0.out.size; have := hB25.size; omega) _
  have HBW : Hid (Below w.heap.size w (w5.alloc (.cells #[.slice none 0 0, .int .i64 0] 27))) := hBW
  have HSZ : Hid (w.heap.size ≤ w5.heap.size) := by have := HB0.out.size; have := hB25.size; unfold Hid; omega
  have HKS : Hid (keys = ops.map (·.key)) := hkeys
  have HKL : Hid (keys.length = ops.length) := hkl
  clear hkeys hkl hBW
  clear hR2 hR3 hKL4 hX5 hE6 hB23 hB24 hB25 hB35 hB45 hB2 hB3 hB4 hB5 HB0 HSZ0 hK hR hO kA
  go_wp2_with fail
  refine hZ.mono ?_
  rintro e w7 ⟨rfl, v7, hE7, hW7⟩
  clear hZ
  rw [List.nil_append] at hE7
  obtain ⟨kf, hkf⟩ : ∃ kf : Nat → List Int, kf = fun i => (kget (keepAll most items) (keyOf' keys i)).getD [] := ⟨_, rfl⟩
  rw [← hkf] at hE7
  have HKF : Hid (kf = fun i => (kget (keepAll most items) (keyOf' keys i)).getD []) := hkf
  clear hkf
  -- all but the encoder stands as it stood
  have st : Stage w7 w5.heap.size w3.heap.size most (keepAll most items) v7 (.slice a5 ops.length c5) (.slice a2 zss.length c2) (.slice a3 zss.length c3) (.slice oa ops.length oc) keys ops zss (Lib.uvarint zss.length ++ encR kf 0 zss) (fun j => w3.heap.size ≤ j ∧ j < w4.heap.size) (fun j => w1.heap.size ≤ j ∧ j < w2.heap.size) (fun j => w2.heap.size ≤ j ∧ j < w3.heap.size) := by
    have s7 := hW7.1.size
    simp at s7
    refine ⟨hE7, hkl6.kept hW7.1 ?_, hx6.kept hW7.1 ?_, hr6.kept hW7.1 ?_, hw6.kept hW7.1 ?_, ?_, fun j hj => by omega, fun j hj => by omega, fun j hj => by have := hv5 j hj; omega⟩
    · rintro j hj (e | e)
      · omega
      · simp [Value.ownBlock] at e
    · rintro j hj (e | e)
      · have := hv5 j hj; omega
      · simp [Value.ownBlock] at e
    · rintro j hj (e | e)
      · omega
      · simp [Value.ownBlock] at e
    · rintro j hj (e | e)
      · omega
      · simp [Value.ownBlock] at e
    · refine HO.out.below (below_kept HB1.out hW7.1 (Nat.le_refl _) ?_)
      rintro j (e | e)
      · omega
      · simp [Value.ownBlock] at e
  have hBW7 : Hid (Below w.heap.size w w7) := below_kept HBW.out hW7.1 (Nat.le_refl _) (by
    rintro j (e | e)
    · have := HSZ.out; omega
    · simp [Value.ownBlock] at e)
  clear hkl6 hx6 hr6 hw6 HO HB1 hW7 HBW hE7 hv2 hv3 hv5
  generalize hF : (fun j => w3.heap.size ≤ j ∧ j < w4.heap.size) = F at st
  generalize hR : (fun j => w1.heap.size ≤ j ∧ j < w2.heap.size) = R at st
  generalize hQ : (fun j => w2.heap.size ≤ j ∧ j < w3.heap.size) = Q at st
  clear hF hR hQ s2 s3 s4 s5
  generalize w5.heap.size = eb at *
  generalize w3.heap.size = kb at *
  clear HSZ
  -- the numbers
  have hRl := encR_length kf 0 zss hr2
  have hL1 := Lib.uvarint_pos zss.length
  have hL2 := Lib.uvarint_length64 (x := zss.length) (by omega)
  have hlen : (Lib.uvarint zss.length ++ encR kf 0 zss).length = (Lib.uvarint zss.length).length + (encR kf 0 zss).length := List.length_append
  obtain ⟨g7, c7, e7⟩ := own_shape st.enc.own (by omega)
  subst e7
  have hU := zzUvarint_any zss.length (by omega) w7
  obtain ⟨L, eL⟩ : ∃ L, L = Lib.uvarint zss.length ++ encR kf 0 zss := ⟨_, rfl⟩
  rw [← eL] at st hlen
  have EL : Hid (L = Lib.uvarint zss.length ++ encR kf 0 zss) := eL
  clear eL
  go_wp2_with fail
  refine hU.mono ?_
  rintro e w8 ⟨v8, rfl, ho8, hk8, hv8⟩
  clear hU
  obtain ⟨g8, c8, e8⟩ := own_shape ho8 (by omega)
  subst e8
  have st8 := st.kept hk8
  have c12 := st8.enc.cell
  have hcap7 := own_cap st8.enc.own
  have hcap8 := own_cap ho8
  have hS8 := sees_own ho8
  have hS7 := (sees_own st8.enc.own).takeAt rfl 0 (Lib.uvarint zss.length).length (by omega) c7 rfl
  have hpre : (L.drop 0).take (Lib.uvarint zss.length).length = Lib.uvarint zss.length := by rw [EL.out]; simp
  rw [hpre] at hS7
  have hEq := bytesEq_same _ _ _ w8 hS7 hS8 (by omega)
  have EHL : Hid (L.length = (Lib.uvarint zss.length).length + (encR kf 0 zss).length) := hlen
  have hlen1 : (Lib.uvarint zss.length).length ≤ L.length := by omega
  have hlen2 : L.length ≤ 33554432 := by omega
  have hBW8 : Hid (Below w.heap.size w w8) := below_kept hBW7.out hk8 (Nat.le_refl _) (fun _ f => f.elim)
  clear hpre hlen hRl st hk8 hv8 ho8 hBW7 hS7 hS8
  obtain ⟨hl, ehl⟩ : ∃ hl, hl = (Lib.uvarint zss.length).length := ⟨_, rfl⟩
  rw [← ehl] at hEq hlen1 hcap8 hL1 hL2
  rw [← ehl]
  have EH : Hid (hl = (Lib.uvarint zss.length).length) := ehl
  clear ehl
  have hnl : decide ((L.length : Int) < (hl : Int)) = false := by rw [decide_eq_false_iff_not]; omega
  go_wp2_with fail
  refine hEq.mono ?_
  rintro e w9 ⟨rfl, n9, hw9⟩
  have hk9 : Kept (fun _ => False) w8 w9 := by rw [hw9]; exact (Kept.refl _ _).drewN _
  have hBW9 : Hid (Below w.heap.size w w9) := below_kept hBW8.out hk9 (Nat.le_refl _) (fun _ f => f.elim)
  have st9 := st8.kept hk9
  clear hEq hw9 c12 st8 hk9 hBW8
  have hU := zzUvarint_any 1 (by omega) w9
  go_wp2_with fail
  refine hU.mono ?_
  rintro e w10 ⟨v10, rfl, ho10, hk10, hv10⟩
  clear hU
  rw [uv1] at ho10
  obtain ⟨g10, c10, e10⟩ := own_shape ho10 (by simp)
  subst e10
  have hone := sees_own (l := [1]) ho10
  have st10 := st9.kept hk10
  have hBW10 : Hid (Below w.heap.size w w10) := below_kept hBW9.out hk10 (Nat.le_refl _) (fun _ f => f.elim)
  clear st9 hk10 hv10 ho10 hBW9
  go_wp2_with fail
  obtain ⟨A, hA⟩ : ∃ A, A = keepAll most items := ⟨_, rfl⟩
  rw [← hA] at st10 HKF
  have hn1 : zss.length ≤ 1048576 := by omega
  have hn2 : ops.length ≤ 1048576 := by omega
  have hzt := hb
  clear hA hb hnl
  go_loopw [15, 16, 17, 18, 19, 20, 21, 22, 23] (fun p i _ _ _ _ _ _ _ wr => ∃ (k q : Nat), k ≤ zss.length ∧ i = .int .i64 k ∧ p = .int .i64 q ∧ Hid (q = hl + (encR kf 0 (zss.take k)).length) ∧ Stage wr eb kb most A (.slice (some ⟨g7, 0, none⟩) L.length c7) (.slice a5 ops.length c5) (.slice a2 zss.length c2) (.slice a3 zss.length c3) (.slice oa ops.length oc) keys ops zss L F R Q ∧ Sees wr (.slice (some ⟨g10, 0, none⟩) 1 c10) [1] ∧ Hid (Below w.heap.size w wr))
    (fun _ i _ _ _ _ _ _ _ _ => zss.length - (intOf i).toNat)
  case atStart => exact ⟨0, hl, Nat.zero_le _, rfl, rfl, by simp [Hid, encR], st10, hone, hBW10⟩
  case round =>
    clear st10 hone hBW10
    obtain ⟨k, q, hk, rfl, rfl, HQ, st, hone, hBW⟩ := hrel
    by_cases hlt : k < zss.length
    · obtain ⟨g2, o2, ea2, hc2, hrow⟩ := st.rs.one k hlt
      obtain ⟨g3, o3, ea3, hc3, hrow3⟩ := st.ws.one k hlt
      have hsp := encR_split kf zss k hlt
      have hE2 := encKL_two (kf k) zss[k]
      have hE3 := encKL_length (kf k) zss[k] (hr2 _ (List.getElem_mem hlt))
      have hr2k := hr2 _ (List.getElem_mem hlt)
      have hL : L = Lib.uvarint zss.length ++ (encR kf 0 (zss.take k) ++ (encKL (kf k) zss[k] ++ encR kf (k + 1) (zss.drop (k + 1)))) := by rw [EL.out, hsp]
      have hcut : (L.drop q).take (encKL (kf k) zss[k]).length = encKL (kf k) zss[k] := by rw [hL, HQ.out, EH.out]; exact cut_is _ _ _ _
      have hfit : q + (encKL (kf k) zss[k]).length ≤ L.length := by rw [hL, HQ.out, EH.out]; simp only [List.length_append]; omega
      have hcS := (sees_own st.enc.own).takeAt rfl q (encKL (kf k) zss[k]).length hfit (c7 - q) rfl
      rw [hcut] at hcS
      have HQ2 : Hid (q + (encKL (kf k) zss[k]).length = hl + (encR kf 0 (zss.take (k + 1))).length) := by unfold Hid; rw [encR_snoc kf zss k hlt, HQ.out, List.length_append]; omega
      clear hsp hL hcut
      subst ea2
      subst ea3
      have hgo : ∀ (xa : Option Addr) (xn xc : Nat), OpsAt wr (.slice xa xn xc) (keys.drop k) → (∀ j, xa = some j → j.block < wr.heap.size) →
          Calls Try.prog 16 #[.pointer (some ⟨wr.heap.size + 1, 0, none⟩), .pointer (some ⟨kb, 0, none⟩), .agg #[.slice xa xn xc], .slice (some ⟨g2, o2 + k, none⟩) 1 (c2 - k)] (((wr.alloc (.cells #[.slice xa xn xc] 45)).alloc (.cells #[.slice none 0 0, .int .i64 0] 27)).drewN 1) fun e w' => e = .returned (.tuple #[]) ∧ ∃ v', Enc w' (wr.heap.size + 1) v' ([1] ++ encKL (kf k) zss[k]) ∧ Kept (fun _ => False) wr w' := by
        intro xa xn xc hx hxa
        have hfk : kf k = (kget A (keyOf' keys k)).getD [] := congrFun HKF.out k
        rw [hfk]
        exact piece_call st hrow hr2k k xa xn xc hx hxa
      have HE0 : Hid (zss[k] = [] → encKL (kf k) zss[k] = [0, 0]) := fun e => by rw [e]; exact encKL_nil _
      have HES : Hid (kf k = zss[k] → encKL (kf k) zss[k] = Lib.uvarint (zss[k]).length ++ [0]) := fun e => by rw [e]; exact encKL_self _
      generalize encKL (kf k) zss[k] = E at *
      obtain ⟨w3a, w3c, w3e, _, _, w3X⟩ := hrow3.form
      cases w3e
      obtain ⟨g3', o3', w3e, _, hQg, w3X⟩ := w3X (by simp)
      cases w3e
      obtain ⟨lv3, c3cell, h3⟩ := w3X 0 (by simp)
      simp only [Nat.add_zero, List.getElem_cons_zero] at c3cell h3
      clear w3X hrow3 HQ
      generalize zss[k] = z at *
      obtain ⟨l3a, l3c, e3⟩ : ∃ a c, lv3 = .slice a z.length c := by obtain ⟨a, c, e, _⟩ := h3.sees.form; exact ⟨a, c, e⟩
      subst e3
      have hKept : ∀ ky, keyOf' keys k = ky → ∃ r : Option (List Int), Hid (kf k = r.getD []) ∧ Hid (∀ wx, KL wx kb most A F → Calls Try.prog 18 #[.pointer (some ⟨kb, 0, none⟩), .string ky] wx fun e w' => (∃ v, e = .returned (.tuple #[v, .bool r.isSome]) ∧ Holds wx F v (r.getD [])) ∧ w' = wx) :=
        fun ky e => ⟨kget A ky, by unfold Hid; rw [HKF.out, ← e], fun wx h => zzKept_KL kb most A F ky wx h⟩
      have HKY : Hid (∀ (h : k < ops.length), keyOf' keys k = (ops[k]).key) := fun h => by rw [HKS.out]; simp [keyOf', h]
      have HKN : Hid (¬ k < ops.length → keyOf' keys k = ⟨#[]⟩) := fun h => by rw [HKS.out]; unfold keyOf'; rw [List.getElem?_eq_none (by simp; omega)]; rfl
      by_cases hlo : k < ops.length
      case' pos =>
        obtain ⟨g5, o5, ea5, hc5, hxo⟩ := st.xs.drop k (by rw [HKL.out]; exact hlo)
        rw [HKL.out] at hc5
        have hZ := hgo _ _ _ hxo (fun j hj => by cases hj; exact st.hX g5 (by rw [ea5]; rfl))
        obtain ⟨r, HV, HKC⟩ := hKept _ (HKY.out hlo)
        obtain ⟨_, _, e6, _, _, hX6⟩ := st.os.form
        cases e6
        obtain ⟨g6, o6, ea6, hX6⟩ := hX6 (by omega)
        obtain ⟨_, ckey, _⟩ := hX6 k hlo
        have hg6 := World.block_lt_of_cell? wr _ ckey
        clear hX6 HKY HKN hKept
        generalize (ops[k]).key = ky at *
        subst ea5
        subst ea6
        clear hgo hxo
        go_wp2_with fail
      case' neg =>
        have hxo : OpsAt wr (.slice none 0 0) (keys.drop k) := by
          have e : keys.drop k = [] := List.drop_eq_nil_of_le (by rw [HKL.out]; omega)
          rw [e]; exact ⟨none, 0, rfl, by simp, fun h => by simp at h⟩
        have hZ := hgo _ _ _ hxo (fun j hj => by cases hj)
        obtain ⟨r, HV, HKC⟩ := hKept _ (HKN.out hlo)
        have ckey : True := trivial
        clear hgo hxo HKY HKN hKept
        go_wp2_with fail
      all_goals
        have hsl := slice_row g2 o2 zss.length c2 k (by omega)
        have hwr : IntKind.i64.wrap ((k : Int) + 1) = (k : Int) + 1 := by rw [IntKind.wrap_i64]; omega
        go_region_with (go_at_call 16; refine hZ.mono ?_; rintro e w2 ⟨rfl, v2, hE2, hW2⟩)
        clear hZ hsl hwr
        obtain ⟨ge, ce, ev, hce, cei, hSo, hSp⟩ := piece_facts hE2
        subst ev
        have st2 := st.kept hW2
        have hone2 := hone.kept hW2 (fun _ _ f => f)
        have hBW2 : Hid (Below w.heap.size w w2) := below_kept hBW.out hW2 (Nat.le_refl _) (fun _ f => f.elim)
        have hcS2 := hcS.kept hW2 (fun _ _ f => f)
        have c3cell2 := hW2.cell c3cell (fun f => f)
        have h32 := h3.kept hW2 (fun _ _ f => f)
        have ckey2 := by first | exact hW2.cell ckey (fun f => f) | exact trivial
        have ceb2 := st2.enc.cell
        have hEq1 := bytesEq_same _ _ [1] w2 hSo hone2 (by simp)
        have hEq2 := fun n => bytesEq_same _ _ E (w2.drewN n) (hcS2.drewN n) (hSp.drewN n) (by omega)
        clear st hone hBW hcS c3cell h3 ckey hE2 hW2 hSo
        go_wp2_with fail
        refine hEq1.mono ?_
        rintro e w3 ⟨rfl, n3, hw3⟩
        subst hw3
        clear hEq1
        go_wp2_with fail
        refine (hEq2 n3).mono ?_
        rintro e w3 ⟨rfl, n4, hw3⟩
        clear hEq2
        have hk3 : Kept (fun _ => False) w2 w3 := by rw [hw3]; exact ((Kept.refl _ _).drewN _).drewN _
        have st3 := st2.kept hk3
        have hone3 := hone2.kept hk3 (fun _ _ f => f)
        have hBW3 : Hid (Below w.heap.size w w3) := below_kept hBW2.out hk3 (Nat.le_refl _) (fun _ f => f.elim)
        have c3cell3 := hk3.cell c3cell2 (fun f => f)
        have h33 := h32.kept hk3 (fun _ _ f => f)
        have hSp3 := hSp.kept hk3 (fun _ _ f => f)
        have ckey3 := by first | exact hk3.cell ckey2 (fun f => f) | exact trivial
        have hKC := HKC.out w3 st3.kl
        have hV := HV.out
        clear st2 hone2 hBW2 hcS2 c3cell2 h32 ckey2 ceb2 hw3 hk3 hSp HKC cei HV
        rcases r with _ | ks
        · simp only [Option.isSome_none, Option.getD_none] at hKC hV
          have HV : Hid (kf k = _) := hV
          clear hV
          go_wp2_with fail
          refine hKC.mono ?_
          rintro e w4 ⟨⟨kl, rfl, hkl⟩, hw4⟩
          replace hw4 := hw4.symm
          subst hw4
          clear hKC
          obtain ⟨kla, klc, ekl⟩ : ∃ a c, kl = .slice a 0 c := by obtain ⟨a, c, e, _⟩ := hkl.sees.form; exact ⟨a, c, e⟩
          subst ekl
          by_cases hz : z = []
          · skip
            have hE : Hid (E = [0, 0]) := HE0.out hz
            subst hz
            have hSpA := fun o => hSp3.kept (S := fun _ => False) ((Kept.refl _ _).alloc o) (fun _ _ f => f)
            go_wp2_with fail
            refine (bytesEq_same _ _ E _ (hSpA _) ?_ (by omega)).mono ?_
            · rw [hE.out]; exact sees_two w3
            rintro e w5 ⟨rfl, n5, hw5⟩
            have hk5 : Kept (fun _ => False) w3 w5 := by rw [hw5]; exact ((Kept.refl _ _).alloc _).drewN _
            have st5 := st3.kept hk5
            have hone5 := hone3.kept hk5 (fun _ _ f => f)
            have hBW5 : Hid (Below w.heap.size w w5) := below_kept hBW3.out hk5 (Nat.le_refl _) (fun _ f => f.elim)
            have hkl5 := hkl.kept hk5 (fun _ _ f => f)
            have h35 := h33.kept hk5 (fun _ _ f => f)
            have hSp5 := hSp3.kept hk5 (fun _ _ f => f)
            have c3cell5 := hk5.cell c3cell3 (fun f => f)
            clear hSpA hw5 hk5 st3 hone3 hBW3 hkl h33 hSp3 c3cell3
            go_wp2
            go_roundw
            case rel => exact ⟨k + 1, q + E.length, by omega, by go_num, by go_num, HQ2, st5, hone5, hBW5⟩
            case measure => simp [intOf]; omega
          · skip
            have hzl : 0 < z.length := List.length_pos_iff.2 hz
            have hzb : ((z.length : Int) == 0) = false := by rw [beq_eq_false_iff_ne]; omega
            go_wp2
            go_roundw
            case rel => exact ⟨k + 1, q + E.length, by omega, by go_num, by go_num, HQ2, st3, hone3, hBW3⟩
            case measure => simp [intOf]; omega
        · simp only [Option.isSome_some, Option.getD_some] at hKC hV
          have HV : Hid (kf k = _) := hV
          clear hV
          go_wp2_with fail
          refine hKC.mono ?_
          rintro e w4 ⟨⟨kl, rfl, hkl⟩, hw4⟩
          replace hw4 := hw4.symm
          subst hw4
          clear hKC
          obtain ⟨kla, klc, ekl⟩ : ∃ a c, kl = .slice a ks.length c := by obtain ⟨a, c, e, _⟩ := hkl.sees.form; exact ⟨a, c, e⟩
          subst ekl
          have hksl := hkl.len
          by_cases hz : z = []
          · skip
            have hE : Hid (E = [0, 0]) := HE0.out hz
            subst hz
            have hSpA := fun o => hSp3.kept (S := fun _ => False) ((Kept.refl _ _).alloc o) (fun _ _ f => f)
            go_wp2_with fail
            refine (bytesEq_same _ _ E _ (hSpA _) ?_ (by omega)).mono ?_
            · rw [hE.out]; exact sees_two w3
            rintro e w5 ⟨rfl, n5, hw5⟩
            have hk5 : Kept (fun _ => False) w3 w5 := by rw [hw5]; exact ((Kept.refl _ _).alloc _).drewN _
            have st5 := st3.kept hk5
            have hone5 := hone3.kept hk5 (fun _ _ f => f)
            have hBW5 : Hid (Below w.heap.size w w5) := below_kept hBW3.out hk5 (Nat.le_refl _) (fun _ f => f.elim)
            have hkl5 := hkl.kept hk5 (fun _ _ f => f)
            have h35 := h33.kept hk5 (fun _ _ f => f)
            have hSp5 := hSp3.kept hk5 (fun _ _ f => f)
            have c3cell5 := hk5.cell c3cell3 (fun f => f)
            clear hSpA hw5 hk5 st3 hone3 hBW3 hkl h33 hSp3 c3cell3
            go_wp2
            go_roundw
            case rel => exact ⟨k + 1, q + E.length, by omega, by go_num, by go_num, HQ2, st5, hone5, hBW5⟩
            case measure => simp [intOf]; omega
          · skip
            have hzl : 0 < z.length := List.length_pos_iff.2 hz
            have hzb : ((z.length : Int) == 0) = false := by rw [beq_eq_false_iff_ne]; omega
            have hzl5 := h33.len
            have hIE := intsEq _ _ _ _ _ hkl.sees h33.sees (by unfold maxLen; omega) (by unfold maxLen; omega)
            go_wp2_with fail
            refine hIE.mono ?_
            rintro e w6 ⟨rfl, n6, hw6⟩
            have hk6 : Kept (fun _ => False) w3 w6 := by rw [hw6]; exact (Kept.refl _ _).drewN _
            have st6 := st3.kept hk6
            have hone6 := hone3.kept hk6 (fun _ _ f => f)
            have hBW6 : Hid (Below w.heap.size w w6) := below_kept hBW3.out hk6 (Nat.le_refl _) (fun _ f => f.elim)
            have hSp6 := hSp3.kept hk6 (fun _ _ f => f)
            clear hIE hw6 hk6 st3 hone3 hBW3 hkl h33 hSp3 c3cell3
            by_cases hkz : ks = z
            · rw [hkz, beq_self_eq_true]
              have hE : Hid (E = Lib.uvarint z.length ++ [0]) := HES.out (HV.out.trans hkz)
              subst hkz
              have hU := zzUvarint_any ks.length (by omega) w6
              have hU1 := Lib.uvarint_pos ks.length
              have hU2 := Lib.uvarint_length64 (x := ks.length) (by omega)
              obtain ⟨i0, hi, hz0, hz1, hz2⟩ := info_parts infoU8
              go_wp2_with fail
              refine hU.mono ?_
              rintro e w7 ⟨v7, rfl, ho7, hk7, hv7⟩
              clear hU
              obtain ⟨gu, cu, eu⟩ := own_shape ho7 (by omega)
              subst eu
              go_wp2_with (at_builtin; refine wpList_append_own_at _ rfl _ _ 22 rfl 0 5 i0 (.int .u8 0) 1 1 Try.underlying22 hi hz0 hz1 hz2 rfl (by decide) _ _ _ rfl (ho7.alloc _) ⟨w7.heap.size, 0, none⟩ 1 1 [Value.int .u8 0] rfl rfl ?c1 ?c2 ?c3 ?c4 ?c5 ?_)
              case c1 =>
                intro j u hj
                match j, hj with
                | 0, hj => simp at hj; subst hj; simp [Addr.add]
              case c2 => intro u hu; simp at hu; subst hu; rfl
              case c3 => unfold maxLen; omega
              case c4 => omega
              case c5 => exact Nat.zero_le _
              intro v8 w8 hown8 hgrow _ hat
              have hk8 : Kept (fun _ => False) w6 w8 := (hk7.alloc _).grown hgrow (fun j hj hlt => by have := hv7 j hj; omega)
              have hbc : Lib.byteCells (Lib.uvarint ks.length) ++ [Value.int .u8 0] = Lib.byteCells (Lib.uvarint ks.length ++ [0]) := by rw [Lib.byteCells_append]; rfl
              rw [hbc] at hown8
              have hS8 := sees_own (l := Lib.uvarint ks.length ++ [0]) (by rw [List.length_append]; exact hown8)
              obtain ⟨g8', c8', e8'⟩ := own_shape hown8 (by omega)
              subst e8'
              have st8 := st6.kept hk8
              have hone8 := hone6.kept hk8 (fun _ _ f => f)
              have hBW8 : Hid (Below w.heap.size w w8) := below_kept hBW6.out hk8 (Nat.le_refl _) (fun _ f => f.elim)
              have hSp8 := hSp6.kept hk8 (fun _ _ f => f)
              rw [← hE.out] at hS8
              have hEq8 := bytesEq_same _ _ E w8 hSp8 hS8 (by omega)
              clear st6 hone6 hBW6 hSp6 hk7 hv7 ho7 hown8 hgrow hat hk8 hbc hi hz0 hz1 hz2 hS8
              go_wp2_with fail
              refine hEq8.mono ?_
              rintro e w9 ⟨rfl, n9, hw9⟩
              have hk9 : Kept (fun _ => False) w8 w9 := by rw [hw9]; exact (Kept.refl _ _).drewN _
              have st9 := st8.kept hk9
              have hone9 := hone8.kept hk9 (fun _ _ f => f)
              have hBW9 : Hid (Below w.heap.size w w9) := below_kept hBW8.out hk9 (Nat.le_refl _) (fun _ f => f.elim)
              clear hEq8 hw9 hk9 st8 hone8 hBW8 hSp8
              go_wp2
              go_roundw
              case rel => exact ⟨k + 1, q + E.length, by omega, by go_num, by go_num, HQ2, st9, hone9, hBW9⟩
              case measure => simp [intOf]; omega
            · rw [beq_ne hkz]
              go_wp2
              go_roundw
              case rel => exact ⟨k + 1, q + E.length, by omega, by go_num, by go_num, HQ2, st6, hone6, hBW6⟩
              case measure => simp [intOf]; omega
    · obtain rfl : k = zss.length := by omega
      have hcz := st.enc.cell
      have hqz : Hid ((q : Int) = (L.length : Int)) := by unfold Hid; rw [HQ.out, List.take_length, EHL.out, EH.out]
      have hqb : ((q : Int) == (L.length : Int)) = true := by rw [hqz.out]; exact beq_self_eq_true _
      go_wp2
      go_ret
      first | exact ⟨rfl, hBW.out⟩ | exact ⟨congrArg (fun b => Ending.returned (.bool b)) hqb, hBW.out⟩

end Go.Proofs.Qxb6612988a

/-
  FnKeyValueReadsBackAndKeeps: the walk.
-/
import Derived.Test.Qxb6612988aDoorLawVA
namespace Go.Proofs.Qxb6612988aDoor
open Go.RowKit

set_option maxRecDepth 100000 in
set_option maxHeartbeats 16000000 in
theorem value_walk (pv rv lv : Value) (pre : List UInt8) (key : ByteArray) (prior zs : List Int) (hp keep grow : Bool) (w : World) (hP : Sees w pv pre) (hpn : pre.length ≤ maxLen) (hkn : key.size ≤ maxLen) (hR : SeesI w rv prior) (hrn : prior.length ≤ maxLen) (hL : SeesI w lv zs) (hln : zs.length ≤ maxLen) (hRz : ∀ z ∈ prior, I64 z) (hLz : ∀ z ∈ zs, I64 z) :
    Calls Tryd.prog 5 #[pv, .string key, rv, .bool hp, lv, .bool keep, .bool grow] w fun e w' => e = .returned (.bool true) ∧ Below w.heap.size w w' := by
  obtain ⟨pa, pc, ep⟩ : ∃ a c, pv = .slice a pre.length c := by obtain ⟨a, c, e, _⟩ := hP.form; exact ⟨a, c, e⟩
  obtain ⟨ra, rc, er⟩ : ∃ a c, rv = .slice a prior.length c := by obtain ⟨a, c, e, _⟩ := hR.form; exact ⟨a, c, e⟩
  obtain ⟨la, lc, el⟩ : ∃ a c, lv = .slice a zs.length c := by obtain ⟨a, c, e, _⟩ := hL.form; exact ⟨a, c, e⟩
  have hT := zzBytesV pa ra la pre.length pc prior.length rc zs.length lc key hp keep grow w hpn hkn hrn hln
  have hTB := fun (h1 : pre.length ≤ 1048576) (h2 : key.size ≤ 1048576) (h3 : prior.length ≤ 1048576) (h4 : zs.length ≤ 1048576) => valueTooBig pa ra la pre.length pc prior.length rc zs.length lc key w h1 h2 h3 h4
  subst ep
  subst er
  subst el
  go_enter Tryd.func5, Tryd.ntmps5
  go_wp2_with fail
  refine hT.mono ?_
  rintro e w1 ⟨⟨b, rfl, hb⟩, hw⟩
  replace hw := hw.symm
  subst hw
  clear hT
  cases b with
  | false =>
    clear hb hTB
    go_wp2
    go_ret
    exact ⟨rfl, Below.refl _ _⟩
  | true =>
  replace hb := hb rfl
  replace hTB := hTB (by omega) (by omega) (by omega) (by omega)
  go_wp2_with fail
  refine hTB.mono ?_
  rintro e w1 ⟨⟨b, rfl⟩, n0, hw⟩
  clear hTB
  cases b with
  | true =>
    clear hb
    go_wp2
    go_ret
    exact ⟨rfl, below_drewN (Below.refl _ _) _⟩
  | false =>
  have hB0 : Below w.heap.size w w1 := by rw [hw]; exact below_drewN (Below.refl _ _) _
  have hsz0 : w.heap.size = w1.heap.size := by rw [hw]; rfl
  have HB0 : Hid (Below w.heap.size w w1) := hB0
  have HSZ0 : Hid (w.heap.size = w1.heap.size) := hsz0
  have HIR : Hid (∀ z ∈ prior, I64 z) := hRz
  have HIL : Hid (∀ z ∈ zs, I64 z) := hLz
  replace hP := hP.below hB0
  replace hR := hR.below hB0
  replace hL := hL.below hB0
  clear hB0 hsz0 hw hRz hLz hpn hkn hrn hln
  -- pre
  have hC := cloneBytes _ pre w1 hP (by omega)
  go_wp2_with fail
  refine hC.mono ?_
  rintro e w2 ⟨v2, rfl, hq⟩
  clear hC
  obtain ⟨o2, k2, b2, a2, c2, e2⟩ := hq.owns (by omega)
  subst e2
  clear hq hP
  -- prior
  have hC := cloneInts _ prior w2 (hR.kept k2 (fun _ _ f => f)) (by omega)
  go_wp2_with fail
  refine hC.mono ?_
  rintro e w3 ⟨v3, rfl, hq⟩
  clear hC
  obtain ⟨o3, k3, b3, a3, c3, e3⟩ := hq.owns (by omega)
  subst e3
  clear hq hR
  -- l
  have k13 : Kept (fun _ => False) w1 w3 := k2.trans k3 (fun _ _ f => f)
  have hC := cloneInts _ zs w3 (hL.kept k13 (fun _ _ f => f)) (by omega)
  go_wp2_with fail
  refine hC.mono ?_
  rintro e w4 ⟨v4, rfl, hq⟩
  clear hC
  obtain ⟨o4, k4, b4, a4, c4, e4⟩ := hq.owns (by omega)
  subst e4
  clear hq hL
  -- wantPre
  have k24 : Kept (fun _ => False) w2 w4 := k3.trans k4 (fun _ _ f => f)
  have hC := cloneBytes _ pre w4 ((sees_own o2).kept k24 (fun _ _ f => f)) (by omega)
  go_wp2_with fail
  refine hC.mono ?_
  rintro e w5 ⟨v5, rfl, hq⟩
  clear hC
  obtain ⟨o5, k5, b5, a5, c5, e5⟩ := hq.owns (by omega)
  subst e5
  clear hq
  -- wantPrior
  have k35 : Kept (fun _ => False) w3 w5 := k4.trans k5 (fun _ _ f => f)
  have hC := cloneInts _ prior w5 (o3.sees.kept k35 (fun _ _ f => f)) (by omega)
  go_wp2_with fail
  refine hC.mono ?_
  rintro e w6 ⟨v6, rfl, hq⟩
  clear hC
  obtain ⟨o6, k6, b6, a6, c6, e6⟩ := hq.owns (by omega)
  subst e6
  clear hq
  -- wantL
  have k46 : Kept (fun _ => False) w4 w6 := k5.trans k6 (fun _ _ f => f)
  have hC := cloneInts _ zs w6 (o4.sees.kept k46 (fun _ _ f => f)) (by omega)
  go_wp2_with fail
  refine hC.mono ?_
  rintro e w7 ⟨v7, rfl, hq⟩
  clear hC
  obtain ⟨o7, k7, b7, a7, c7, e7⟩ := hq.owns (by omega)
  subst e7
  clear hq
  have k57 : Kept (fun _ => False) w5 w7 := k6.trans k7 (fun _ _ f => f)
  have k67 : Kept (fun _ => False) w6 w7 := k7
  have k47 : Kept (fun _ => False) w4 w7 := k46.trans k7 (fun _ _ f => f)
  have k37 : Kept (fun _ => False) w3 w7 := k35.trans k57 (fun _ _ f => f)
  have k27 : Kept (fun _ => False) w2 w7 := k24.trans k47 (fun _ _ f => f)
  have k17 : Kept (fun _ => False) w1 w7 := k2.trans k27 (fun _ _ f => f)
  have s12 := k2.size
  have s23 := k3.size
  have s34 := k4.size
  have s45 := k5.size
  have s56 := k6.size
  have s67 := k7.size
  replace o2 := k27.owns o2 (fun _ _ f => f)
  replace o3 := o3.kept k37 (fun _ _ f => f)
  replace o4 := o4.kept k47 (fun _ _ f => f)
  have p5 := (sees_own o5).kept k57 (fun _ _ f => f)
  replace o5 := k57.owns o5 (fun _ _ f => f)
  replace o6 := o6.kept k67 (fun _ _ f => f)
  have HB7 : Hid (Below w.heap.size w w7) := below_kept HB0.out k17 (Nat.le_refl _) (fun _ f => f.elim)
  clear k2 k3 k4 k5 k6 k7 k13 k24 k35 k46 k57 k67 k47 k37 k27 k17
  -- the two KeyLists
  obtain ⟨W8, eW8⟩ : ∃ W, W = (w7.alloc (.cells #[.int .i64 0, .map none] 50)).alloc (.cells #[.int .i64 0, .map none] 50) := ⟨_, rfl⟩
  have k8 : Kept (fun _ => False) w7 W8 := by rw [eW8]; exact ((Kept.refl _ _).alloc _).alloc _
  have hs8 : W8.heap.size = w7.heap.size + 2 := by rw [eW8]; simp
  have kl1 : KLs W8 w7.heap.size none 0 [] := ⟨by rw [eW8, Below.heap_alloc _ _ _ (by simp)]; exact heap_alloc_new _ _, .inl ⟨rfl, rfl⟩⟩
  have kl2 : KLs W8 (w7.heap.size + 1) none 0 [] := by
    refine ⟨?_, .inl ⟨rfl, rfl⟩⟩
    have h := heap_alloc_new (w7.alloc (.cells #[.int .i64 0, .map none] 50)) (.cells #[.int .i64 0, .map none] 50)
    rw [show (w7.alloc (.cells #[.int .i64 0, .map none] 50)).heap.size = w7.heap.size + 1 by simp] at h
    rw [eW8]; exact h
  have EW8 : Hid (W8 = (w7.alloc (.cells #[.int .i64 0, .map none] 50)).alloc (.cells #[.int .i64 0, .map none] 50)) := eW8
  clear eW8
  have hsz0 := HSZ0.out
  cases hp
  case' true =>
    have hKp := keep_any w7.heap.size none 0 [] key (.slice a3 prior.length c3) W8 kl1 ⟨_, _, _, rfl⟩
    rw [EW8.out] at hKp
    go_wp2_with fail
    refine hKp.mono ?_
    rintro e w9 ⟨rfl, mb1, hk9, hK9, hr9⟩
    rw [← EW8.out] at hK9 hr9
    clear hKp
    replace hr9 : mb1 = W8.heap.size := by
      rcases hr9 with e | ⟨_, e⟩
      · cases e
      · exact e
    have hmb1 : mb1 < w9.heap.size := by
      rcases hk9.2 with ⟨e', _⟩ | ⟨mb', e', es, cl, hm, _⟩
      · cases e'
      · cases e'; exact lt_of_block hm
    have hK79 : Kept (fun k => k = w7.heap.size) w7 w9 := (k8.mono (T := fun k => k = w7.heap.size) (fun _ _ f => f.elim)).trans hK9 (fun i _ h => by rcases h with h | h; exact h; cases h)
    have s89 := hK9.size
    have hC := cloneInts _ prior w9 (o3.sees.kept hK79 (fun j hj e => by have := o3.lt j hj; omega)) (by omega)
    go_wp2_with fail
    refine hC.mono ?_
    rintro e w10 ⟨v10, rfl, hq⟩
    clear hC
    obtain ⟨o10, k10, b10, a10, c10, e10⟩ := hq.owns (by omega)
    subst e10
    clear hq
    have s910 := k10.size
    have kl2' : KLs w10 (w7.heap.size + 1) none 0 [] := (kl2.kept hK9 (fun h => by rcases h with h | h; omega; cases h) (fun j hj => by cases hj)).kept k10 (fun f => f) (fun _ _ f => f)
    have hKp := keep_any (w7.heap.size + 1) none 0 [] key (.slice a10 prior.length c10) w10 kl2' ⟨_, _, _, rfl⟩
    go_wp2_with fail
    refine hKp.mono ?_
    rintro e w11 ⟨rfl, mb2, hk11, hK11, hr11⟩
    clear hKp
    replace hr11 : mb2 = w10.heap.size := by
      rcases hr11 with e | ⟨_, e⟩
      · cases e
      · exact e
    have s1011 := hK11.size
    have hK7 : Kept (fun k => k = w7.heap.size ∨ k = w7.heap.size + 1) w7 w11 := ((hK79.mono (T := fun k => k = w7.heap.size ∨ k = w7.heap.size + 1) (fun _ _ h => .inl h)).trans k10 (fun _ _ f => f.elim)).trans hK11 (fun i _ h => by rcases h with h | h; exact .inr h; cases h)
    have hk9' : KLs w11 w7.heap.size (some mb1) 0 (keepM 0 [] key (.slice a3 prior.length c3)) := (hk9.kept k10 (fun f => f) (fun _ _ f => f)).kept hK11 (fun h => by rcases h with h | h; omega; cases h) (fun j hj h => by cases hj; rcases h with h | h; omega; cases h)
    have o10' : Own w11 (.slice a10 prior.length c10) prior := o10.kept hK11 (fun j hj h => by have := b10 j hj; rcases h with h | h; omega; cases h)
    have old : ∀ j, j < w7.heap.size → ¬ (j = w7.heap.size ∨ j = w7.heap.size + 1) := fun j hj h => by omega
    have st : VStage w11 w7.heap.size (w7.heap.size + 1) (some mb1) (some mb2) (keepM 0 [] key (.slice a3 prior.length c3)) (keepM 0 [] key (.slice a10 prior.length c10)) key (.slice a2 pre.length c2) (.slice a4 zs.length c4) (.slice a5 pre.length c5) (.slice a6 prior.length c6) (.slice a7 zs.length c7) pre prior zs prior := by
      refine ⟨hK7.owns o2 (fun j hj => old j (by have := b2 j hj; omega)), o4.kept hK7 (fun j hj => old j (o4.lt j hj)), p5.kept hK7 (fun j hj => old j (by have := b5 j hj; omega)), fun j hj => ⟨fun h => by have := b5 j hj; have := b2 j h; omega, ?_⟩, o6.kept hK7 (fun j hj => old j (o6.lt j hj)), o7.kept hK7 (fun j hj => old j (o7.lt j hj)), hk9', hk11, ?_, ?_, ?_, ?_, by omega, fun j hj h => by cases hj; cases h; omega, by omega, HIR.out⟩
      · rcases o5.2 with ⟨e, _⟩ | ⟨g, cap, cur, e, _, hg, _⟩
        · rw [e] at hj; simp [Value.ownBlock] at hj
        · rw [e] at hj; cases hj; exact ⟨_, hK7.here (k := g) hg (old g (by have := b5 g (by rw [e]; rfl); omega))⟩
      · rw [kget_keepM]; exact o3.kept hK7 (fun j hj => old j (o3.lt j hj))
      · rw [kget_keepM]; exact o10'
      · intro j hj; rw [kget_keepM]; intro h; have := b4 j hj; have := b3 j h; omega
      · intro j hj
        rw [kget_keepM] at hj
        have := b10 j hj
        rw [kget_keepM]
        exact ⟨fun h => by have := b4 j h; omega, fun h => by have := b3 j h; omega, fun h => by have := b6 j h; omega, fun h => by have := b7 j h; omega⟩
    have ho : (kget (keepM 0 [] key (Value.slice a3 prior.length c3)) key).isSome = (some prior).isSome ∧ (some prior).getD [] = prior := by rw [kget_keepM]; exact ⟨rfl, rfl⟩
    have HB8 : Hid (Below w.heap.size w w11) := below_kept HB7.out hK7 (Nat.le_refl _) (fun k h => by omega)
    have hfr : ∀ k, ((Value.slice a2 pre.length c2).ownBlock = some k ∨ k = w7.heap.size ∨ some mb1 = some k) → w.heap.size ≤ k := fun k h => by
      rcases h with h | h | h
      · have := b2 k h; omega
      · omega
      · cases h; omega
    have hs11 : w7.heap.size < w11.heap.size := by omega
    have hfr2 : ∀ k, ((kget (keepM 0 [] key (Value.slice a10 prior.length c10)) key).getD (.slice none 0 0)).ownBlock = some k → w.heap.size ≤ k := fun k h => by
      rw [kget_keepM] at h
      have := b10 k h; omega
    generalize keepM 0 [] key (Value.slice a3 prior.length c3) = M1 at st ho
    generalize keepM 0 [] key (Value.slice a10 prior.length c10) = M2 at st hfr2
    generalize (some mb1 : Option Nat) = r1 at st hfr
    generalize (some mb2 : Option Nat) = r2 at st
    clear hmb1 hk9 hK9 hr9 hK79 s89 o10 k10 b10 s910 kl2' hk11 hK11 hr11 s1011 hK7 hk9' o10' old EW8 hs8 kl1 kl2 k8
    clear W8
    obtain ⟨W8, e8⟩ : ∃ x, x = w11 := ⟨_, rfl⟩
    subst e8
  case' false =>
    have st : VStage W8 w7.heap.size (w7.heap.size + 1) none none [] [] key (.slice a2 pre.length c2) (.slice a4 zs.length c4) (.slice a5 pre.length c5) (.slice a6 prior.length c6) (.slice a7 zs.length c7) pre prior zs [] := by
      refine ⟨k8.owns o2 (fun _ _ f => f), o4.kept k8 (fun _ _ f => f), p5.kept k8 (fun _ _ f => f), fun j hj => ⟨fun h => by have := b5 j hj; have := b2 j h; omega, ?_⟩, o6.kept k8 (fun _ _ f => f), o7.kept k8 (fun _ _ f => f), kl1, kl2, Own.nil _, Own.nil _, fun j hj h => by simp [kget_nil, Value.ownBlock] at h, fun j hj => by simp [kget_nil, Value.ownBlock] at hj, by omega, (fun j hj => by cases hj), by simp, by simp⟩
      rcases o5.2 with ⟨e, _⟩ | ⟨g, cap, cur, e, _, hg, _⟩
      · rw [e] at hj; simp [Value.ownBlock] at hj
      · rw [e] at hj; cases hj; exact ⟨_, k8.here hg (fun f => f)⟩
    have ho : (kget ([] : List (ByteArray × Value)) key).isSome = (none : Option (List Int)).isSome ∧ (none : Option (List Int)).getD [] = [] := ⟨rfl, rfl⟩
    have HB8 : Hid (Below w.heap.size w W8) := below_kept HB7.out k8 (Nat.le_refl _) (fun _ f => f.elim)
    have hfr : ∀ k, ((Value.slice a2 pre.length c2).ownBlock = some k ∨ k = w7.heap.size ∨ (none : Option Nat) = some k) → w.heap.size ≤ k := fun k h => by
      rcases h with h | h | h
      · have := b2 k h; omega
      · omega
      · cases h
    have hs11 : w7.heap.size < W8.heap.size := by omega
    have hfr2 : ∀ k, ((kget ([] : List (ByteArray × Value)) key).getD (.slice none 0 0)).ownBlock = some k → w.heap.size ≤ k := fun k h => by simp [kget_nil, Value.ownBlock] at h
    clear kl1 kl2 k8
  all_goals
    clear o2 o3 o4 o5 o6 o7 p5 b3 b4 b5 b6 b7
    obtain ⟨W, eW⟩ : ∃ W, W = W8.alloc (.cells #[.slice a2 pre.length c2, .int .i64 0] 28) := ⟨_, rfl⟩
    have kE : Kept (fun _ => False) W8 W := by rw [eW]; exact (Kept.refl _ _).alloc _
    have st2 := st.kept kE
    have hEW : Enc W W8.heap.size (.slice a2 pre.length c2) pre := ⟨⟨0, by rw [eW]; exact heap_alloc_new _ _⟩, st2.own⟩
    have HB9 : Hid (Below w.heap.size w W) := below_kept HB8.out kE (Nat.le_refl _) (fun _ f => f.elim)
    have hbs := HB8.out.size
    have hZ := zzKeyValue W8.heap.size w7.heap.size _ 0 _ key _ _ pre zs _ keep W hEW st2.k1 st2.u1.sees st2.ol.sees HIL.out st2.ol.solid st2.u1.solid st2.sep1 st2.kl (by omega) (by omega) (by omega)
    replace hZ := hZ.mono (fun e w' h => And.intro h.1 (VStage.wrote (W' := w') (keep := keep) st2 hEW ho h.2))
    clear st st2 hEW kE ho HB8
    rw [eW] at hZ
    first
      | rw [hs8, EW8.out] at hZ
      | skip
    go_wp2_with fail
    refine hZ.mono ?_
    rintro e w13 ⟨rfl, ve, r1', ws, hmv, hk13⟩
    clear hZ
    first
      | (rw [← EW8.out] at hmv hk13; rw [← hs8] at hk13 ws ⊢)
      | skip
    rw [← eW] at hmv hk13
    have HB13 : Hid (Below w.heap.size w w13) := below_kept HB9.out hk13 (Nat.le_refl _) (fun k h => by rcases h with h | h; omega; exact hfr k h)
    clear HB9 hk13 hmv hfr eW hbs hs11 hsz0 b2
    generalize W8.heap.size = eb at *
    generalize w7.heap.size = ke at *
    generalize (if keep = true then keepM 0 _ key _ else _) = M1' at ws
    clear s12 s23 s34 s45 s56 s67 HB7 HB0 HSZ0 HIR
    first
      | clear hs8 EW8
      | skip
    -- the numbers
    generalize hO : (if keep = true then some zs else _) = o at ws
    have HO : Hid (_ = o) := hO
    clear hO
    have ws0 := ws
    clear ws
    obtain ⟨r2, M2, ks, ws, hfr2⟩ : ∃ (r2 : Option Nat) (M2 : List (ByteArray × Value)) (ks : List Int), WStage w13 eb ke (ke + 1) r1' r2 M1' M2 key ve (.slice a5 pre.length c5) (.slice a6 prior.length c6) (.slice a7 zs.length c7) pre (pre ++ encKV key ks zs) prior zs ks o ∧ (∀ k, ((kget M2 key).getD (.slice none 0 0)).ownBlock = some k → w.heap.size ≤ k) := ⟨_, _, _, ws0, hfr2⟩
    clear ws0
    have HFR : Hid (∀ k, ((kget M2 key).getD (.slice none 0 0)).ownBlock = some k → w.heap.size ≤ k) := hfr2
    clear hfr2
    have hUl := Lib.uvarint_length64 (x := key.size) (by omega)
    have hUp := Lib.uvarint_pos key.size
    have hEl := encKL_len ks zs (by omega)
    have hEp := encKL_pos ks zs
    have hZU := fun wx : World => zzUvarint_any key.size (by omega) wx
    have hDA := fun (db : Nat) (v : Value) (wx : World) => dec_any db (ke + 1) r2 0 M2 ks key v .nilIface [] zs grow wx
    obtain ⟨U, hU⟩ : ∃ U, U = Lib.uvarint key.size := ⟨_, rfl⟩
    obtain ⟨E, hE⟩ : ∃ E, E = encKL ks zs := ⟨_, rfl⟩
    obtain ⟨K, hK⟩ : ∃ K, K = key.data.toList := ⟨_, rfl⟩
    have hKl : K.length = key.size := by rw [hK]; exact Array.length_toList
    have hKs : key = ⟨K.toArray⟩ := by rw [hK]
    have eT : encKV key ks zs = (U ++ K) ++ E := by rw [hU, hE, hK]; rfl
    rw [eT] at ws
    simp only [← hU, ← hE, List.append_nil] at hUl hUp hEl hEp hZU hDA
    clear eT hU hE hK
    obtain ⟨g, c, ev⟩ := own_shape ws.enc.own (by simp; omega)
    subst ev
    have hLl : (pre ++ (U ++ K ++ E)).length = pre.length + (U.length + key.size + E.length) := by simp only [List.length_append]; omega
    have hLt : (U ++ K ++ E).length = U.length + key.size + E.length := by simp only [List.length_append]; omega
    have c12 := ws.enc.cell
    have hcap := own_cap ws.enc.own
    have s0 := sees_own ws.enc.own
    have hSp := s0.takeAt rfl 0 pre.length (by omega) c rfl
    have hSh := s0.takeAt rfl pre.length U.length (by omega) (c - pre.length) rfl
    have hSk := s0.takeAt rfl (pre.length + U.length) key.size (by omega) (c - pre.length - U.length) (by omega)
    have hSe := s0.takeAt rfl (pre.length + (U.length + key.size)) E.length (by omega) (c - pre.length - (U.length + key.size)) (by omega)
    have e1 : ((pre ++ (U ++ K ++ E)).drop 0).take pre.length = pre := by simp
    have e2 : ((pre ++ (U ++ K ++ E)).drop pre.length).take U.length = U := by simp
    have e3 : ((pre ++ (U ++ K ++ E)).drop (pre.length + U.length)).take key.size = K := by
      rw [← List.drop_drop, List.drop_left, List.append_assoc, List.drop_left, ← hKl]; simp
    have e4 : ((pre ++ (U ++ K ++ E)).drop (pre.length + (U.length + key.size))).take E.length = E := by
      rw [← List.drop_drop, List.drop_left, ← hKl, ← List.length_append, List.drop_left]; simp
    rw [e1] at hSp
    rw [e2] at hSh
    rw [e3] at hSk
    rw [e4] at hSe
    rw [hLl] at c12 hcap
    have hEq := bytesEq_same _ _ pre w13 hSp ws.sp (by omega)
    have HSh : Hid (Sees w13 (.slice (some ⟨g, pre.length, none⟩) U.length (c - pre.length)) U) := hSh
    have HSk : Hid (Sees w13 (.slice (some ⟨g, pre.length + U.length, none⟩) key.size (c - pre.length - U.length)) K) := hSk
    have HSe : Hid (Sees w13 (.slice (some ⟨g, pre.length + (U.length + key.size), none⟩) E.length (c - pre.length - (U.length + key.size))) E) := hSe
    have HKS : Hid (key = ⟨K.toArray⟩) := hKs
    have HWS : Hid (WStage w13 eb ke (ke + 1) r1' r2 M1' M2 key _ (.slice a5 pre.length c5) (.slice a6 prior.length c6) (.slice a7 zs.length c7) pre _ prior zs ks o) := ws
    have HDA : Hid (∀ (db : Nat) (v : Value) (wx : World), _) := hDA
    have HZU : Hid (∀ wx : World, _) := hZU
    clear hSp hSh hSk hSe e1 e2 e3 e4 s0 hLl hLt ws hKs hKl hDA hZU
    go_wp2_with fail
    refine hEq.mono ?_
    rintro e w14 ⟨rfl, n14, hw14⟩
    clear hEq
    have hk14 : Kept (fun _ => False) w13 w14 := by rw [hw14]; exact (Kept.refl _ _).drewN _
    have c14 := hk14.cell c12 (fun f => f)
    clear hw14 c12
    have hZ14 := HZU.out w14
    go_wp2_with fail
    refine hZ14.mono ?_
    rintro e w15 ⟨v15, rfl, o15, k15, b15⟩
    clear hZ14 HZU c14
    obtain ⟨g15, c15, e15⟩ := own_shape o15 (by omega)
    subst e15
    have hcap15 := own_cap o15
    have k1315 : Kept (fun _ => False) w13 w15 := hk14.trans k15 (fun _ _ f => f)
    have hEq := bytesEq_same _ _ U w15 (HSh.out.kept k1315 (fun _ _ f => f)) (sees_own o15) (by omega)
    clear k15 hk14 o15 b15 HSh
    go_wp2_with fail
    refine hEq.mono ?_
    rintro e w16 ⟨rfl, n16, hw16⟩
    clear hEq
    have k1316 : Kept (fun _ => False) w13 w16 := by rw [hw16]; exact k1315.drewN _
    clear hw16 k1315
    have hcv := conv_bytes (HSk.out.kept k1316 (fun _ _ f => f)) key HKS.out
    have hSe16 := HSe.out.kept k1316 (fun _ _ f => f)
    have hN := newDec _ E w16 hSe16
    have HSE := HSe
    clear HSk HSe HKS hSe16
    go_wp2_with fail
    refine hN.mono ?_
    rintro e w17 ⟨rfl, hw17⟩
    clear hN hcv
    have k17 : Kept (fun _ => False) w13 w17 := by rw [hw17]; exact k1316.alloc _
    clear hw17 k1316
    obtain ⟨X, eX⟩ : ∃ X, X = Value.slice (some ⟨g, pre.length + (U.length + key.size), none⟩) E.length (c - pre.length - (U.length + key.size)) := ⟨_, rfl⟩
    have hXb : X.ownBlock = some g := by rw [eX]; rfl
    have k18 : Kept (fun _ => False) w13 (w17.alloc (.cells #[X, .int .i64 0, .nilIface] 34)) := k17.alloc _
    have hD18 : Dec (w17.alloc (.cells #[X, .int .i64 0, .nilIface] 34)) w17.heap.size X .nilIface := heap_alloc_new _ _
    have ws18 := HWS.out.kept k18
    have hg13 := HWS.out.enc.lt.2 g rfl
    have s17 := k17.size
    have hlt2 := HWS.out.u2.lt
    have hsep2 := HWS.out.enc.sep HWS.out.u2.solid
    have hkl := HWS.out.k1.lt
    have hoffI := HWS.out.k1.offI HWS.out.u2.solid
    have hltr := HWS.out.owr.lt
    have hltl := HWS.out.owl.lt
    have hltv := HWS.out.kv.lt
    have hSX : Sees w13 X E := by rw [eX]; exact HSE.out
    have hS18 : Sees (w17.alloc (.cells #[X, .int .i64 0, .nilIface] 34)) X E := hSX.kept k18 (fun _ _ f => f)
    clear hSX
    have hDK := HDA.out w17.heap.size X _ hD18 ws18.k2 ws18.u2 ws18.ki ws18.kl hS18 (by rw [hXb]; intro e; cases e; omega)
      (fun j hj => ⟨fun e => by have := hlt2 j hj; omega, fun e => (hsep2 j hj).2 (by rw [hXb] at e; cases e; rfl)⟩) HIL.out (by omega) (by omega)
    have HB18 : Hid (Below w.heap.size w (w17.alloc (.cells #[X, .int .i64 0, .nilIface] 34))) := below_kept HB13.out k18 (Nat.le_refl _) (fun _ f => f.elim)
    have fin : ∀ w19 : World, Kept (fun k => k = w17.heap.size ∨ (grow = true ∧ ((kget M2 key).getD (.slice none 0 0)).ownBlock = some k)) (w17.alloc (.cells #[X, .int .i64 0, .nilIface] 34)) w19 →
        KLs w19 ke r1' 0 M1' ∧ Own w19 (.slice a6 prior.length c6) prior ∧ Own w19 (.slice a7 zs.length c7) zs ∧ Own w19 ((kget M1' key).getD (.slice none 0 0)) (o.getD []) ∧ Below w.heap.size w w19 := by
      intro w19 hk
      refine ⟨ws18.k1.kept hk ?_ ?_, ws18.owr.kept hk ?_, ws18.owl.kept hk ?_, ws18.kv.kept hk ?_, ?_⟩
      · rintro (e | ⟨_, e⟩)
        · have := hkl.1; omega
        · exact (hoffI _ e).1 rfl
      · rintro j hj (e | ⟨_, e⟩)
        · have := hkl.2 j hj; omega
        · exact (hoffI _ e).2 hj
      · rintro j hj (e | ⟨_, e⟩)
        · have := hltr j hj; omega
        · exact (ws18.sep j e).2.1 hj
      · rintro j hj (e | ⟨_, e⟩)
        · have := hltl j hj; omega
        · exact (ws18.sep j e).2.2 hj
      · rintro j hj (e | ⟨_, e⟩)
        · have := hltv j hj; omega
        · exact (ws18.sep j e).1 hj
      · refine below_kept HB18.out hk (Nat.le_refl _) ?_
        rintro j (e | ⟨_, e⟩)
        · have := HB13.out.size; omega
        · exact HFR.out j e
    have kg := HWS.out.kg
    have HFIN : Hid (∀ w19 : World, Kept (fun k => k = w17.heap.size ∨ (grow = true ∧ ((kget M2 key).getD (.slice none 0 0)).ownBlock = some k)) (w17.alloc (.cells #[X, .int .i64 0, .nilIface] 34)) w19 →
        KLs w19 ke r1' 0 M1' ∧ Own w19 (.slice a6 prior.length c6) prior ∧ Own w19 (.slice a7 zs.length c7) zs ∧ Own w19 ((kget M1' key).getD (.slice none 0 0)) (o.getD []) ∧ Below w.heap.size w w19) := fin
    clear fin k18 hD18 ws18 hg13 s17 hlt2 hsep2 hkl hoffI hltr hltl hltv hS18 HB18 HWS HDA HFR k17 HSE hXb HB13 hUl hUp hEl hEp hcap hcap15
    subst eX
    go_wp2_with fail
    refine hDK.mono ?_
    rintro e w19 ⟨gv, rfl, ⟨gs, gn, gne⟩, -, v19, hD19, hS19, -, hk19⟩
    clear hDK
    obtain ⟨k19, or19, ol19, ov19, b19⟩ := HFIN.out w19 hk19
    clear HFIN hk19
    obtain ⟨v19a, v19c, e19⟩ : ∃ a c, v19 = .slice a 0 c := by obtain ⟨a, c, e, _⟩ := hS19.form; exact ⟨a, c, e⟩
    subst e19
    obtain ⟨ga, gc, eg⟩ : ∃ a c, gv = .slice a zs.length c := by obtain ⟨a, c, e, _⟩ := gs.form; exact ⟨a, c, e⟩
    have hErr := zzErr _ _ _ w19 hD19
    have hRest := zzRest _ _ _ w19 hD19
    clear hS19 hD19
    subst eg
    have hnilI := fun (r : Option Addr) (n c n' c' : Nat) (wx : World) => Lib.run_eql_slice_nil (P := Tryd.prog) wx _ _ r n c n' c' Tryd.underlying42
    have hIE := intsEq _ _ zs zs w19 gs ol19.sees (by unfold maxLen; omega) (by unfold maxLen; omega)
    rw [beq_self_eq_true] at hIE
    have HF : Hid (KLs w19 ke r1' 0 M1' ∧ Own w19 (.slice a6 prior.length c6) prior ∧ Own w19 (.slice a7 zs.length c7) zs ∧ Own w19 ((kget M1' key).getD (.slice none 0 0)) (o.getD []) ∧ Below w.heap.size w w19 ∧ (kget M1' key).isSome = o.isSome) := ⟨k19, or19, ol19, ov19, b19, kg⟩
    clear k19 or19 ol19 ov19 b19 kg gs
    by_cases hz0 : zs = []
    case' pos =>
      have hzl : zs.length = 0 := by rw [hz0]; rfl
      have e0 := gn hz0
      injection e0 with e1 e2 e3
      subst e1
      subst e3
      have hzb : ((zs.length : Int) == 0) = true := by rw [hzl]; rfl
      clear gn gne hz0 e2 hzl
    case' neg =>
      obtain ⟨x, ex⟩ : ∃ x, ga = some x := by
        have := gne hz0
        cases ga with
        | none => simp [Value.ownBlock] at this
        | some x => exact ⟨x, rfl⟩
      subst ex
      have hzp : 0 < zs.length := List.length_pos_iff.2 hz0
      have hzb : ((zs.length : Int) == 0) = false := by rw [beq_eq_false_iff_ne]; omega
      clear gn gne hz0
    all_goals
      go_wp2_with fail
      refine hErr.mono ?_
      rintro e w20 ⟨rfl, hw⟩
      replace hw := hw.symm
      subst hw
      go_wp2_with fail
      refine hRest.mono ?_
      rintro e w20 ⟨rfl, hw⟩
      replace hw := hw.symm
      subst hw
      clear hErr hRest
      go_wp2_with fail
      refine hIE.mono ?_
      rintro e w21 ⟨rfl, n21, hw21⟩
      clear hIE
      have k21 : Kept (fun _ => False) w19 w21 := by rw [hw21]; exact (Kept.refl _ _).drewN _
      clear hw21
      obtain ⟨f1, f2, f3, f4, f5, f6⟩ := HF.out
      have hKp := zzKept ke r1' 0 M1' key w21 (f1.kept k21 (fun f => f) (fun _ _ f => f))
      rw [f6] at hKp
      have b21 : Hid (Below w.heap.size w w21) := below_kept f5 k21 (Nat.le_refl _) (fun _ f => f.elim)
      have v21 := f4.kept k21 (fun _ _ f => f)
      have r21 := f2.kept k21 (fun _ _ f => f)
      have l21 := f3.kept k21 (fun _ _ f => f)
      generalize (kget M1' key).getD (.slice none 0 0) = kvv at *
      clear f1 f2 f3 f4 f5 f6 HF k21
      obtain ⟨ka, kc, ek⟩ := v21.shape
      subst ek
      have ho := HO.out
      cases keep with
      | true =>
        have eo : o = some zs := ho.symm
        subst eo
        have hI2 := intsEq _ _ zs zs w21 v21.sees l21.sees (by unfold maxLen; omega) (by unfold maxLen; omega)
        rw [beq_self_eq_true] at hI2
        clear ho HO v21 r21 l21
        go_wp2_with fail
        refine hKp.mono ?_
        rintro e w22 ⟨rfl, hw⟩
        replace hw := hw.symm
        subst hw
        clear hKp
        go_wp2_with fail
        refine hI2.mono ?_
        rintro e w23 ⟨rfl, n23, hw23⟩
        have b23 : Hid (Below w.heap.size w w23) := by rw [hw23]; exact below_drewN b21.out _
        clear hI2 hw23
        go_wp2
        go_ret
        exact ⟨rfl, b23.out⟩
      | false =>
        first
          | (have eo : o = some prior := ho.symm
             subst eo
             have hI2 := intsEq _ _ prior prior w21 v21.sees r21.sees (by unfold maxLen; omega) (by unfold maxLen; omega)
             rw [beq_self_eq_true] at hI2
             clear ho HO v21 r21 l21
             go_wp2_with fail
             refine hKp.mono ?_
             rintro e w22 ⟨rfl, hw⟩
             replace hw := hw.symm
             subst hw
             clear hKp
             go_wp2_with fail
             refine hI2.mono ?_
             rintro e w23 ⟨rfl, n23, hw23⟩
             have b23 : Hid (Below w.heap.size w w23) := by rw [hw23]; exact below_drewN b21.out _
             clear hI2 hw23
             go_wp2
             go_ret
             exact ⟨rfl, b23.out⟩)
          | (have eo : o = none := ho.symm
             subst eo
             clear ho HO v21 r21 l21
             go_wp2_with fail
             refine hKp.mono ?_
             rintro e w22 ⟨rfl, hw⟩
             replace hw := hw.symm
             subst hw
             clear hKp
             go_wp2
             go_ret
             exact ⟨rfl, b21.out⟩)

end Go.Proofs.Qxb6612988aDoor

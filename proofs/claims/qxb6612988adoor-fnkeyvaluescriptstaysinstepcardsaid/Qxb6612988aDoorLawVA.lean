/-
  FnKeyValueReadsBackAndKeeps: what stands on the way.
-/
import Derived.Test.Qxb6612988aDoorLawRead
import Derived.Test.Qxb6612988aDoorKV
import Derived.Test.Qxb6612988aDoorSizeV
import Derived.Laws.IdiomStrings
namespace Go.Proofs.Qxb6612988aDoor
open Go.RowKit

/-- The slice v owns its row, which holds zs. -/
def Own (w : World) (v : Value) (zs : List Int) : Prop := w.ownsRow 0 2 1 v zs.length (zs.map (Value.int .i64))

section
variable {w w' : World} {v : Value} {zs : List Int} {S : Nat → Prop}
theorem Own.sees (h : Own w v zs) : SeesI w v zs := seesI_own h
theorem Own.solid (h : Own w v zs) : Solid w v := by
  intro j hj
  rcases h.2 with ⟨rfl, _⟩ | ⟨g, cap, cur, rfl, _, hg, _⟩
  · simp [Value.ownBlock] at hj
  · cases hj; exact ⟨_, hg⟩
theorem Own.kept (h : Own w v zs) (k : Kept S w w') (hv : ∀ j, v.ownBlock = some j → ¬ S j) : Own w' v zs := k.owns h hv
theorem Own.lt (h : Own w v zs) : ∀ j, v.ownBlock = some j → j < w.heap.size := fun j hj => by obtain ⟨cs, hb⟩ := h.solid j hj; exact lt_of_block hb
theorem Own.nil (w : World) : Own w (.slice none 0 0) [] := World.ownsRow_nil _ _ _ _
theorem Own.shape (h : Own w v zs) : ∃ a c, v = .slice a zs.length c := by obtain ⟨a, c, e, _⟩ := h.sees.form; exact ⟨a, c, e⟩
/-- What a call turns that turns no row of int64. -/
theorem Own.off (h : Own w v zs) (k : Kept S w w') (hS : ∀ j cs, S j → w.heap[j]? ≠ some (.cells cs 2 (0, 0))) : Own w' v zs :=
  h.kept k (fun j hj hs => by obtain ⟨cs, hb⟩ := h.solid j hj; exact hS j cs hs hb)
end

theorem ClonedI.owns {w w' : World} {v v' : Value} {zs : List Int} (h : ClonedI w w' v v' zs) (hl : zs.length ≤ 1048576) : Own w' v' zs ∧ Kept (fun _ => False) w w' ∧ (∀ j, v'.ownBlock = some j → w.heap.size ≤ j ∧ j < w'.heap.size) ∧ ∃ a c, v' = .slice a zs.length c := by
  rcases h with ⟨_, rfl, rfl, rfl⟩ | ⟨_, rfl, hb, hk⟩
  · exact ⟨World.ownsRow_nil _ _ _ _, Kept.refl _ _, fun j hj => by simp [Value.ownBlock] at hj, _, _, rfl⟩
  · refine ⟨⟨by rw [List.length_map, Nat.mul_one], .inr ⟨w.heap.size, zs.length, _, rfl, Nat.zero_le _, hb, Nat.le_refl _, by unfold maxLen; omega, ?_, ?_⟩⟩, hk, fun j hj => ?_, _, _, rfl⟩
    · simp
    · rw [Nat.mul_one]
      exact List.take_of_length_le (by simp)
    · cases hj; exact ⟨Nat.le_refl _, lt_of_block hb⟩

theorem kget_keepM {α : Type} (most : Int) (M : List (ByteArray × α)) (key : ByteArray) (v : α) : kget (keepM most M key v) key = some v := by
  unfold keepM; rw [kget_put, if_pos ((MapKept.bytes_beq _ _).2 rfl)]

/-- What is turned by the writer is no row of int64. -/
theorem Enc.notI {w : World} {eb kb : Nat} {v : Value} {l : List UInt8} {r : Option Nat} {most : Int} {M : List (ByteArray × Value)} (h : Enc w eb v l) (hk : KLs w kb r most M) : ∀ j cs, (j = eb ∨ v.ownBlock = some j ∨ j = kb ∨ r = some j) → w.heap[j]? ≠ some (.cells cs 2 (0, 0)) := by
  intro j cs hj hb
  rcases hj with rfl | hj | rfl | hj
  · obtain ⟨t, hb'⟩ := h.box; rw [hb'] at hb; simp at hb
  · obtain ⟨cs', hb'⟩ := h.row j hj; rw [hb'] at hb; simp at hb
  · have := hk.1; rw [hb] at this; simp at this
  · rcases hk.2 with ⟨e', _⟩ | ⟨mb', e', es, cl, hm, _⟩
    · rw [e'] at hj; cases hj
    · rw [e'] at hj; cases hj; rw [hm] at hb; cases hb

theorem KLs.offI {w : World} {kb : Nat} {r : Option Nat} {most : Int} {M : List (ByteArray × Value)} {u : Value} (hk : KLs w kb r most M) (hu : Solid w u) : ∀ j, u.ownBlock = some j → j ≠ kb ∧ r ≠ some j := by
  intro j hj
  obtain ⟨cs, hb⟩ := hu j hj
  refine ⟨fun e => ?_, fun e => ?_⟩
  · subst e; have := hk.1; rw [hb] at this; simp at this
  · rcases hk.2 with ⟨e', _⟩ | ⟨mb', e', es, cl, hm, _⟩
    · rw [e'] at e; cases e
    · rw [e'] at e; cases e; rw [hm] at hb; cases hb
theorem KLs.lt {w : World} {kb : Nat} {r : Option Nat} {most : Int} {M : List (ByteArray × Value)} (hk : KLs w kb r most M) : kb < w.heap.size ∧ ∀ j, r = some j → j < w.heap.size := by
  refine ⟨lt_of_block hk.1, fun j e => ?_⟩
  rcases hk.2 with ⟨e', _⟩ | ⟨mb', e', es, cl, hm, _⟩
  · rw [e'] at e; cases e
  · rw [e'] at e; cases e; exact lt_of_block hm

/-- Two KeyLists: what turns the one (and the writer's buffer) leaves the other. -/
theorem KLs.other {w w' : World} {eb kb kd : Nat} {v : Value} {l : List UInt8} {r r2 : Option Nat} {most m2 : Int} {M M2 : List (ByteArray × Value)} (h2 : KLs w kd r2 m2 M2) (h : Enc w eb v l) (hk : KLs w kb r most M) (hne : kb ≠ kd) (hr : ∀ j, r = some j → r2 ≠ some j)
    (k : Kept (fun k => k = eb ∨ v.ownBlock = some k ∨ k = kb ∨ r = some k) w w') : KLs w' kd r2 m2 M2 := by
  have hm : ∀ {q : Option Nat} {x : Int} {y : Nat} {N : List (ByteArray × Value)}, KLs w y q x N → ∀ mb, q = some mb → ∃ es cl, w.heap[mb]? = some (.map es cl) := by
    intro q x y N hq mb e
    rcases hq.2 with ⟨e', _⟩ | ⟨mb', e', es, cl, hm, _⟩
    · rw [e'] at e; cases e
    · rw [e'] at e; cases e; exact ⟨es, cl, hm⟩
  refine h2.kept k ?_ ?_
  · rintro (e | e | e | e)
    · exact h.offKL h2 kd (.inl e) (.inl rfl)
    · exact h.offKL h2 kd (.inr e) (.inl rfl)
    · exact hne e.symm
    · obtain ⟨es, cl, h1⟩ := hm hk kd e; have := h2.1; rw [h1] at this; cases this
  · rintro j hj (e | e | e | e)
    · exact h.offKL h2 j (.inl e) (.inr hj)
    · exact h.offKL h2 j (.inr e) (.inr hj)
    · subst e; obtain ⟨es, cl, h1⟩ := hm h2 j hj; have := hk.1; rw [h1] at this; cases this
    · exact hr j e hj

/-- 'string(b)'. -/
theorem conv_bytes {w : World} {g o c n : Nat} {l : List UInt8} (h : Sees w (.slice (some ⟨g, o, none⟩) n c) l) (s : ByteArray) (hs : s = ⟨l.toArray⟩) : (convert 26 9 (.slice (some ⟨g, o, none⟩) n c)).run Tryd.prog w = .ok (.string s) w := by
  have hadd : ∀ j, (⟨g, o, none⟩ : Addr).add j = ⟨g, o + j, none⟩ := fun j => by unfold Addr.add; split <;> simp_all
  subst hs
  rcases h with ⟨rfl, ao, c', e⟩ | ⟨g', o', c', e, _, hcell⟩
  · cases e
    exact run_convert_bytes_back (P := Tryd.prog) w 26 9 5 ⟨g, o, none⟩ c [] Tryd.underlying26 Tryd.underlying5 Tryd.underlying9 (fun j hj => by simp at hj)
  · cases e
    exact run_convert_bytes_back (P := Tryd.prog) w 26 9 5 ⟨g, o, none⟩ c l Tryd.underlying26 Tryd.underlying5 Tryd.underlying9 (fun j hj => by rw [hadd]; exact hcell j hj)

/-- What stands ahead of the writing. -/
structure VStage (W : World) (ke kd : Nat) (r1 r2 : Option Nat) (M1 M2 : List (ByteArray × Value)) (key : ByteArray) (vp vl wp wr wl : Value) (pre : List UInt8) (prior zs ks : List Int) : Prop where
  own : W.ownsRow 0 5 1 vp pre.length (Lib.byteCells pre)
  ol : Own W vl zs
  sp : Sees W wp pre
  wpu : ∀ j, wp.ownBlock = some j → vp.ownBlock ≠ some j ∧ ∃ cs, W.heap[j]? = some (.cells cs 5 (0, 0))
  owr : Own W wr prior
  owl : Own W wl zs
  k1 : KLs W ke r1 0 M1
  k2 : KLs W kd r2 0 M2
  u1 : Own W ((kget M1 key).getD (.slice none 0 0)) ks
  u2 : Own W ((kget M2 key).getD (.slice none 0 0)) ks
  sep1 : ∀ j, vl.ownBlock = some j → ((kget M1 key).getD (.slice none 0 0)).ownBlock ≠ some j
  sep2 : ∀ j, ((kget M2 key).getD (.slice none 0 0)).ownBlock = some j → vl.ownBlock ≠ some j ∧ ((kget M1 key).getD (.slice none 0 0)).ownBlock ≠ some j ∧ wr.ownBlock ≠ some j ∧ wl.ownBlock ≠ some j
  ne : ke ≠ kd
  nr : ∀ j, r1 = some j → r2 ≠ some j
  kl : ks.length ≤ 1048576
  ki : ∀ z ∈ ks, I64 z

theorem VStage.kept {W W' : World} {ke kd : Nat} {r1 r2 : Option Nat} {M1 M2 : List (ByteArray × Value)} {key : ByteArray} {vp vl wp wr wl : Value} {pre : List UInt8} {prior zs ks : List Int} (h : VStage W ke kd r1 r2 M1 M2 key vp vl wp wr wl pre prior zs ks) (k : Kept (fun _ => False) W W') : VStage W' ke kd r1 r2 M1 M2 key vp vl wp wr wl pre prior zs ks where
  own := k.owns h.own (fun _ _ f => f)
  ol := h.ol.kept k (fun _ _ f => f)
  sp := h.sp.kept k (fun _ _ f => f)
  wpu := fun j hj => by obtain ⟨h1, cs, h2⟩ := h.wpu j hj; exact ⟨h1, cs, k.here h2 (fun f => f)⟩
  owr := h.owr.kept k (fun _ _ f => f)
  owl := h.owl.kept k (fun _ _ f => f)
  k1 := h.k1.kept k (fun f => f) (fun _ _ f => f)
  k2 := h.k2.kept k (fun f => f) (fun _ _ f => f)
  u1 := h.u1.kept k (fun _ _ f => f)
  u2 := h.u2.kept k (fun _ _ f => f)
  sep1 := h.sep1
  sep2 := h.sep2
  ne := h.ne
  nr := h.nr
  kl := h.kl
  ki := h.ki

/-- What stands once the record has been written. -/
structure WStage (W : World) (eb ke kd : Nat) (r1 r2 : Option Nat) (M1 M2 : List (ByteArray × Value)) (key : ByteArray) (ve wp wr wl : Value) (pre L : List UInt8) (prior zs ks : List Int) (o : Option (List Int)) : Prop where
  enc : Enc W eb ve L
  sp : Sees W wp pre
  owr : Own W wr prior
  owl : Own W wl zs
  k1 : KLs W ke r1 0 M1
  k2 : KLs W kd r2 0 M2
  u2 : Own W ((kget M2 key).getD (.slice none 0 0)) ks
  kg : (kget M1 key).isSome = o.isSome
  kv : Own W ((kget M1 key).getD (.slice none 0 0)) (o.getD [])
  sep : ∀ j, ((kget M2 key).getD (.slice none 0 0)).ownBlock = some j → ((kget M1 key).getD (.slice none 0 0)).ownBlock ≠ some j ∧ wr.ownBlock ≠ some j ∧ wl.ownBlock ≠ some j
  kl : ks.length ≤ 1048576
  ki : ∀ z ∈ ks, I64 z

theorem WStage.kept {W W' : World} {eb ke kd : Nat} {r1 r2 : Option Nat} {M1 M2 : List (ByteArray × Value)} {key : ByteArray} {ve wp wr wl : Value} {pre L : List UInt8} {prior zs ks : List Int} {o : Option (List Int)} (h : WStage W eb ke kd r1 r2 M1 M2 key ve wp wr wl pre L prior zs ks o) (k : Kept (fun _ => False) W W') : WStage W' eb ke kd r1 r2 M1 M2 key ve wp wr wl pre L prior zs ks o where
  enc := h.enc.kept k (fun f => f) (fun _ _ f => f)
  sp := h.sp.kept k (fun _ _ f => f)
  owr := h.owr.kept k (fun _ _ f => f)
  owl := h.owl.kept k (fun _ _ f => f)
  k1 := h.k1.kept k (fun f => f) (fun _ _ f => f)
  k2 := h.k2.kept k (fun f => f) (fun _ _ f => f)
  u2 := h.u2.kept k (fun _ _ f => f)
  kg := h.kg
  kv := h.kv.kept k (fun _ _ f => f)
  sep := h.sep
  kl := h.kl
  ki := h.ki

/-- The writing, by its stages. -/
theorem VStage.wrote {W W' : World} {eb ke kd : Nat} {r1 r2 : Option Nat} {M1 M2 : List (ByteArray × Value)} {key : ByteArray} {vp vl wp wr wl : Value} {pre L : List UInt8} {prior zs ks : List Int} {keep : Bool} {o : Option (List Int)}
    (h : VStage W ke kd r1 r2 M1 M2 key vp vl wp wr wl pre prior zs ks) (hE : Enc W eb vp pre) (ho : (kget M1 key).isSome = o.isSome ∧ o.getD [] = ks)
    (hW : WroteKV eb ke r1 0 (if keep then keepM 0 M1 key vl else M1) vp L W W') :
    ∃ ve r1', WStage W' eb ke kd r1' r2 (if keep then keepM 0 M1 key vl else M1) M2 key ve wp wr wl pre L prior zs ks (if keep then some zs else o) ∧ Moved W vp ve ∧ Kept (fun k => k = eb ∨ vp.ownBlock = some k ∨ k = ke ∨ r1 = some k) W W' := by
  obtain ⟨ve, r1', e1, e2, e3, e4, e5⟩ := hW
  have hn := hE.notI h.k1
  refine ⟨ve, r1', ⟨e1, h.sp.kept e5 ?_, h.owr.off e5 hn, h.owl.off e5 hn, e2, h.k2.other hE h.k1 h.ne h.nr e5, h.u2.off e5 hn, ?_, ?_, ?_, h.kl, h.ki⟩, e4, e5⟩
  · intro j hj hs
    obtain ⟨h1, cs, h2⟩ := h.wpu j hj
    rcases hs with rfl | hs | hs
    · obtain ⟨t, hb⟩ := hE.box; rw [hb] at h2; simp at h2
    · exact h1 hs
    · rcases hs with rfl | hs
      · have := h.k1.1; rw [h2] at this; simp at this
      · rcases h.k1.2 with ⟨e', _⟩ | ⟨mb', e', es, cl, hm, _⟩
        · rw [e'] at hs; cases hs
        · rw [e'] at hs; cases hs; rw [hm] at h2; cases h2
  · cases keep
    · exact ho.1
    · simp [kget_keepM]
  · cases keep
    · have := h.u1.off e5 hn; rw [← ho.2] at this; exact this
    · simp only [if_true, kget_keepM, Option.getD_some]; exact h.ol.off e5 hn
  · intro j hj
    obtain ⟨s1, s2, s3, s4⟩ := h.sep2 j hj
    refine ⟨?_, s3, s4⟩
    cases keep
    · exact s2
    · simp only [if_true, kget_keepM, Option.getD_some]; exact s1

/-- Decoder.KeyList, with grow or without. -/
theorem dec_any (db kb : Nat) (mr : Option Nat) (most : Int) (MM : List (ByteArray × Value)) (ks : List Int) (key : ByteArray) (v err : Value) (r : List UInt8) (zs : List Int) (grow : Bool) (w : World)
    (hd : Dec w db v err) (hk : KLs w kb mr most MM) (hu : Own w ((kget MM key).getD (.slice none 0 0)) ks) (hki : ∀ z ∈ ks, I64 z) (hkl : ks.length ≤ 1048576) (hv : Sees w v (encKL ks zs ++ r)) (hne : v.ownBlock ≠ some db)
    (hF : ∀ j, ((kget MM key).getD (.slice none 0 0)).ownBlock = some j → j ≠ db ∧ v.ownBlock ≠ some j) (hz : ∀ z ∈ zs, I64 z) (hzl : zs.length ≤ 1048576) (hlim : (encKL ks zs ++ r).length ≤ 1073741824) :
    Calls Tryd.prog 26 #[.pointer (some ⟨db, 0, none⟩), .pointer (some ⟨kb, 0, none⟩), .string key, .bool grow] w fun e w' => ∃ lv, e = .returned lv ∧ (SeesI w' lv zs ∧ (zs = [] → lv = .slice none 0 0) ∧ (zs ≠ [] → lv.ownBlock ≠ none)) ∧ (grow = true → GotG w w' ((kget MM key).getD (.slice none 0 0)) lv zs) ∧ ∃ v', Dec w' db v' err ∧ Sees w' v' r ∧ v'.ownBlock = v.ownBlock ∧ Kept (fun k => k = db ∨ (grow = true ∧ ((kget MM key).getD (.slice none 0 0)).ownBlock = some k)) w w' := by
  cases grow
  · refine (dec_keyListK db kb mr most MM ks (fun j => j ≠ db) key v err r zs w hd hk ⟨hu.sees, hu.solid, fun j hj => (hF j hj).1, hki, hkl⟩ hv hne (fun _ h => h) hz hzl hlim).mono ?_
    rintro e w' ⟨lv, rfl, hG, v', h1, h2, h3, h4⟩
    exact ⟨lv, rfl, ⟨hG.1.sees, hG.2.1, hG.2.2⟩, (fun h => by cases h), v', h1, h2, h3, h4.mono (fun _ _ h => .inl h)⟩
  · refine (dec_keyListG db kb mr most MM ks key v err r zs w hd hk hu hkl hv hne hF hz hzl hlim).mono ?_
    rintro e w' ⟨lv, rfl, hG, v', h1, h2, h3, h4⟩
    exact ⟨lv, rfl, ⟨seesI_own hG.2.2.1, hG.1, hG.2.1⟩, (fun _ => hG), v', h1, h2, h3, h4.mono (fun _ _ h => by rcases h with h | h; exact .inl h; exact .inr ⟨rfl, h⟩)⟩

theorem encKL_pos (ks zs : List Int) : 2 ≤ (encKL ks zs).length := by
  unfold encKL
  have := Lib.uvarint_pos (cpre zs ks)
  have := Lib.uvarint_pos (zs.drop (cpre zs ks)).length
  simp only [List.length_append]
  omega
theorem encKL_len (ks zs : List Int) (h : zs.length ≤ 1048576) : (encKL ks zs).length ≤ 20 + 10 * zs.length := by
  unfold encKL
  have h1 := cpre_le1 zs ks
  have := Lib.uvarint_length64 (x := cpre zs ks) (by omega)
  have := Lib.uvarint_length64 (x := (zs.drop (cpre zs ks)).length) (by rw [List.length_drop]; omega)
  have := encD_length (lastOr 0 (zs.take (cpre zs ks))) (zs.drop (cpre zs ks))
  rw [List.length_drop] at *
  simp only [List.length_append]
  omega

end Go.Proofs.Qxb6612988aDoor

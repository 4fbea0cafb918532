/-
  FnKeyValueScriptStaysInStep: one record read.
-/
import Derived.Test.Qxb6612988aDoorScriptB
namespace Go.Proofs.Qxb6612988aDoor
open Go.RowKit

/-- A row of bytes, old. -/
def OldU (N1 : Nat) (wr : World) (v : Value) : Prop := ∀ j, v.ownBlock = some j → j < N1 ∧ ∃ cs, wr.heap[j]? = some (.cells cs 5 (0, 0))

structure S2 (w : World) (B N1 : Nat) (rs : List RecV) (most : Int) (ke kd b2 db : Nat) (r1 : Option Nat) (M1 : List (ByteArray × Value)) (F1 : Nat → Prop) (L2 : Nat → Value) (wr : World) (k : Nat) (v : Value) (r2 : Option Nat) (M2 : List (ByteArray × Value)) : Prop where
  t : T2 w B N1 rs most ke kd b2 r1 M1 F1 L2 wr k r2 M2
  dec : Dec wr db v .nilIface
  see : Sees wr v (outS most (stA most [] (rs.take k)) (rs.drop k))
  vu : OldU N1 wr v
  hN : N1 ≤ db

/-- What is left of the record behind the key's length: the key, the list, and the records that follow. -/
def listS (most : Int) (rs : List RecV) (k : Nat) (h : k < rs.length) : List UInt8 := encKL ((kget (stA most [] (rs.take k)) (rs[k]).key).getD []) (rs[k]).l
def restS (most : Int) (rs : List RecV) (k : Nat) : List UInt8 := outS most (stA most [] (rs.take (k + 1))) (rs.drop (k + 1))

section
variable {w : World} {B N1 : Nat} {rs : List RecV} {most : Int} {ke kd b2 db : Nat} {r1 : Option Nat} {M1 : List (ByteArray × Value)} {F1 : Nat → Prop} {L2 : Nat → Value} {wr w' : World} {k : Nat} {v : Value} {r2 : Option Nat} {M2 : List (ByteArray × Value)}

theorem OldU.kept {S : Nat → Prop} (h : OldU N1 wr v) (hk : Kept S wr w') (hS : ∀ j, v.ownBlock = some j → ¬ S j) : OldU N1 w' v := fun j hj => by
  obtain ⟨h1, cs, h2⟩ := h j hj
  exact ⟨h1, cs, hk.here h2 (hS j hj)⟩

theorem S2.quiet (h : S2 w B N1 rs most ke kd b2 db r1 M1 F1 L2 wr k v r2 M2) (hk : Kept (fun _ => False) wr w') : S2 w B N1 rs most ke kd b2 db r1 M1 F1 L2 w' k v r2 M2 :=
  ⟨h.t.quiet hk, h.dec.kept hk (fun f => f), h.see.kept hk (fun _ _ f => f), h.vu.kept hk (fun _ _ f => f), h.hN⟩

theorem out_len (hk : k < rs.length) (hsz : ∀ p ∈ rs, p.key.size ≤ 1048576 ∧ p.l.length ≤ 1048576) (htot : rs.length + sumR rs ≤ 1048576) : (restS most rs k).length ≤ 67108864 ∧ (listS most rs k hk).length ≤ 20000000 ∧ 2 ≤ (listS most rs k hk).length := by
  have h1 := outS_length most (rs.drop (k + 1)) (stA most [] (rs.take (k + 1))) (fun p hp => hsz p (List.mem_of_mem_drop hp))
  have h2 : sumR (rs.drop (k + 1)) ≤ sumR rs := by
    have e := sumR_append (rs.take (k + 1)) (rs.drop (k + 1))
    rw [List.take_append_drop] at e
    omega
  have h3 : (rs.drop (k + 1)).length ≤ rs.length := by rw [List.length_drop]; omega
  have h4 := encKL_len ((kget (stA most [] (rs.take k)) (rs[k]).key).getD []) (rs[k]).l (hsz _ (List.getElem_mem hk)).2
  have h5 := encKL_pos ((kget (stA most [] (rs.take k)) (rs[k]).key).getD []) (rs[k]).l
  have h6 := (hsz _ (List.getElem_mem hk)).2
  unfold restS listS
  omega

/-- The key's length is read. -/
theorem S2.len (h : S2 w B N1 rs most ke kd b2 db r1 M1 F1 L2 wr k v r2 M2) (hk : k < rs.length) (hsz : ∀ p ∈ rs, p.key.size ≤ 1048576 ∧ p.l.length ≤ 1048576) (htot : rs.length + sumR rs ≤ 1048576) :
    Calls Tryd.prog 16 #[.pointer (some ⟨db, 0, none⟩)] wr fun e w1 => e = .returned (.int .u64 (rs[k]).key.size) ∧ ∃ g o c, (rs[k]).key.size + ((listS most rs k hk).length + (restS most rs k).length) ≤ c ∧
      Dec w1 db (.slice (some ⟨g, o, none⟩) ((rs[k]).key.size + ((listS most rs k hk).length + (restS most rs k).length)) c) .nilIface ∧ Sees w1 (.slice (some ⟨g, o, none⟩) ((rs[k]).key.size + ((listS most rs k hk).length + (restS most rs k).length)) c) ((rs[k]).key.data.toList ++ (listS most rs k hk ++ restS most rs k)) ∧
      OldU N1 w1 (.slice (some ⟨g, o, none⟩) ((rs[k]).key.size + ((listS most rs k hk).length + (restS most rs k).length)) c) ∧ T2 w B N1 rs most ke kd b2 r1 M1 F1 L2 w1 k r2 M2 := by
  obtain ⟨hl1, hl2, hl3⟩ := out_len (most := most) hk hsz htot
  obtain ⟨hz1, hz2⟩ := hsz _ (List.getElem_mem hk)
  have hu := Lib.uvarint_length64 (x := (rs[k]).key.size) (by omega)
  have hs : (rs[k]).key.data.toList.length = (rs[k]).key.size := Array.length_toList
  have e : outS most (stA most [] (rs.take k)) (rs.drop k) = Lib.uvarint (rs[k]).key.size ++ ((rs[k]).key.data.toList ++ (listS most rs k hk ++ restS most rs k)) := by
    rw [outS_drop most rs k hk]; unfold encKV listS restS; simp only [List.append_assoc]
  have hsee := h.see
  rw [e] at hsee
  have hvd : ∀ j, v.ownBlock = some j → ¬ j = db := fun j hj e => by have := (h.vu j hj).1; have := h.hN; omega
  refine (decu_some db (rs[k]).key.size v .nilIface _ wr h.dec (by omega) hsee (by simp only [List.length_append, hs]; omega) (fun e => hvd db e rfl)).mono ?_
  rintro e w1 ⟨rfl, v1, d1, s1, o1, k1⟩
  refine ⟨rfl, ?_⟩
  have t1 := h.t.box h.dec h.hN k1
  have u1 : OldU N1 w1 v1 := by
    have := h.vu.kept k1 hvd
    unfold OldU at this ⊢
    rw [o1]; exact this
  have hll : ((rs[k]).key.data.toList ++ (listS most rs k hk ++ restS most rs k)).length = (rs[k]).key.size + ((listS most rs k hk).length + (restS most rs k).length) := by simp only [List.length_append, hs]
  have s1' := s1
  rcases s1 with ⟨e0, _⟩ | ⟨g, o, c, ev, hc, _⟩
  · rw [e0, List.length_nil] at hll
    omega
  · rw [hll] at ev hc
    subst ev
    exact ⟨g, o, c, hc, d1, s1', u1, t1⟩

/-- The list is read, and what stands then. -/
theorem S2.list {w3 : World} {X : Value} (t3 : T2 w B N1 rs most ke kd b2 r1 M1 F1 L2 w3 k r2 M2) (d3 : Dec w3 db X .nilIface) (hk : k < rs.length) (s3 : Sees w3 X (listS most rs k hk ++ restS most rs k)) (u3 : OldU N1 w3 X) (hN : N1 ≤ db)
    (hsz : ∀ p ∈ rs, p.key.size ≤ 1048576 ∧ p.l.length ≤ 1048576) (hI : ∀ p ∈ rs, ∀ z ∈ p.l, I64 z) (htot : rs.length + sumR rs ≤ 1048576) :
    Calls Tryd.prog 26 #[.pointer (some ⟨db, 0, none⟩), .pointer (some ⟨kd, 0, none⟩), .string (rs[k]).key, .bool (rs[k]).keep] w3 fun e w4 => ∃ lv, e = .returned lv ∧ (SeesI w4 lv (rs[k]).l ∧ ((rs[k]).l = [] → lv = .slice none 0 0) ∧ ((rs[k]).l ≠ [] → lv.ownBlock ≠ none)) ∧
      ∃ v4, Dec w4 db v4 .nilIface ∧ Recs w4 b2 rs.length rs.length L2 rs ∧ KLs w4 kd r2 most M2 ∧ ((rs[k]).keep = false → ∀ w5, Kept (fun _ => False) w4 w5 → S2 w B N1 rs most ke kd b2 db r1 M1 F1 L2 w5 (k + 1) v4 r2 M2) ∧
      ((rs[k]).keep = true → ∀ w5 w6 mb, Kept (fun _ => False) w4 w5 → KLs w6 kd (some mb) most (keepM most M2 (rs[k]).key lv) → Kept (fun j => j = kd ∨ r2 = some j) w5 w6 → (r2 = some mb ∨ (r2 = none ∧ mb = w5.heap.size)) → S2 w B N1 rs most ke kd b2 db r1 M1 F1 L2 w6 (k + 1) v4 (some mb) (keepM most M2 (rs[k]).key lv)) := by
  obtain ⟨hl1, hl2, hl3⟩ := out_len (most := most) hk hsz htot
  obtain ⟨hz1, hz2⟩ := hsz _ (List.getElem_mem hk)
  obtain ⟨hu1, hu2⟩ := t3.look (rs[k]).key
  have hks : (∀ z ∈ (kget (stA most [] (rs.take k)) (rs[k]).key).getD [], I64 z) ∧ ((kget (stA most [] (rs.take k)) (rs[k]).key).getD []).length ≤ 1048576 := by
    cases hg : kget (stA most [] (rs.take k)) (rs[k]).key with
    | none => exact ⟨fun z hz => by simp at hz, by simp⟩
    | some ys => exact stA_mem most (fun ys => (∀ z ∈ ys, I64 z) ∧ ys.length ≤ 1048576) (rs.take k) [] (fun r hr => ⟨hI r (List.mem_of_mem_take hr), (hsz r (List.mem_of_mem_take hr)).2⟩) (fun k' zs' h' => by cases h') _ _ hg
  have hd3 : w3.heap[db]? = some (.cells #[X, .int .i64 0, .nilIface] 34 (0, 0)) := d3
  refine (dec_any db kd r2 most M2 _ (rs[k]).key X .nilIface (restS most rs k) (rs[k]).l (rs[k]).keep w3 d3 t3.k2 hu1 hks.1 hks.2 s3 (fun e => by have := (u3 db e).1; omega) (fun j hj => ⟨fun e => ?_, fun e => by have := (u3 j e).1; have := hu2 j hj; omega⟩) (hI _ (List.getElem_mem hk)) hz2 (by rw [List.length_append]; unfold listS at hl2; omega)).mono ?_
  · subst e
    obtain ⟨cs, hb⟩ := hu1.solid j hj
    rw [hd3] at hb; simp at hb
  · rintro e w4 ⟨lv, rfl, hq, hG, v4, d4, s4, o4, k4⟩
    have S34 : ∀ j, (j = db ∨ ((rs[k]).keep = true ∧ ((kget M2 (rs[k]).key).getD (.slice none 0 0)).ownBlock = some j)) → N1 ≤ j := by
      rintro j (e | ⟨_, e⟩)
      · omega
      · exact hu2 j e
    have u4 : OldU N1 w4 v4 := by
      have := u3.kept k4 (fun j hj s => by have := S34 j s; have := (u3 j hj).1; omega)
      unfold OldU at this ⊢
      rw [o4]; exact this
    refine ⟨lv, rfl, hq, v4, d4, (t3.wt (by omega)).kept k4 (fun s => by have := S34 _ s; have := (t3.wl (by omega)).1; omega) (fun j a hj _ ha s => by have := S34 _ s; have := (t3.wl (by omega)).2 j a hj ha; omega), t3.k2.kept k4 (fun s => by have := S34 _ s; have := t3.kl.2.1; omega) ?_, ?_, ?_⟩
    · rintro j hj (e | ⟨_, e⟩)
      · subst e
        rcases t3.k2.2 with ⟨e', _⟩ | ⟨mb', e', es, cl, hm, _⟩
        · rw [e'] at hj; cases hj
        · rw [e'] at hj; cases hj; rw [hd3] at hm; cases hm
      · exact (t3.k2.offI hu1.solid j e).2 hj
    · intro hkp w5 k45
      have k4' : Kept (fun j => j = db) w3 w4 := k4.mono (fun j _ s => by
        rcases s with s | ⟨s, _⟩
        · exact s
        · rw [hkp] at s; cases s)
      have t4 := ((t3.box d3 hN k4').pass hk hkp).quiet k45
      exact ⟨t4, d4.kept k45 (fun f => f), s4.kept k45 (fun _ _ f => f), u4.kept k45 (fun _ _ f => f), hN⟩
    · intro hkp w5 w6 mb k45 hK k56 hmb
      have k4' : Kept (fun j => j = db ∨ ((kget M2 (rs[k]).key).getD (.slice none 0 0)).ownBlock = some j) w3 w4 := k4.mono (fun j _ s => by
        rcases s with s | ⟨_, s⟩
        · exact .inl s
        · exact .inr s)
      have t6 := t3.keep hk hkp d3 hN k4' (hG hkp) k45 hK k56 hmb
      have k35 := k4.trans k45 (fun _ _ f => f.elim)
      have r2o : ∀ j, r2 = some j → ∃ es cl, w5.heap[j]? = some (.map es cl) := by
        intro j hj
        rcases t3.k2.2 with ⟨e', _⟩ | ⟨mb', e', es, cl, hm, _⟩
        · rw [e'] at hj; cases hj
        · rw [e'] at hj; cases hj
          refine ⟨es, cl, k35.here hm ?_⟩
          rintro (e | ⟨_, e⟩)
          · rw [e, hd3] at hm; cases hm
          · exact (t3.k2.offI hu1.solid j e).2 e'
      have d5 := d4.kept k45 (fun f => f)
      have hd5 : w5.heap[db]? = some (.cells #[v4, .int .i64 0, .nilIface] 34 (0, 0)) := d5
      have u5 := u4.kept k45 (fun _ _ f => f)
      have hkd5 : ∃ cs, w5.heap[kd]? = some (.cells cs 50 (0, 0)) := ⟨_, k35.here t3.k2.1 (fun s => by have := S34 _ s; have := t3.kl.2.1; omega)⟩
      have off : ∀ j, v4.ownBlock = some j → ¬ (j = kd ∨ r2 = some j) := by
        rintro j hj (e | e)
        · obtain ⟨_, cs, hb⟩ := u5 j hj; obtain ⟨cs', hb'⟩ := hkd5; rw [e, hb'] at hb; simp at hb
        · obtain ⟨_, cs, hb⟩ := u5 j hj; obtain ⟨es, cl, hb'⟩ := r2o j e; rw [hb'] at hb; cases hb
      refine ⟨t6, d5.kept k56 ?_, (s4.kept k45 (fun _ _ f => f)).kept k56 off, u5.kept k56 off, hN⟩
      rintro (e | e)
      · have := t3.kl.2.1; omega
      · obtain ⟨es, cl, hb'⟩ := r2o db e; rw [hd5] at hb'; cases hb'
end

end Go.Proofs.Qxb6612988aDoor

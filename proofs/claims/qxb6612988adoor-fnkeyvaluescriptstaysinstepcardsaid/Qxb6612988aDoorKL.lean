/-
  KeyLists AS AN ABSTRACT MAP: 'KL w kb most A F': the KeyLists in block kb keeps the lists A (key by key, in the map's own order); all its blocks lie in F. Keep, ZZKept and Encoder.KeyList over it.
-/
import Derived.Test.Qxb6612988aDoorEncKL
namespace Go.Proofs.Qxb6612988aDoor
open Go.RowKit

/-- The slice v holds zs, in a row of F without a frozen mark. -/
structure Holds (w : World) (F : Nat → Prop) (v : Value) (zs : List Int) : Prop where
  sees : SeesI w v zs
  solid : Solid w v
  foot : ∀ j, v.ownBlock = some j → F j
  ints : ∀ z ∈ zs, I64 z
  len : zs.length ≤ 1048576

theorem Holds.kept {S F : Nat → Prop} {w w' : World} {v : Value} {zs : List Int} (h : Holds w F v zs) (k : Kept S w w') (hS : ∀ j, F j → ¬ S j) : Holds w' F v zs :=
  ⟨h.sees.kept k (fun j hj => hS j (h.foot j hj)), h.solid.kept k (fun j hj => hS j (h.foot j hj)), h.foot, h.ints, h.len⟩
theorem Holds.mono {F G : Nat → Prop} {w : World} {v : Value} {zs : List Int} (h : Holds w F v zs) (hG : ∀ j, j < w.heap.size → F j → G j) : Holds w G v zs :=
  ⟨h.sees, h.solid, fun j hj => by obtain ⟨cs, hb⟩ := h.solid j hj; exact hG j (lt_of_block hb) (h.foot j hj), h.ints, h.len⟩
theorem Holds.nil (w : World) (F : Nat → Prop) : Holds w F (.slice none 0 0) [] :=
  ⟨.inl ⟨rfl, none, 0, rfl, fun _ => rfl⟩, fun j hj => by simp [Value.ownBlock] at hj, fun j hj => by simp [Value.ownBlock] at hj, fun z hz => by simp at hz, by simp⟩
theorem Holds.shape {F : Nat → Prop} {w : World} {v : Value} {zs : List Int} (h : Holds w F v zs) : ∃ ao n c, v = .slice ao n c := by
  obtain ⟨ao, c, e, _⟩ := h.sees.form
  exact ⟨ao, _, c, e⟩

def Agree (w : World) (F : Nat → Prop) : List (ByteArray × Value) → List (ByteArray × List Int) → Prop
  | [], [] => True
  | m :: M, a :: A => m.1 = a.1 ∧ Holds w F m.2 a.2 ∧ Agree w F M A
  | _, _ => False

section
variable {w w' : World} {F G S : Nat → Prop}
theorem Agree.turn : ∀ {M : List (ByteArray × Value)} {A : List (ByteArray × List Int)}, Agree w F M A → (∀ v zs, Holds w F v zs → Holds w' G v zs) → Agree w' G M A
  | [], [], _, _ => trivial
  | _ :: _, _ :: _, ⟨h1, h2, h3⟩, f => ⟨h1, f _ _ h2, Agree.turn h3 f⟩
theorem Agree.len : ∀ {M : List (ByteArray × Value)} {A : List (ByteArray × List Int)}, Agree w F M A → M.length = A.length
  | [], [], _ => rfl
  | _ :: _, _ :: _, ⟨_, _, h3⟩ => by simp [Agree.len h3]
theorem Agree.get : ∀ {M : List (ByteArray × Value)} {A : List (ByteArray × List Int)}, Agree w F M A → ∀ k, (kget M k = none ∧ kget A k = none) ∨ ∃ v zs, kget M k = some v ∧ kget A k = some zs ∧ Holds w F v zs
  | [], [], _, k => .inl ⟨rfl, rfl⟩
  | m :: M, a :: A, ⟨h1, h2, h3⟩, k => by
    rw [kget_cons, kget_cons, h1]
    by_cases hk : (k == a.1) = true
    · rw [if_pos hk, if_pos hk]; exact .inr ⟨_, _, rfl, rfl, h2⟩
    · rw [if_neg hk, if_neg hk]; exact Agree.get h3 k
theorem Agree.put : ∀ {M : List (ByteArray × Value)} {A : List (ByteArray × List Int)}, Agree w F M A → ∀ k v zs, Holds w F v zs → Agree w F (kput M k v) (kput A k zs)
  | [], [], _, k, v, zs, h => ⟨rfl, h, trivial⟩
  | m :: M, a :: A, ⟨h1, h2, h3⟩, k, v, zs, h => by
    simp only [kput, h1]
    by_cases hk : (k == a.1) = true
    · rw [if_pos hk, if_pos hk]; exact ⟨rfl, h, h3⟩
    · rw [if_neg hk, if_neg hk]; exact ⟨h1, h2, Agree.put h3 k v zs h⟩
theorem Agree.keep {M : List (ByteArray × Value)} {A : List (ByteArray × List Int)} (h : Agree w F M A) (most : Int) (k : ByteArray) (v : Value) (zs : List Int) (hv : Holds w F v zs) : Agree w F (keepM most M k v) (keepM most A k zs) := by
  have e : (kget M k).isNone = (kget A k).isNone := by
    rcases h.get k with ⟨h1, h2⟩ | ⟨_, _, h1, h2, _⟩ <;> rw [h1, h2] <;> rfl
  unfold keepM
  rw [e, h.len]
  split
  · exact Agree.put (M := []) (A := []) trivial k v zs hv
  · exact h.put k v zs hv
end

/-- The KeyLists in block kb keeps A; its blocks lie in F. -/
def KL (w : World) (kb : Nat) (most : Int) (A : List (ByteArray × List Int)) (F : Nat → Prop) : Prop :=
  ∃ r M, KLs w kb r most M ∧ Agree w F M A ∧ F kb ∧ ∀ j, r = some j → F j

section
variable {w w' : World} {kb : Nat} {most : Int} {A : List (ByteArray × List Int)} {F G S : Nat → Prop}
theorem KL.kept (h : KL w kb most A F) (k : Kept S w w') (hS : ∀ j, F j → ¬ S j) : KL w' kb most A F := by
  obtain ⟨r, M, h1, h2, h3, h4⟩ := h
  exact ⟨r, M, h1.kept k (hS kb h3) (fun j hj => hS j (h4 j hj)), h2.turn (fun v zs hv => hv.kept k hS), h3, h4⟩
theorem KL.mono (h : KL w kb most A F) (hG : ∀ j, j < w.heap.size → F j → G j) : KL w kb most A G := by
  obtain ⟨r, M, h1, h2, h3, h4⟩ := h
  refine ⟨r, M, h1, h2.turn (fun v zs hv => hv.mono hG), hG kb (lt_of_block h1.1) h3, fun j hj => hG j ?_ (h4 j hj)⟩
  rcases h1.2 with ⟨e, _⟩ | ⟨mb, e, es, cl, hb, _⟩
  · rw [e] at hj; cases hj
  · rw [e] at hj; cases hj; exact lt_of_block hb
theorem KL.drewN (h : KL w kb most A F) (n : Nat) : KL (w.drewN n) kb most A F := h.kept (S := fun _ => False) ((Kept.refl _ _).drewN n) (fun _ _ f => f)
theorem KL.alloc (h : KL w kb most A F) (o : Obj) : KL (w.alloc o) kb most A F := h.kept (S := fun _ => False) ((Kept.refl _ _).alloc o) (fun _ _ f => f)
end

theorem keep_KL (kb : Nat) (most : Int) (A : List (ByteArray × List Int)) (F : Nat → Prop) (key : ByteArray) (v : Value) (zs : List Int) (w : World) (h : KL w kb most A F) (hv : Holds w F v zs) :
    Calls Tryd.prog 22 #[.pointer (some ⟨kb, 0, none⟩), .string key, v] w fun e w' => e = .returned (.tuple #[]) ∧ KL w' kb most (keepM most A key zs) (fun j => F j ∨ j = w.heap.size) ∧ Kept F w w' := by
  obtain ⟨r, M, h1, h2, h3, h4⟩ := h
  refine (keep_any kb r most M key v w h1 hv.shape).mono ?_
  rintro e w' ⟨rfl, mb, k1, k2, k3⟩
  -- the lists lie in rows of int64: neither in the box nor in the map
  have off : ∀ u ys, Holds w F u ys → ∀ j, u.ownBlock = some j → ¬ (j = kb ∨ r = some j) := by
    intro u ys hu j hj
    obtain ⟨cs, hb⟩ := hu.solid j hj
    rintro (e | e)
    · subst e
      rw [h1.1] at hb
      simp at hb
    · rcases h1.2 with ⟨e', _⟩ | ⟨mb', e', es, cl, hb', _⟩
      · rw [e'] at e; cases e
      · rw [e'] at e; cases e; rw [hb'] at hb; cases hb
  have turn : ∀ u ys, Holds w F u ys → Holds w' (fun j => F j ∨ j = w.heap.size) u ys := fun u ys hu =>
    ⟨hu.sees.kept k2 (off u ys hu), hu.solid.kept k2 (off u ys hu), fun j hj => .inl (hu.foot j hj), hu.ints, hu.len⟩
  refine ⟨rfl, ⟨some mb, _, k1, (h2.turn turn).keep most key v zs (turn v zs hv), .inl h3, fun j hj => ?_⟩, k2.mono ?_⟩
  · cases hj
    rcases k3 with e | ⟨_, e⟩
    · exact .inl (h4 mb e)
    · exact .inr e
  · rintro k _ (e | e)
    · rw [e]; exact h3
    · exact h4 k e

theorem zzKept_KL (kb : Nat) (most : Int) (A : List (ByteArray × List Int)) (F : Nat → Prop) (key : ByteArray) (w : World) (h : KL w kb most A F) :
    Calls Tryd.prog 28 #[.pointer (some ⟨kb, 0, none⟩), .string key] w fun e w' => (∃ v, e = .returned (.tuple #[v, .bool (kget A key).isSome]) ∧ Holds w F v ((kget A key).getD [])) ∧ w' = w := by
  obtain ⟨r, M, h1, h2, h3, h4⟩ := h
  refine (zzKept kb r most M key w h1).mono ?_
  rintro e w' ⟨rfl, rfl⟩
  rcases h2.get key with ⟨g1, g2⟩ | ⟨u, ys, g1, g2, g3⟩
  · rw [g1, g2]; exact ⟨⟨_, rfl, Holds.nil _ _⟩, rfl⟩
  · rw [g1, g2]; exact ⟨⟨_, rfl, g3⟩, rfl⟩

/-- What KeyList writes for zs under this key. -/
theorem keyList_KL (eb kb : Nat) (most : Int) (A : List (ByteArray × List Int)) (F : Nat → Prop) (key : ByteArray) (v lv : Value) (l : List UInt8) (zs : List Int) (w : World) (h : Enc w eb v l) (hk : KL w kb most A F)
    (hs : SeesI w lv zs) (hz : ∀ z ∈ zs, I64 z) (hsep : ∀ j, lv.ownBlock = some j → v.ownBlock ≠ some j ∧ ¬ F j) (hS1 : Solid w lv) (hlim : l.length + 10 * zs.length + 40 ≤ 140737488355328) :
    Calls Tryd.prog 52 #[.pointer (some ⟨eb, 0, none⟩), .pointer (some ⟨kb, 0, none⟩), .string key, lv] w fun e w' => e = .returned (.tuple #[]) ∧ ∃ v', Enc w' eb v' (l ++ encKL ((kget A key).getD []) zs) ∧ Wrote eb w w' v v' := by
  obtain ⟨r, M, h1, h2, h3, h4⟩ := hk
  have hu : Holds w F ((kget M key).getD (.slice none 0 0)) ((kget A key).getD []) := by
    rcases h2.get key with ⟨g1, g2⟩ | ⟨u, ys, g1, g2, g3⟩
    · rw [g1, g2]; exact Holds.nil _ _
    · rw [g1, g2]; exact g3
  refine enc_keyList eb kb r most M key v lv l zs _ w h h1 hu.sees hs hz (fun j hj => ⟨?_, (hsep j hj).1⟩) hS1 hu.solid (fun j hj e => (hsep j hj).2 (hu.foot j e)) (by have := hu.len; omega) hlim
  rintro rfl
  obtain ⟨cs, hb⟩ := hS1 j hj
  obtain ⟨t, hbox⟩ := h.box
  rw [hbox] at hb
  simp at hb

end Go.Proofs.Qxb6612988aDoor

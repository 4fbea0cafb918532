/-
  FnKeyValueScriptStaysInStep: what is written, what is kept, and what stands during the writing.
-/
import Derived.Test.Qxb6612988aDoorCloneRecs
namespace Go.Proofs.Qxb6612988aDoor
open Go.RowKit

/-- What one record leaves kept. -/
def stepA (most : Int) (A : List (ByteArray × List Int)) (r : RecV) : List (ByteArray × List Int) := if r.keep then keepM most A r.key r.l else A
def stA (most : Int) : List (ByteArray × List Int) → List RecV → List (ByteArray × List Int)
  | A, [] => A
  | A, r :: rs => stA most (stepA most A r) rs
/-- What the records are written as. -/
def outS (most : Int) : List (ByteArray × List Int) → List RecV → List UInt8
  | _, [] => []
  | A, r :: rs => encKV r.key ((kget A r.key).getD []) r.l ++ outS most (stepA most A r) rs

theorem stA_append (most : Int) : ∀ (xs ys : List RecV) (A : List (ByteArray × List Int)), stA most A (xs ++ ys) = stA most (stA most A xs) ys
  | [], _, _ => rfl
  | _ :: xs, ys, _ => stA_append most xs ys _
theorem outS_append (most : Int) : ∀ (xs ys : List RecV) (A : List (ByteArray × List Int)), outS most A (xs ++ ys) = outS most A xs ++ outS most (stA most A xs) ys
  | [], _, _ => rfl
  | x :: xs, ys, A => by
    simp only [List.cons_append, outS, stA, List.append_assoc]
    rw [outS_append most xs ys]
theorem stA_snoc (most : Int) (A : List (ByteArray × List Int)) (rs : List RecV) (k : Nat) (h : k < rs.length) : stA most A (rs.take (k + 1)) = stepA most (stA most A (rs.take k)) rs[k] := by
  rw [List.take_succ_eq_append_getElem h, stA_append]; rfl
theorem outS_snoc (most : Int) (A : List (ByteArray × List Int)) (rs : List RecV) (k : Nat) (h : k < rs.length) : outS most A (rs.take (k + 1)) = outS most A (rs.take k) ++ encKV (rs[k]).key ((kget (stA most A (rs.take k)) (rs[k]).key).getD []) (rs[k]).l := by
  rw [List.take_succ_eq_append_getElem h, outS_append]; simp [outS]
theorem outS_drop (most : Int) (rs : List RecV) (k : Nat) (h : k < rs.length) : outS most (stA most [] (rs.take k)) (rs.drop k) = encKV (rs[k]).key ((kget (stA most [] (rs.take k)) (rs[k]).key).getD []) (rs[k]).l ++ outS most (stA most [] (rs.take (k + 1))) (rs.drop (k + 1)) := by
  rw [stA_snoc most [] rs k h, List.drop_eq_getElem_cons h]; rfl

theorem outS_length (most : Int) : ∀ (rs : List RecV) (A : List (ByteArray × List Int)), (∀ p ∈ rs, p.key.size ≤ 1048576 ∧ p.l.length ≤ 1048576) → (outS most A rs).length ≤ 30 * rs.length + 10 * sumR rs
  | [], _, _ => by simp [outS]
  | r :: rs, A, h => by
    have ih := outS_length most rs (stepA most A r) (fun p hp => h p (List.mem_cons_of_mem _ hp))
    obtain ⟨h1, h2⟩ := h r (List.mem_cons_self ..)
    have hu := Lib.uvarint_length64 (x := r.key.size) (by omega)
    have he := encKL_len ((kget A r.key).getD []) r.l h2
    have hs : r.key.data.toList.length = r.key.size := Array.length_toList
    simp only [outS, encKV, List.length_append, List.length_cons, sumR, hs]
    omega

/-- What is kept at any time are lists of the records. -/
theorem stA_mem (most : Int) (P : List Int → Prop) : ∀ (rs : List RecV) (A : List (ByteArray × List Int)), (∀ r ∈ rs, P r.l) → (∀ k zs, kget A k = some zs → P zs) → ∀ k zs, kget (stA most A rs) k = some zs → P zs
  | [], _, _, hA, k, zs, h => hA k zs h
  | r :: rs, A, hr, hA, k, zs, h => by
    refine stA_mem most P rs (stepA most A r) (fun x hx => hr x (List.mem_cons_of_mem _ hx)) (fun k' zs' h' => ?_) k zs h
    unfold stepA at h'
    split at h'
    · unfold keepM at h'
      rw [kget_put] at h'
      split at h'
      · cases h'; exact hr r (List.mem_cons_self ..)
      · split at h'
        · cases h'
        · exact hA k' zs' h'
    · exact hA k' zs' h'

/-! ### Maps with the same keys -/
section
variable {α β : Type}
theorem keys_get : ∀ {M : List (ByteArray × α)} {A : List (ByteArray × β)}, M.map (·.1) = A.map (·.1) → ∀ k, (kget M k).isNone = (kget A k).isNone
  | [], [], _, _ => rfl
  | [], _ :: _, h, _ => by simp at h
  | _ :: _, [], h, _ => by simp at h
  | m :: M, a :: A, h, k => by
    simp only [List.map_cons, List.cons.injEq] at h
    rw [kget_cons, kget_cons, h.1]
    split
    · rfl
    · exact keys_get h.2 k
theorem keys_put : ∀ {M : List (ByteArray × α)} {A : List (ByteArray × β)}, M.map (·.1) = A.map (·.1) → ∀ k v zs, (kput M k v).map (·.1) = (kput A k zs).map (·.1)
  | [], [], _, _, _, _ => rfl
  | [], _ :: _, h, _, _, _ => by simp at h
  | _ :: _, [], h, _, _, _ => by simp at h
  | m :: M, a :: A, h, k, v, zs => by
    simp only [List.map_cons, List.cons.injEq] at h
    simp only [kput, h.1]
    split
    · simp only [List.map_cons, h.2]
    · simp only [List.map_cons, h.1, keys_put h.2 k v zs]
theorem keys_len {M : List (ByteArray × α)} {A : List (ByteArray × β)} (h : M.map (·.1) = A.map (·.1)) : M.length = A.length := by
  have := congrArg List.length h; simpa using this
/-- Does Keep clear the map? -/
def clears (most : Int) (M : List (ByteArray × α)) (k : ByteArray) : Bool := (kget M k).isNone && decide (0 < most) && decide (most ≤ (M.length : Int))
theorem clears_same {M : List (ByteArray × α)} {A : List (ByteArray × β)} (h : M.map (·.1) = A.map (·.1)) (most : Int) (k : ByteArray) : clears most M k = clears most A k := by
  unfold clears; rw [keys_get h, keys_len h]
theorem keys_keep {M : List (ByteArray × α)} {A : List (ByteArray × β)} (h : M.map (·.1) = A.map (·.1)) (most : Int) (k : ByteArray) (v : α) (zs : β) : (keepM most M k v).map (·.1) = (keepM most A k zs).map (·.1) := by
  unfold keepM
  have e := clears_same h most k
  unfold clears at e
  rw [e]
  split
  · exact keys_put (M := ([] : List (ByteArray × α))) (A := ([] : List (ByteArray × β))) rfl k v zs
  · exact keys_put h k v zs
theorem get_keep (most : Int) (M : List (ByteArray × α)) (k k' : ByteArray) (v : α) : kget (keepM most M k v) k' = if k' == k then some v else if clears most M k then none else kget M k' := by
  unfold keepM clears
  rw [kget_put]
  split
  · rfl
  · split <;> rfl
end

/-! ### The writing -/
/-- The rows of the records written so far. -/
def Rows1 (L : Nat → Value) (k : Nat) : Nat → Prop := fun j => ∃ i, i < k ∧ (L i).ownBlock = some j

structure S1 (w : World) (B : Nat) (rs : List RecV) (most : Int) (eb ke kd b1 b2 : Nat) (L1 L2 : Nat → Value) (wr : World) (k : Nat) (v : Value) (r : Option Nat) (M : List (ByteArray × Value)) : Prop where
  enc : Enc wr eb v (outS most [] (rs.take k))
  k1 : KLs wr ke r most M
  ag : Agree wr (Rows1 L1 k) M (stA most [] (rs.take k))
  k2 : KLs wr kd none most []
  rc : 0 < rs.length → Recs wr b1 rs.length rs.length L1 rs
  wt : 0 < rs.length → Recs wr b2 rs.length rs.length L2 rs
  ne : ke ≠ kd
  be : Below B w wr
  bs : B ≤ w.heap.size
  eB : B ≤ eb
  kB : B ≤ ke
  dB : B ≤ kd
  vb : ∀ j, v.ownBlock = some j → B ≤ j
  rb : ∀ j, r = some j → B ≤ j

section
variable {w : World} {B : Nat} {rs : List RecV} {most : Int} {eb ke kd b1 b2 : Nat} {L1 L2 : Nat → Value} {wr w' : World} {k : Nat} {v : Value} {r : Option Nat} {M : List (ByteArray × Value)}
theorem S1.kept (h : S1 w B rs most eb ke kd b1 b2 L1 L2 wr k v r M) (hk : Kept (fun _ => False) wr w') : S1 w B rs most eb ke kd b1 b2 L1 L2 w' k v r M :=
  ⟨h.enc.kept hk (fun f => f) (fun _ _ f => f), h.k1.kept hk (fun f => f) (fun _ _ f => f), h.ag.turn (fun _ _ q => q.kept hk (fun _ _ f => f)), h.k2.kept hk (fun f => f) (fun _ _ f => f),
    fun h0 => (h.rc h0).kept hk (fun f => f) (fun _ _ _ _ _ f => f), fun h0 => (h.wt h0).kept hk (fun f => f) (fun _ _ _ _ _ f => f), h.ne, below_kept h.be hk h.bs (fun _ f => f.elim), h.bs, h.eB, h.kB, h.dB, h.vb, h.rb⟩

/-- What the writer turns is no row of records. -/
theorem S1.offR (h : S1 w B rs most eb ke kd b1 b2 L1 L2 wr k v r M) {b n m : Nat} {L : Nat → Value} (hr : Recs wr b n m L rs) : ¬ (b = eb ∨ v.ownBlock = some b ∨ b = ke ∨ r = some b) := by
  obtain ⟨cur, hb, _⟩ := hr.row
  rintro (e | e | e | e)
  · subst e; obtain ⟨t, hb'⟩ := h.enc.box; rw [hb'] at hb; simp at hb
  · obtain ⟨cs', hb'⟩ := h.enc.row b e; rw [hb'] at hb; simp at hb
  · subst e; have := h.k1.1; rw [hb] at this; simp at this
  · rcases h.k1.2 with ⟨e', _⟩ | ⟨mb', e', es, cl, hm, _⟩
    · rw [e'] at e; cases e
    · rw [e'] at e; cases e; rw [hm] at hb; cases hb

/-- One record is written. -/
theorem S1.round (h : S1 w B rs most eb ke kd b1 b2 L1 L2 wr k v r M) (hk : k < rs.length) (hsz : ∀ p ∈ rs, p.key.size ≤ 1048576 ∧ p.l.length ≤ 1048576) (hI : ∀ p ∈ rs, ∀ z ∈ p.l, I64 z) (htot : rs.length + sumR rs ≤ 1048576) :
    Calls Tryd.prog 23 #[.pointer (some ⟨eb, 0, none⟩), .pointer (some ⟨ke, 0, none⟩), .string (rs[k]).key, L1 k, .bool (rs[k]).keep] wr fun e w' => e = .returned (.tuple #[]) ∧ ∃ v' r' M', S1 w B rs most eb ke kd b1 b2 L1 L2 w' (k + 1) v' r' M' := by
  have hrc := h.rc (by omega)
  have hm := List.getElem_mem hk
  obtain ⟨hz1, hz2⟩ := hsz _ hm
  have ho := hrc.own k hk hk
  have hu : Holds wr (Rows1 L1 k) ((kget M (rs[k]).key).getD (.slice none 0 0)) ((kget (stA most [] (rs.take k)) (rs[k]).key).getD []) := by
    rcases h.ag.get (rs[k]).key with ⟨g1, g2⟩ | ⟨u, ys, g1, g2, g3⟩
    · rw [g1, g2]; exact Holds.nil _ _
    · rw [g1, g2]; exact g3
  have hlen := outS_length most (rs.take k) [] (fun p hp => hsz p (List.mem_of_mem_take hp))
  have hlt : sumR (rs.take k) ≤ sumR rs := by
    have e := sumR_append (rs.take k) (rs.drop k)
    rw [List.take_append_drop] at e
    omega
  have hl2 : (rs.take k).length ≤ rs.length := by rw [List.length_take]; omega
  refine (zzKeyValue eb ke r most M (rs[k]).key v (L1 k) _ (rs[k]).l _ (rs[k]).keep wr h.enc h.k1 hu.sees ho.sees (hI _ hm) ho.solid hu.solid ?_ hu.len hz2 hz1 (by omega)).mono ?_
  · intro j hj e
    obtain ⟨i, hi, hij⟩ := hu.foot j e
    exact absurd (hrc.inc i k j j hi hk hij hj) (Nat.lt_irrefl j)
  · rintro e w' ⟨rfl, v', r', e1, e2, e3, e4, e5⟩
    refine ⟨rfl, v', r', (if (rs[k]).keep = true then keepM most M (rs[k]).key (L1 k) else M), ?_⟩
    have hn := h.enc.notI h.k1
    have turn : ∀ u ys, Holds wr (Rows1 L1 k) u ys → Holds w' (Rows1 L1 (k + 1)) u ys := fun u ys q =>
      have off : ∀ j, u.ownBlock = some j → ¬ (j = eb ∨ v.ownBlock = some j ∨ j = ke ∨ r = some j) := fun j hj hs => by obtain ⟨cs, hb⟩ := q.solid j hj; exact hn j cs hs hb
      ⟨q.sees.kept e5 off, q.solid.kept e5 off, fun j hj => by obtain ⟨i, hi, hij⟩ := q.foot j hj; exact ⟨i, by omega, hij⟩, q.ints, q.len⟩
    have recs : ∀ {b : Nat} {L : Nat → Value}, Recs wr b rs.length rs.length L rs → Recs w' b rs.length rs.length L rs := fun {b L} q =>
      q.kept e5 (h.offR q) (fun j a hj hjk ha hs => by obtain ⟨cs, hb⟩ := (q.own j hj hjk).solid a ha; exact hn a cs hs hb)
    refine ⟨by rw [outS_snoc most [] rs k hk]; exact e1, e2, ?_, h.k2.other h.enc h.k1 h.ne (fun j _ e => by cases e) e5, fun h0 => recs (h.rc h0), fun h0 => recs (h.wt h0), h.ne, ?_, h.bs, h.eB, h.kB, h.dB, ?_, ?_⟩
    · rw [stA_snoc most [] rs k hk]
      have hag := h.ag.turn turn
      unfold stepA
      cases hkp : (rs[k]).keep
      · exact hag
      · have hself : Holds w' (Rows1 L1 (k + 1)) (L1 k) (rs[k]).l :=
          have off : ∀ j, (L1 k).ownBlock = some j → ¬ (j = eb ∨ v.ownBlock = some j ∨ j = ke ∨ r = some j) := fun j hj hs => by obtain ⟨cs, hb⟩ := ho.solid j hj; exact hn j cs hs hb
          ⟨ho.sees.kept e5 off, ho.solid.kept e5 off, fun j hj => ⟨k, by omega, hj⟩, hI _ hm, hz2⟩
        exact hag.keep most _ _ _ hself
    · refine below_kept h.be e5 h.bs ?_
      rintro j (e | e | e | e)
      · rw [e]; exact h.eB
      · exact h.vb j e
      · rw [e]; exact h.kB
      · exact h.rb j e
    · intro j hj
      have hs := h.be.size
      have hb := h.bs
      rcases e4 with e | ⟨b, e, hbk⟩
      · rw [e] at hj; exact h.vb j hj
      · rw [e] at hj; cases hj; omega
    · intro j hj
      have hs := h.be.size
      have hb := h.bs
      rcases e3 with e | ⟨e, b, e', hbk⟩
      · rw [e] at hj; exact h.rb j hj
      · rw [e'] at hj; cases hj; omega
end

end Go.Proofs.Qxb6612988aDoor

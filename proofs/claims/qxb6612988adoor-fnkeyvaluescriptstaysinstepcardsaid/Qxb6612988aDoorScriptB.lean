/-
  FnKeyValueScriptStaysInStep: what stands during the reading.
-/
import Derived.Test.Qxb6612988aDoorScriptA
namespace Go.Proofs.Qxb6612988aDoor
open Go.RowKit

/-- What stands during the reading, the decoder left out: k records have been read. -/
structure T2 (w : World) (B N1 : Nat) (rs : List RecV) (most : Int) (ke kd b2 : Nat) (r1 : Option Nat) (M1 : List (ByteArray × Value)) (F1 : Nat → Prop) (L2 : Nat → Value) (wr : World) (k : Nat) (r2 : Option Nat) (M2 : List (ByteArray × Value)) : Prop where
  k1 : KLs wr ke r1 most M1
  ag : Agree wr F1 M1 (stA most [] rs)
  k2 : KLs wr kd r2 most M2
  keys : M2.map (·.1) = (stA most [] (rs.take k)).map (·.1)
  own : ∀ key u, kget M2 key = some u → ∃ zs, kget (stA most [] (rs.take k)) key = some zs ∧ Own wr u zs ∧ ∀ j, u.ownBlock = some j → N1 ≤ j
  sep : ∀ key key' u u', key ≠ key' → kget M2 key = some u → kget M2 key' = some u' → ∀ j, u.ownBlock = some j → u'.ownBlock ≠ some j
  wt : 0 < rs.length → Recs wr b2 rs.length rs.length L2 rs
  wl : 0 < rs.length → b2 < N1 ∧ ∀ j a, j < rs.length → (L2 j).ownBlock = some a → a < N1
  fl : ∀ j, F1 j → j < N1
  kl : ke < N1 ∧ kd < N1 ∧ ∀ j, r1 = some j → j < N1
  nl : N1 ≤ wr.heap.size
  ne : ke ≠ kd
  nr : ∀ j, r1 = some j → r2 ≠ some j
  be : Below B w wr
  bs : B ≤ w.heap.size
  bn : B ≤ N1
  dB : B ≤ kd
  rb : ∀ j, r2 = some j → B ≤ j

section
variable {w : World} {B N1 : Nat} {rs : List RecV} {most : Int} {ke kd b2 : Nat} {r1 : Option Nat} {M1 : List (ByteArray × Value)} {F1 : Nat → Prop} {L2 : Nat → Value} {wr w' : World} {k : Nat} {r2 : Option Nat} {M2 : List (ByteArray × Value)}

/-- What the reader turns besides its own map: blocks that are new, its own rows not among them. -/
theorem T2.kept {S : Nat → Prop} (h : T2 w B N1 rs most ke kd b2 r1 M1 F1 L2 wr k r2 M2) (hk : Kept S wr w') (hS : ∀ j, S j → N1 ≤ j) (hr : ∀ j, r2 = some j → ¬ S j) (hu : ∀ key u j, kget M2 key = some u → u.ownBlock = some j → ¬ S j) : T2 w B N1 rs most ke kd b2 r1 M1 F1 L2 w' k r2 M2 where
  k1 := h.k1.kept hk (fun s => by have := hS _ s; have := h.kl.1; omega) (fun j hj s => by have := hS _ s; have := h.kl.2.2 j hj; omega)
  ag := h.ag.turn (fun _ _ q => q.kept hk (fun j hj s => by have := hS _ s; have := h.fl j hj; omega))
  k2 := h.k2.kept hk (fun s => by have := hS _ s; have := h.kl.2.1; omega) hr
  keys := h.keys
  own := fun key u hg => by
    obtain ⟨zs, h1, h2, h3⟩ := h.own key u hg
    exact ⟨zs, h1, h2.kept hk (fun j hj => hu key u j hg hj), h3⟩
  sep := h.sep
  wt := fun h0 => (h.wt h0).kept hk (fun s => by have := hS _ s; have := (h.wl h0).1; omega) (fun j a hj _ ha s => by have := hS _ s; have := (h.wl h0).2 j a hj ha; omega)
  wl := h.wl
  fl := h.fl
  kl := h.kl
  nl := Nat.le_trans h.nl hk.size
  ne := h.ne
  nr := h.nr
  be := below_kept h.be hk h.bs (fun j s => Nat.le_trans h.bn (hS j s))
  bs := h.bs
  bn := h.bn
  dB := h.dB
  rb := h.rb

theorem T2.quiet (h : T2 w B N1 rs most ke kd b2 r1 M1 F1 L2 wr k r2 M2) (hk : Kept (fun _ => False) wr w') : T2 w B N1 rs most ke kd b2 r1 M1 F1 L2 w' k r2 M2 :=
  h.kept hk (fun _ f => f.elim) (fun _ _ f => f) (fun _ _ _ _ _ f => f)

/-- The decoder's box alone has turned. -/
theorem T2.box {db : Nat} {v err : Value} (h : T2 w B N1 rs most ke kd b2 r1 M1 F1 L2 wr k r2 M2) (hd : Dec wr db v err) (hN : N1 ≤ db) (hk : Kept (fun j => j = db) wr w') : T2 w B N1 rs most ke kd b2 r1 M1 F1 L2 w' k r2 M2 := by
  refine h.kept hk (fun j e => by omega) ?_ ?_
  · rintro j hj rfl
    rcases h.k2.2 with ⟨e', _⟩ | ⟨mb', e', es, cl, hm, _⟩
    · rw [e'] at hj; cases hj
    · rw [e'] at hj; cases hj
      have : wr.heap[j]? = some (.cells #[v, .int .i64 0, err] 34 (0, 0)) := hd
      rw [hm] at this; cases this
  · rintro key u j hg hj rfl
    obtain ⟨zs, _, h2, _⟩ := h.own key u hg
    obtain ⟨cs, hb⟩ := h2.solid j hj
    have : wr.heap[j]? = some (.cells #[v, .int .i64 0, err] 34 (0, 0)) := hd
    rw [hb] at this; simp at this

/-- The list that the reader keeps for a key. -/
theorem T2.look (h : T2 w B N1 rs most ke kd b2 r1 M1 F1 L2 wr k r2 M2) (key : ByteArray) : Own wr ((kget M2 key).getD (.slice none 0 0)) ((kget (stA most [] (rs.take k)) key).getD []) ∧ ∀ j, ((kget M2 key).getD (.slice none 0 0)).ownBlock = some j → N1 ≤ j := by
  cases hg : kget M2 key with
  | none =>
    have := keys_get h.keys key
    rw [hg] at this
    have e : kget (stA most [] (rs.take k)) key = none := by
      cases hq : kget (stA most [] (rs.take k)) key with
      | none => rfl
      | some z => rw [hq] at this; cases this
    rw [e]
    exact ⟨Own.nil _, fun j hj => by simp [Value.ownBlock] at hj⟩
  | some u =>
    obtain ⟨zs, h1, h2, h3⟩ := h.own key u hg
    rw [h1]
    exact ⟨h2, h3⟩

/-- A record that is not kept. -/
theorem T2.pass (h : T2 w B N1 rs most ke kd b2 r1 M1 F1 L2 wr k r2 M2) (hk : k < rs.length) (hkp : (rs[k]).keep = false) : T2 w B N1 rs most ke kd b2 r1 M1 F1 L2 wr (k + 1) r2 M2 := by
  have e : stA most [] (rs.take (k + 1)) = stA most [] (rs.take k) := by rw [stA_snoc most [] rs k hk]; unfold stepA; rw [hkp]; rfl
  exact ⟨h.k1, h.ag, h.k2, by rw [e]; exact h.keys, by rw [e]; exact h.own, h.sep, h.wt, h.wl, h.fl, h.kl, h.nl, h.ne, h.nr, h.be, h.bs, h.bn, h.dB, h.rb⟩

/-- A record that is read with grow, and kept. -/
theorem T2.keep {w3 w4 w5 w6 : World} {db : Nat} {v err lv : Value} {mb : Nat} (h : T2 w B N1 rs most ke kd b2 r1 M1 F1 L2 w3 k r2 M2) (hk : k < rs.length) (hkp : (rs[k]).keep = true) (hd : Dec w3 db v err) (hN : N1 ≤ db)
    (k34 : Kept (fun j => j = db ∨ ((kget M2 (rs[k]).key).getD (.slice none 0 0)).ownBlock = some j) w3 w4) (hG : GotG w3 w4 ((kget M2 (rs[k]).key).getD (.slice none 0 0)) lv (rs[k]).l) (k45 : Kept (fun _ => False) w4 w5)
    (hK : KLs w6 kd (some mb) most (keepM most M2 (rs[k]).key lv)) (k56 : Kept (fun j => j = kd ∨ r2 = some j) w5 w6) (hmb : r2 = some mb ∨ (r2 = none ∧ mb = w5.heap.size)) : T2 w B N1 rs most ke kd b2 r1 M1 F1 L2 w6 (k + 1) (some mb) (keepM most M2 (rs[k]).key lv) := by
  have hdb : w3.heap[db]? = some (.cells #[v, .int .i64 0, err] 34 (0, 0)) := hd
  obtain ⟨hu1, hu2⟩ := h.look (rs[k]).key
  -- old blocks other than the reader's map
  have S34 : ∀ j, (j = db ∨ ((kget M2 (rs[k]).key).getD (.slice none 0 0)).ownBlock = some j) → N1 ≤ j := by
    rintro j (e | e)
    · omega
    · exact hu2 j e
  have k35 := k34.trans k45 (fun _ _ f => f.elim)
  have r2m : ∀ j, r2 = some j → (∃ es cl, w3.heap[j]? = some (.map es cl)) ∧ ¬ (j = db ∨ ((kget M2 (rs[k]).key).getD (.slice none 0 0)).ownBlock = some j) := by
    intro j hj
    rcases h.k2.2 with ⟨e', _⟩ | ⟨mb', e', es, cl, hm, _⟩
    · rw [e'] at hj; cases hj
    · rw [e'] at hj; cases hj
      refine ⟨⟨es, cl, hm⟩, ?_⟩
      rintro (e | e)
      · rw [e, hdb] at hm; cases hm
      · obtain ⟨cs, hb⟩ := hu1.solid j e; rw [hm] at hb; cases hb
  have hk5 : KLs w5 kd r2 most M2 := h.k2.kept k35 (fun s => by have := S34 _ s; have := h.kl.2.1; omega) (fun j hj => (r2m j hj).2)
  -- a row of int64 of w5 lies neither in the box nor in the map
  have off56 : ∀ {u : Value} {zs : List Int}, Own w5 u zs → Own w6 u zs := fun {u zs} q => q.kept k56 (fun j hj s => by
    have := hk5.offI q.solid j hj
    rcases s with s | s
    · exact this.1 s
    · exact this.2 s)
  have hlv : Own w6 lv (rs[k]).l := off56 ((show Own w4 lv (rs[k]).l from hG.2.2.1).kept k45 (fun _ _ f => f))
  have hlvN : ∀ j, lv.ownBlock = some j → N1 ≤ j := fun j hj => by
    rcases hG.2.2.2 j hj with e | e
    · exact hu2 j e
    · exact Nat.le_trans h.nl e
  -- the others' rows
  have oth : ∀ key u, key ≠ (rs[k]).key → kget M2 key = some u → (∃ zs, kget (stA most [] (rs.take k)) key = some zs ∧ Own w6 u zs ∧ ∀ j, u.ownBlock = some j → N1 ≤ j) ∧ ∀ j, u.ownBlock = some j → lv.ownBlock ≠ some j := by
    intro key u hne hg
    obtain ⟨zs, h1, h2, h3⟩ := h.own key u hg
    have off : ∀ j, u.ownBlock = some j → ¬ (j = db ∨ ((kget M2 (rs[k]).key).getD (.slice none 0 0)).ownBlock = some j) := by
      rintro j hj (e | e)
      · obtain ⟨cs, hb⟩ := h2.solid j hj
        rw [e, hdb] at hb; simp at hb
      · cases hg' : kget M2 (rs[k]).key with
        | none => rw [hg'] at e; simp [Value.ownBlock] at e
        | some u' => rw [hg'] at e; exact h.sep key (rs[k]).key u u' hne hg hg' j hj e
    refine ⟨⟨zs, h1, off56 (h2.kept k35 off), h3⟩, fun j hj e => ?_⟩
    rcases hG.2.2.2 j e with e' | e'
    · exact off j hj (.inr e')
    · have := h2.lt j hj; omega
  have s35 := k35.size
  have hcl := clears_same h.keys most (rs[k]).key
  have eA : stA most [] (rs.take (k + 1)) = keepM most (stA most [] (rs.take k)) (rs[k]).key (rs[k]).l := by rw [stA_snoc most [] rs k hk]; unfold stepA; rw [hkp]; rfl
  -- what lies below N1 is as it was
  have k36 : Kept (fun j => N1 ≤ j ∨ j = kd ∨ r2 = some j) w3 w6 := (k35.mono (T := fun j => N1 ≤ j ∨ j = kd ∨ r2 = some j) (fun j _ s => .inl (S34 j s))).trans k56 (fun i _ s => .inr s)
  have low : ∀ j, j < N1 → j ≠ kd → r2 ≠ some j → ¬ (N1 ≤ j ∨ j = kd ∨ r2 = some j) := by
    rintro j h1 h2 h3 (s | s | s)
    · omega
    · exact h2 s
    · exact h3 s
  have solidOff : ∀ {j : Nat} {o : Obj}, w3.heap[j]? = some o → (∀ cs, o ≠ .cells cs 50 (0, 0)) → (∀ es cl, o ≠ .map es cl) → j ≠ kd ∧ r2 ≠ some j := by
    intro j o hb h1 h2
    refine ⟨fun e => ?_, fun e => ?_⟩
    · subst e; have := h.k2.1; rw [hb] at this; cases this; exact h1 _ rfl
    · obtain ⟨⟨es, cl, hm⟩, _⟩ := r2m j e; rw [hb] at hm; cases hm; exact h2 _ _ rfl
  have hne1 : ke ≠ kd := h.ne
  refine ⟨?_, ?_, hK, ?_, ?_, ?_, ?_, h.wl, h.fl, h.kl, Nat.le_trans h.nl (Nat.le_trans s35 k56.size), h.ne, ?_, ?_, h.bs, h.bn, h.dB, ?_⟩
  · refine h.k1.kept k36 (low ke h.kl.1 hne1 (fun e => ?_)) (fun j hj => low j (h.kl.2.2 j hj) (fun e => ?_) (h.nr j hj))
    · obtain ⟨⟨es, cl, hm⟩, _⟩ := r2m ke e; have := h.k1.1; rw [hm] at this; cases this
    · subst e
      rcases h.k1.2 with ⟨e', _⟩ | ⟨mb', e', es, cl, hm, _⟩
      · rw [e'] at hj; cases hj
      · rw [e'] at hj; cases hj; have := h.k2.1; rw [hm] at this; cases this
  · refine h.ag.turn (fun u ys q => q.keptAt k36 (fun j hj => ?_))
    obtain ⟨cs, hb⟩ := q.solid j hj
    have := solidOff hb (fun cs' e => by simp at e) (fun es cl e => by cases e)
    exact low j (h.fl j (q.foot j hj)) this.1 this.2
  · rw [eA]; exact keys_keep h.keys most _ _ _
  · intro key u hg
    rw [get_keep] at hg
    rw [eA, get_keep]
    split at hg
    · rename_i he
      cases hg
      rw [if_pos he]
      exact ⟨_, rfl, hlv, hlvN⟩
    · rename_i he
      rw [if_neg he, ← hcl]
      split at hg
      · cases hg
      · rename_i hc
        rw [if_neg hc]
        exact (oth key u (fun e => he ((MapKept.bytes_beq _ _).2 e)) hg).1
  · intro key key' u u' hne hg hg' j hj
    rw [get_keep] at hg hg'
    split at hg
    · rename_i he
      cases hg
      have e1 : key = (rs[k]).key := (MapKept.bytes_beq _ _).1 he
      split at hg'
      · rename_i he'
        exact absurd (e1.trans ((MapKept.bytes_beq _ _).1 he').symm) hne
      · rename_i he'
        split at hg'
        · cases hg'
        · intro e; exact (oth key' u' (fun e => he' ((MapKept.bytes_beq _ _).2 e)) hg').2 j e hj
    · rename_i he
      split at hg
      · cases hg
      · split at hg'
        · cases hg'
          exact (oth key u (fun e => he ((MapKept.bytes_beq _ _).2 e)) hg).2 j hj
        · exact h.sep key key' u u' hne hg hg' j hj
  · intro h0
    have hr := h.wt h0
    refine hr.kept k36 ?_ (fun j a hj hjk ha => ?_)
    · obtain ⟨cur, hb, _⟩ := hr.row
      have := solidOff hb (fun cs' e => by simp at e) (fun es cl e => by cases e)
      exact low b2 (h.wl h0).1 this.1 this.2
    · obtain ⟨cs, hb⟩ := (hr.own j hj hjk).solid a ha
      have := solidOff hb (fun cs' e => by simp at e) (fun es cl e => by cases e)
      exact low a ((h.wl h0).2 j a hj ha) this.1 this.2
  · intro j hj e
    cases e
    rcases hmb with e' | ⟨_, e'⟩
    · exact h.nr mb hj e'
    · have := h.kl.2.2 mb hj; have := h.nl; omega
  · refine below_kept h.be k36 h.bs ?_
    rintro j (s | s | s)
    · exact Nat.le_trans h.bn s
    · rw [s]; exact h.dB
    · exact h.rb j s
  · intro j hj
    cases hj
    rcases hmb with e' | ⟨_, e'⟩
    · exact h.rb mb e'
    · have := h.nl; have := h.bn; omega
/-- The writing is done, nothing has been read. -/
theorem T2.start {eb b1 : Nat} {L1 : Nat → Value} {v : Value} {r : Option Nat} {M : List (ByteArray × Value)} (h : S1 w B rs most eb ke kd b1 b2 L1 L2 wr rs.length v r M) : T2 w B wr.heap.size rs most ke kd b2 r M (Rows1 L1 rs.length) L2 wr 0 none [] := by
  have e : rs.take rs.length = rs := List.take_length
  have hag := h.ag
  rw [e] at hag
  refine ⟨h.k1, hag, h.k2, rfl, (fun key u hg => by cases hg), (fun key key' u u' _ hg => by cases hg), h.wt, fun h0 => ⟨?_, fun j a hj ha => ((h.wt h0).new j a hj ha).2⟩, ?_, ⟨h.k1.lt.1, h.k2.lt.1, h.k1.lt.2⟩, Nat.le_refl _, h.ne, (fun j _ e => by cases e), h.be, h.bs, Nat.le_trans h.bs h.be.size, h.dB, (fun j e => by cases e)⟩
  · obtain ⟨cur, hb, _⟩ := (h.wt h0).row; exact lt_of_block hb
  · rintro j ⟨i, hi, hij⟩; exact ((h.rc (by omega)).new i j hi hij).2

/-- Both KeyLists keep the same list for a key, at the end. -/
theorem T2.same (h : T2 w B N1 rs most ke kd b2 r1 M1 F1 L2 wr rs.length r2 M2) (key : ByteArray) : ∃ b zs, (kget M1 key).isSome = b ∧ (kget M2 key).isSome = b ∧ SeesI wr ((kget M1 key).getD (.slice none 0 0)) zs ∧ SeesI wr ((kget M2 key).getD (.slice none 0 0)) zs ∧ zs.length ≤ 1048576 := by
  have e : rs.take rs.length = rs := List.take_length
  have hl := (h.look key).1
  have hks := keys_get h.keys key
  rw [e] at hl hks
  rcases h.ag.get key with ⟨g1, g2⟩ | ⟨u, ys, g1, g2, g3⟩
  · rw [g2] at hl hks
    rw [g1]
    refine ⟨false, [], rfl, ?_, (Holds.nil wr (fun _ => True)).sees, hl.sees, by simp⟩
    cases hq : kget M2 key with
    | none => rfl
    | some x => rw [hq] at hks; cases hks
  · rw [g2] at hl hks
    rw [g1]
    refine ⟨true, ys, rfl, ?_, g3.sees, hl.sees, g3.len⟩
    cases hq : kget M2 key with
    | none => rw [hq] at hks; cases hks
    | some x => rfl
end

set_option maxRecDepth 100000 in
set_option maxHeartbeats 4000000 in
theorem keptEq_kls (ka kb : Nat) (r1 r2 : Option Nat) (most most' : Int) (M1 M2 : List (ByteArray × Value)) (key : ByteArray) (zs : List Int) (b : Bool) (w : World) (ha : KLs w ka r1 most M1) (hb : KLs w kb r2 most' M2) (b1 : (kget M1 key).isSome = b) (b2 : (kget M2 key).isSome = b)
    (s1 : SeesI w ((kget M1 key).getD (.slice none 0 0)) zs) (s2 : SeesI w ((kget M2 key).getD (.slice none 0 0)) zs) (hl : zs.length ≤ 1048576) :
    Calls Tryd.prog 32 #[.pointer (some ⟨ka, 0, none⟩), .pointer (some ⟨kb, 0, none⟩), .string key] w fun e w' => e = .returned (.bool true) ∧ ∃ n, w' = w.drewN n := by
  have h1 := zzKept ka r1 most M1 key w ha
  have h2 := zzKept kb r2 most' M2 key w hb
  rw [b1] at h1
  rw [b2] at h2
  generalize (kget M1 key).getD (.slice none 0 0) = v1 at *
  generalize (kget M2 key).getD (.slice none 0 0) = v2 at *
  clear ha hb b1 b2
  have hbb : (b == b) = true := by cases b <;> rfl
  obtain ⟨a1, c1, e1⟩ : ∃ a c, v1 = .slice a zs.length c := by obtain ⟨a, c, e, _⟩ := s1.form; exact ⟨a, c, e⟩
  obtain ⟨a2, c2, e2⟩ : ∃ a c, v2 = .slice a zs.length c := by obtain ⟨a, c, e, _⟩ := s2.form; exact ⟨a, c, e⟩
  subst e1
  subst e2
  have hE := intsEq _ _ zs zs w s1 s2 (by unfold maxLen; omega) (by unfold maxLen; omega)
  rw [beq_self_eq_true] at hE
  clear s1 s2
  go_enter Tryd.func32, Tryd.ntmps32
  go_wp2_with fail
  refine h1.mono ?_
  rintro e w1 ⟨rfl, hw⟩
  replace hw := hw.symm
  subst hw
  clear h1
  go_wp2_with fail
  refine h2.mono ?_
  rintro e w1 ⟨rfl, hw⟩
  replace hw := hw.symm
  subst hw
  clear h2
  cases b
  all_goals
    go_wp2_with fail
    refine hE.mono ?_
    rintro e w1 ⟨rfl, n, hw⟩
    clear hE
    go_wp2
    go_ret
    exact ⟨rfl, n, rfl⟩

end Go.Proofs.Qxb6612988aDoor

/-
  THE ENCODER's LISTS: Varint, Ints, KeyList, by their contracts; the bytes that they write, as plain functions.
-/
import Derived.Test.Qxb6612988aDoorKeys
import Derived.LaidEqlPtr
namespace Go.Proofs.Qxb6612988aDoor
open Go.RowKit

/-! ### Plain -/
/-- The differences of a list, each as a varint, the first from p. -/
def encD : Int → List Int → List UInt8
  | _, [] => []
  | p, z :: r => Lib.uvarint (Lib.zigzag (wrap64 (z - p))) ++ encD z r
def lastOr : Int → List Int → Int
  | p, [] => p
  | _, z :: r => lastOr z r
theorem encD_append (p : Int) (a b : List Int) : encD p (a ++ b) = encD p a ++ encD (lastOr p a) b := by
  induction a generalizing p with
  | nil => rfl
  | cons z r ih => simp only [List.cons_append, encD, lastOr, ih, List.append_assoc]
theorem lastOr_append (p : Int) (a : List Int) (z : Int) : lastOr p (a ++ [z]) = z := by
  induction a generalizing p with
  | nil => rfl
  | cons y r ih => simp only [List.cons_append, lastOr, ih]
theorem encD_snoc (p : Int) (zs : List Int) (k : Nat) (h : k < zs.length) : encD p (zs.take (k + 1)) = encD p (zs.take k) ++ Lib.uvarint (Lib.zigzag (wrap64 (zs[k] - lastOr p (zs.take k)))) := by
  rw [List.take_succ_eq_append_getElem h, encD_append]; simp [encD]
theorem lastOr_snoc (p : Int) (zs : List Int) (k : Nat) (h : k < zs.length) : lastOr p (zs.take (k + 1)) = zs[k] := by
  rw [List.take_succ_eq_append_getElem h, lastOr_append]
def I64 (z : Int) : Prop := -9223372036854775808 ≤ z ∧ z ≤ 9223372036854775807
theorem I64.wrap (z : Int) : I64 (wrap64 z) := by unfold I64 wrap64; omega
theorem lastOr_I64 (p : Int) (zs : List Int) (hp : I64 p) (h : ∀ z ∈ zs, I64 z) : I64 (lastOr p zs) := by
  induction zs generalizing p with
  | nil => exact hp
  | cons z r ih => exact ih z (h z (by simp)) (fun y hy => h y (by simp [hy]))
theorem encD_length (p : Int) (zs : List Int) : (encD p zs).length ≤ 10 * zs.length := by
  induction zs generalizing p with
  | nil => simp [encD]
  | cons z r ih =>
    have h1 := Lib.uvarint_length64 (Lib.zigzag_lt (I64.wrap (z - p)).1 (I64.wrap (z - p)).2)
    have h2 := ih z
    simp only [encD, List.length_append, List.length_cons]
    omega
theorem encD_length_ge (p : Int) (zs : List Int) : zs.length ≤ (encD p zs).length := by
  induction zs generalizing p with
  | nil => simp
  | cons z r ih =>
    have h1 := Lib.uvarint_pos (Lib.zigzag (wrap64 (z - p)))
    have h2 := ih z
    simp only [encD, List.length_append, List.length_cons]
    omega

/-! ### Encoder.Varint -/
theorem app_varint (n : Nat) (x : Int) (h0 : -9223372036854775808 ≤ x) (h1 : x ≤ 9223372036854775807) (sv : Value) (xs : List Value) (w : World) (hown : w.ownsRow 0 5 1 sv n xs) (hlim : n + 10 ≤ 140737488355328) :
    Calls Tryd.prog 57 #[sv, .int .i64 x] w fun e w' => ∃ v', e = .returned v' ∧ w'.ownsRow 0 5 1 v' (n + (Lib.uvarint (Lib.zigzag x)).length) (xs ++ Lib.byteCells (Lib.uvarint (Lib.zigzag x))) ∧ Kept (fun k => sv.ownBlock = some k) w w' ∧ Moved w sv v' :=
  append_varint Tryd.laysBin50 n x h0 h1 sv xs w hown hlim

set_option maxHeartbeats 1000000 in
theorem enc_varint (eb : Nat) (x : Int) (v : Value) (l : List UInt8) (w : World) (h : Enc w eb v l) (h0 : -9223372036854775808 ≤ x) (h1 : x ≤ 9223372036854775807) (hlim : l.length + 10 ≤ 140737488355328) :
    Calls Tryd.prog 56 #[.pointer (some ⟨eb, 0, none⟩), .int .i64 x] w fun e w' => e = .returned (.tuple #[]) ∧ ∃ v', Enc w' eb v' (l ++ Lib.uvarint (Lib.zigzag x)) ∧ Kept (fun k => k = eb ∨ v.ownBlock = some k) w w' ∧ Moved w v v' := by
  have hap := h.apart
  obtain ⟨⟨t, hb⟩, hown⟩ := h
  have c0 : w.cell? ⟨eb, 0, none⟩ = some v := by rw [blk_cell hb]; rfl
  have f0 := blk_frozen hb 0
  have hU := app_varint l.length x h0 h1 v _ w hown hlim
  have hpos := Lib.uvarint_pos (Lib.zigzag x)
  have heb := lt_of_block hb
  -- what stands behind the append and the store
  have fin : ∀ (w1 : World) (v' : Value), w1.ownsRow 0 5 1 v' (l.length + (Lib.uvarint (Lib.zigzag x)).length) (Lib.byteCells l ++ Lib.byteCells (Lib.uvarint (Lib.zigzag x))) → Kept (fun k => v.ownBlock = some k) w w1 → Moved w v v' →
      Enc (w1.setCell ⟨eb, 0, none⟩ v') eb v' (l ++ Lib.uvarint (Lib.zigzag x)) ∧ Kept (fun k => k = eb ∨ v.ownBlock = some k) w (w1.setCell ⟨eb, 0, none⟩ v') ∧ Moved w v v' := by
    intro w1 v' ho hk hm
    have hne : v'.ownBlock ≠ some eb := by
      rcases hm with e | ⟨k, e, hk'⟩
      · rw [e]; exact hap
      · rw [e]; intro e2; cases e2; omega
    refine ⟨⟨⟨t, ?_⟩, ?_⟩, (hk.mono (T := fun k => k = eb ∨ v.ownBlock = some k) fun k _ hs => Or.inr hs).setCell (fun _ => Or.inl rfl) v', hm⟩
    · rw [blk_set (hk.here hb hap)]; rfl
    · rw [List.length_append, Lib.byteCells_append]
      exact ownsRow_setCell_other ho hne v'
  have hK1 : ∀ (w1 : World), Kept (fun k => v.ownBlock = some k) w w1 → w1.cell? ⟨eb, 0, none⟩ = some v ∧ w1.frozen? ⟨eb, 0, none⟩ = false := fun w1 hk =>
    ⟨hk.cell c0 hap, (hk.frozen (p := ⟨eb, 0, none⟩) heb hap).trans f0⟩
  have F : Hid (∀ (w1 : World) (v' : Value), w1.ownsRow 0 5 1 v' (l.length + (Lib.uvarint (Lib.zigzag x)).length) (Lib.byteCells l ++ Lib.byteCells (Lib.uvarint (Lib.zigzag x))) → Kept (fun k => v.ownBlock = some k) w w1 → Moved w v v' →
      Enc (w1.setCell ⟨eb, 0, none⟩ v') eb v' (l ++ Lib.uvarint (Lib.zigzag x)) ∧ Kept (fun k => k = eb ∨ v.ownBlock = some k) w (w1.setCell ⟨eb, 0, none⟩ v') ∧ Moved w v v') := fin
  clear fin hb hap
  rcases own_shape2 hown with rfl | ⟨g0, cap0, rfl⟩
  all_goals
    clear hown
    go_enter Tryd.func56, Tryd.ntmps56
    go_wp2_with fail
    refine hU.mono ?_
    rintro e w1 ⟨v', rfl, ho, hk, hm⟩
    obtain ⟨g, cap, rfl⟩ := own_shape ho (by omega)
    obtain ⟨c1, f1⟩ := hK1 w1 hk
    have R := F.out w1 _ ho hk hm
    clear ho hk hm hU hK1 F
    go_wp2
    go_end0
    exact ⟨rfl, _, R⟩


/-! ### What a run of writes to one encoder does -/
/-- From w to w' the encoder eb, whose buffer was v, has been written; its buffer is v' now. -/
def Wrote (eb : Nat) (w w' : World) (v v' : Value) : Prop := Kept (fun k => k = eb ∨ v.ownBlock = some k) w w' ∧ Moved w v v'
theorem Wrote.refl (eb : Nat) (w : World) (v : Value) : Wrote eb w w v v := ⟨Kept.refl _ _, .inl rfl⟩
theorem Wrote.trans {eb : Nat} {a b c : World} {u v x : Value} (h : Wrote eb a b u v) (k : Wrote eb b c v x) : Wrote eb a c u x := by
  have hs := h.1.size
  refine ⟨h.1.trans k.1 ?_, ?_⟩
  · rintro i hi (e | e)
    · exact .inl e
    · rcases h.2 with f | ⟨j, f, hj⟩
      · exact .inr (f ▸ e)
      · rw [e] at f; cases f; omega
  · rcases k.2 with e | ⟨j, e, hj⟩
    · rcases h.2 with f | ⟨i, f, hi⟩
      · exact .inl (e.trans f)
      · exact .inr ⟨i, e.trans f, hi⟩
    · exact .inr ⟨j, e, by omega⟩
theorem Wrote.drewN {eb : Nat} {a b : World} {u v : Value} (h : Wrote eb a b u v) (n : Nat) : Wrote eb a (b.drewN n) u v := ⟨h.1.drewN n, h.2⟩
theorem Wrote.alloc {eb : Nat} {a b : World} {u v : Value} (h : Wrote eb a b u v) (o : Obj) : Wrote eb a (b.alloc o) u v := ⟨h.1.alloc o, h.2⟩
/-- What is apart from the encoder stays so. -/
theorem Wrote.off {eb : Nat} {a b : World} {u v : Value} (h : Wrote eb a b u v) {j : Nat} (hj : j < a.heap.size) (h2 : u.ownBlock ≠ some j) : v.ownBlock ≠ some j := by
  rcases h.2 with e | ⟨k, e, hk⟩
  · rw [e]; exact h2
  · rw [e]; intro f; cases f; omega

theorem Enc.drewN {w : World} {eb : Nat} {v : Value} {l : List UInt8} (h : Enc w eb v l) (n : Nat) : Enc (w.drewN n) eb v l := h.kept (S := fun _ => False) ((Kept.refl _ _).drewN n) (fun f => f) (fun _ _ f => f)
theorem Enc.alloc {w : World} {eb : Nat} {v : Value} {l : List UInt8} (h : Enc w eb v l) (o : Obj) : Enc (w.alloc o) eb v l := h.kept (S := fun _ => False) ((Kept.refl _ _).alloc o) (fun f => f) (fun _ _ f => f)

/-! ### Encoder.Ints -/
set_option maxRecDepth 100000 in
set_option maxHeartbeats 2000000 in
theorem enc_ints (eb : Nat) (v lv : Value) (l : List UInt8) (zs : List Int) (p : Int) (w : World) (h : Enc w eb v l) (hs : SeesI w lv zs) (hz : ∀ z ∈ zs, I64 z) (hp : I64 p) (hsep : ∀ j, lv.ownBlock = some j → j ≠ eb ∧ v.ownBlock ≠ some j) (hlim : l.length + 10 * zs.length + 20 ≤ 140737488355328) :
    Calls Tryd.prog 55 #[.pointer (some ⟨eb, 0, none⟩), lv, .int .i64 p] w fun e w' => e = .returned (.tuple #[]) ∧ ∃ v', Enc w' eb v' (l ++ (Lib.uvarint zs.length ++ encD p zs)) ∧ Wrote eb w w' v v' := by
  obtain ⟨ao, c, rfl, _, hX⟩ := hs.form
  clear hs
  have hn64 := Lib.uvarint_length64 (x := zs.length) (by omega)
  have hU := enc_uvarint eb zs.length v l w h (by omega) (by omega)
  have HX : Hid (0 < zs.length → ∃ g o, ao = some ⟨g, o, none⟩ ∧ zs.length ≤ c ∧ ∀ j (hj : j < zs.length), w.cell? ⟨g, o + j, none⟩ = some (.int .i64 zs[j])) := hX
  clear hX h
  go_enter Tryd.func55, Tryd.ntmps55
  go_wp2_with fail
  refine hU.mono ?_
  rintro e w1 ⟨rfl, v1, hE1, hK1, hM1⟩
  have hW1 : Wrote eb w w1 v v1 := ⟨hK1, hM1⟩
  clear hU hK1 hM1
  go_wp2
  go_loopw [2, 7, 15] (fun q _ i wr => ∃ (k : Nat) (vk : Value), k ≤ zs.length ∧ i = .int .i64 k ∧ q = .int .i64 (lastOr p (zs.take k)) ∧ Enc wr eb vk (l ++ (Lib.uvarint zs.length ++ encD p (zs.take k))) ∧ Wrote eb w wr v vk)
    (fun _ _ i _ => zs.length - (intOf i).toNat)
  case atStart => exact ⟨0, v1, Nat.zero_le _, rfl, rfl, by simpa [encD] using hE1, hW1⟩
  case round =>
    clear hE1 hW1 v1
    obtain ⟨k, vk, hk, rfl, rfl, hE, hW⟩ := hrel
    by_cases hlt : k < zs.length
    · obtain ⟨g, o, ha, hc, hcell⟩ := HX.out (by omega)
      have hg := World.block_lt_of_cell? w _ (hcell k hlt)
      simp at hg
      obtain ⟨s1, s2⟩ := hsep g (by rw [ha]; rfl)
      have hcx : wr.cell? ⟨g, o + k, none⟩ = some (.int .i64 zs[k]) := hW.1.cell (hcell k hlt) (by rintro (e | e); exact s1 e; exact s2 e)
      have hzk := hz zs[k] (List.getElem_mem hlt)
      have hq := lastOr_I64 p (zs.take k) hp (fun z hz' => hz z (List.mem_of_mem_take hz'))
      have hlen := encD_length p (zs.take k)
      have hl2 : (zs.take k).length ≤ k := List.length_take_le _ _
      have hV := enc_varint eb (wrap64 (zs[k] - lastOr p (zs.take k))) vk _ wr hE (I64.wrap _).1 (I64.wrap _).2 (by simp only [List.length_append]; omega)
      have hl3 := lastOr_snoc p zs k hlt
      have HL : Hid (lastOr p (zs.take (k + 1)) = zs[k]) := hl3
      have HD := encD_snoc p zs k hlt
      have HE : Hid (encD p (zs.take (k + 1)) = encD p (zs.take k) ++ Lib.uvarint (Lib.zigzag (wrap64 (zs[k] - lastOr p (zs.take k))))) := HD
      unfold I64 at hzk hq
      subst ha
      clear hcell hl3 HD hE hlen hl2
      generalize lastOr p (zs.take k) = q0 at *
      generalize zs[k] = z0 at *
      go_wp2_with fail
      refine hV.mono ?_
      rintro e w2 ⟨rfl, v2, hE2, hK2, hM2⟩
      have hE3 : Enc w2 eb v2 (l ++ (Lib.uvarint zs.length ++ encD p (zs.take (k + 1)))) := by
        rw [HE.out, ← List.append_assoc, ← List.append_assoc, List.append_assoc l]; exact hE2
      have hW2 := hW.trans ⟨hK2, hM2⟩
      clear hV hE2 hK2 hM2 hW hcx HE
      go_wp2
      go_roundw
      case rel => exact ⟨k + 1, v2, by omega, by go_num, by rw [HL.out], hE3, hW2⟩
      case measure => simp [intOf]; omega
    · obtain rfl : k = zs.length := by omega
      rw [List.take_length] at hE
      go_wp2
      go_end0
      exact ⟨rfl, vk, hE, hW⟩

/-! ### Encoder.KeyList -/
/-- How many elements two lists share from their heads. -/
def cpre : List Int → List Int → Nat
  | a :: r, b :: s => if a = b then cpre r s + 1 else 0
  | _, _ => 0
theorem cpre_is : ∀ (k : Nat) (zs ks : List Int), k ≤ zs.length → k ≤ ks.length → zs.take k = ks.take k → (∀ (h1 : k < zs.length) (h2 : k < ks.length), zs[k] ≠ ks[k]) → cpre zs ks = k
  | 0, zs, ks, _, _, _, hne => by
    match zs, ks, hne with
    | [], _, _ => simp [cpre]
    | _ :: _, [], _ => simp [cpre]
    | a :: r, b :: s, hne => simp only [cpre]; rw [if_neg]; exact hne (by simp) (by simp)
  | k + 1, zs, ks, h1, h2, ht, hne => by
    match zs, ks, h1, h2, ht, hne with
    | a :: r, b :: s, h1, h2, ht, hne =>
      simp only [List.take_succ_cons, List.cons.injEq] at ht
      simp only [cpre]
      rw [if_pos ht.1, cpre_is k r s (by simpa using h1) (by simpa using h2) ht.2 (fun g1 g2 => hne (by simpa using g1) (by simpa using g2))]
/-- The bytes that KeyList writes for zs against the kept list ks. -/
def encKL (ks zs : List Int) : List UInt8 :=
  Lib.uvarint (cpre zs ks) ++ (Lib.uvarint (zs.drop (cpre zs ks)).length ++ encD (lastOr 0 (zs.take (cpre zs ks))) (zs.drop (cpre zs ks)))

/-- The row that a slice lies in is one of int64, without a frozen mark. -/
def Solid (w : World) (v : Value) : Prop := ∀ j, v.ownBlock = some j → ∃ cs, w.heap[j]? = some (.cells cs 2 (0, 0))
theorem Solid.kept {S : Nat → Prop} {w w' : World} {v : Value} (h : Solid w v) (k : Kept S w w') (hS : ∀ j, v.ownBlock = some j → ¬ S j) : Solid w' v := fun j hj => by
  obtain ⟨cs, hb⟩ := h j hj
  exact ⟨cs, k.here hb (hS j hj)⟩

theorem infoPtr : (Tryd.prog.info? 2).map (·.size) = some 1 := by kernel_rfl
theorem ptr_apart {w : World} {g o g' o' : Nat} (hne : g ≠ g') (h1 : ∃ cs, w.heap[g]? = some (.cells cs 2 (0, 0))) (h2 : ∃ cs, w.heap[g']? = some (.cells cs 2 (0, 0))) (q : Nat) :
    (binOp .eql 111 (.pointer (some ⟨g, o, none⟩)) (.pointer (some ⟨g', o', none⟩))).run Tryd.prog (w.drewN q) = .ok (.bool false) (w.drewN q) := by
  obtain ⟨cs, hb⟩ := h1
  obtain ⟨cs', hb'⟩ := h2
  obtain ⟨j, hj, hs⟩ := Option.map_eq_some_iff.1 infoPtr
  exact run_eql_ptr_other (w.drewN q) Tryd.underlying111 hj (by omega) (by intro e; exact hne (by injection e)) hb hb'

theorem sees_drop1 {w : World} {zs : List Int} {g o c K : Nat} (hcell : ∀ j (hj : j < zs.length), w.cell? ⟨g, o + j, none⟩ = some (.int .i64 zs[j])) (hK : K ≤ zs.length) (hc : zs.length ≤ c) : SeesI w (.slice (some ⟨g, o + K, none⟩) (zs.length - K) (c - K)) (zs.drop K) := by
  refine .inr ⟨g, o + K, c - K, by rw [List.length_drop], by rw [List.length_drop]; omega, fun j hj => ?_⟩
  rw [List.length_drop] at hj
  have := hcell (K + j) (by omega)
  rw [← Nat.add_assoc] at this
  rw [this]
  simp
theorem sees_drop2 {w : World} {zs : List Int} {a : Addr} {c K : Nat} (hK : zs.length ≤ K) : SeesI w (.slice (some a) (zs.length - K) c) (zs.drop K) := by
  have e : zs.length - K = 0 := by omega
  rw [e]
  exact .inl ⟨List.drop_eq_nil_of_le hK, _, c, rfl, fun h => by cases h⟩
theorem encKL_is {ks zs : List Int} {K : Nat} (hK : cpre zs ks = K) (l : List UInt8) (p : Int) (hp : p = lastOr 0 (zs.take K)) : (l ++ Lib.uvarint K) ++ (Lib.uvarint (zs.drop K).length ++ encD p (zs.drop K)) = l ++ encKL ks zs := by
  unfold encKL; rw [hK, hp, List.append_assoc]

set_option maxRecDepth 100000 in
set_option maxHeartbeats 8000000 in
theorem enc_keyList (eb kb : Nat) (r : Option Nat) (most : Int) (M : List (ByteArray × Value)) (key : ByteArray) (v lv : Value) (l : List UInt8) (zs ks : List Int) (w : World)
    (h : Enc w eb v l) (hk : KLs w kb r most M) (hu : SeesI w ((kget M key).getD (.slice none 0 0)) ks) (hs : SeesI w lv zs) (hz : ∀ z ∈ zs, I64 z)
    (hsep : ∀ j, lv.ownBlock = some j → j ≠ eb ∧ v.ownBlock ≠ some j) (hS1 : Solid w lv) (hS2 : Solid w ((kget M key).getD (.slice none 0 0))) (hsep2 : ∀ j, lv.ownBlock = some j → ((kget M key).getD (.slice none 0 0)).ownBlock ≠ some j)
    (hlk : ks.length ≤ 4398046511104) (hlim : l.length + 10 * zs.length + 40 ≤ 140737488355328) :
    Calls Tryd.prog 52 #[.pointer (some ⟨eb, 0, none⟩), .pointer (some ⟨kb, 0, none⟩), .string key, lv] w fun e w' => e = .returned (.tuple #[]) ∧ ∃ v', Enc w' eb v' (l ++ encKL ks zs) ∧ Wrote eb w w' v v' := by
  obtain ⟨hb, hm⟩ := hk
  have c1 : w.cell? ⟨kb, 1, none⟩ = some (.map r) := by rw [blk_cell hb]; rfl
  have hlook : (Instr.lookup 48 (.map r) (.string key) false).run Tryd.prog w = .ok ((kget M key).getD (.slice none 0 0)) w := by
    rcases hm with ⟨rfl, rfl⟩ | ⟨mb, rfl, hM⟩
    · exact (run_lookup_nil Tryd.underlying48 Tryd.underlying9 (zeroI64s w) key).2
    · exact (run_lookup hM Tryd.underlying48 Tryd.underlying9 (zeroI64s w) key).2
  generalize (kget M key).getD (.slice none 0 0) = u at *
  clear hb hm
  have HS := hs
  obtain ⟨a0, c0, rfl, hn0, hX⟩ := hs.form
  obtain ⟨a1, c1', rfl, hn1, hY⟩ := hu.form
  have HU : Hid (SeesI w (.slice a1 ks.length c1') ks) := hu
  have HSS : Hid (SeesI w (.slice a0 zs.length c0) zs) := HS
  clear hu hs HS
  have HY : Hid (0 < ks.length → ∃ g o, a1 = some ⟨g, o, none⟩ ∧ ks.length ≤ c1' ∧ ∀ j (hj : j < ks.length), w.cell? ⟨g, o + j, none⟩ = some (.int .i64 ks[j])) := hY
  have hl1 : zs.length ≤ 14073748835532 := by omega
  clear hY
  by_cases hz0 : 0 < zs.length
  · obtain ⟨g0, o0, e0, hc0, hcell0⟩ := hX hz0
    have HC0 : Hid (∀ j (hj : j < zs.length), w.cell? ⟨g0, o0 + j, none⟩ = some (.int .i64 zs[j])) := hcell0
    clear hX hcell0
    obtain ⟨s1, s2⟩ := hsep g0 (by rw [e0]; rfl)
    have hg0 : g0 < w.heap.size := by
      obtain ⟨cs, hb⟩ := hS1 g0 (by rw [e0]; rfl)
      exact lt_of_block hb
    -- what is read of the list behind a write
    have HC1 : Hid (∀ w1 v1, Wrote eb w w1 v v1 → ∀ j (hj : j < zs.length), w1.cell? ⟨g0, o0 + j, none⟩ = some (.int .i64 zs[j])) := fun w1 v1 hW j hj =>
      hW.1.cell (HC0.out j hj) (by rintro (e | e); exact s1 e; exact s2 e)
    have hpp : 0 < ks.length → ∀ (g1 o1 : Nat), a1 = some ⟨g1, o1, none⟩ → ∀ q, (binOp .eql 111 (.pointer (some ⟨g0, o0, none⟩)) (.pointer (some ⟨g1, o1, none⟩))).run Tryd.prog (w.drewN q) = .ok (.bool false) (w.drewN q) := fun _ g1 o1 e1 =>
      ptr_apart (by intro e; exact hsep2 g0 (by rw [e0]; rfl) (by rw [e1, e]; rfl)) (hS1 g0 (by rw [e0]; rfl)) (hS2 g1 (by rw [e1]; rfl))
    subst e0
    clear hsep hS1 hS2 hsep2 hn0 HSS HU
    by_cases hk0 : 0 < ks.length
    case' pos =>
      obtain ⟨g1, o1, e1, hc1, hcell1⟩ := HY.out hk0
      have hp := hpp hk0 g1 o1 e1
      have HC2 : Hid (∀ j (hj : j < ks.length), w.cell? ⟨g1, o1 + j, none⟩ = some (.int .i64 ks[j])) := hcell1
      clear hpp HY hcell1
      subst e1
    case' neg =>
      have hd : decide (0 < (ks.length : Int)) = false := decide_eq_false (by omega)
      have HC2 : Hid (∀ j (hj : j < ks.length), w.cell? ⟨0, 0 + j, none⟩ = some (.int .i64 ks[j])) := fun j hj => absurd hj (by omega)
      have hp : True := trivial
      clear hpp HY
    all_goals
      go_enter Tryd.func52, Tryd.ntmps52
      go_wp2
      go_quiet (fail)
      clear hp
      go_wp2
      go_loopw [9] (fun i wr => ∃ k q : Nat, k ≤ zs.length ∧ k ≤ ks.length ∧ i = .int .i64 k ∧ wr = w.drewN q ∧ Hid (zs.take k = ks.take k)) (fun i _ => zs.length - (intOf i).toNat)
      case atStart => exact ⟨0, _, Nat.zero_le _, Nat.zero_le _, rfl, rfl, rfl⟩
      case round =>
        obtain ⟨k, q, hk1, hk2, rfl, rfl, HT⟩ := hrel
        by_cases hgo : ∃ (h1 : k < zs.length) (h2 : k < ks.length), zs[k] = ks[k]
        · obtain ⟨h1, h2, hxy⟩ := hgo
          have cx := HC0.out k h1
          have cy := HC2.out k h2
          have HT2 : Hid (zs.take (k + 1) = ks.take (k + 1)) := take_step zs ks k h1 h2 HT.out hxy
          rw [← hxy] at cy
          clear HT hxy
          have hkk : 0 < ks.length := by omega
          first
            | (exfalso; omega)
            | (go_wp2_with fail
               go_quiet (fail)
               go_wp2
               go_roundw
               case rel => exact ⟨k + 1, _, by omega, by omega, by go_num, rfl, HT2⟩
               case measure => simp [intOf]; omega)
        · have HC : Hid (cpre zs ks = k) := cpre_is k zs ks hk1 hk2 HT.out (fun h1 h2 e => hgo ⟨h1, h2, e⟩)
          have HG : Hid (∀ (h1 : k < zs.length) (h2 : k < ks.length), zs[k] ≠ ks[k]) := fun h1 h2 e => hgo ⟨h1, h2, e⟩
          clear HT hgo
          go_wp2_with fail
          by_cases hlt : k < zs.length
          case' neg =>
            have hd1 : decide ((k : Int) < (zs.length : Int)) = false := decide_eq_false (by omega)
            go_quiet (fail)
          case' pos =>
            by_cases hlt2 : k < ks.length
            case' neg =>
              have hd2 : decide ((k : Int) < (ks.length : Int)) = false := decide_eq_false (by omega)
              go_quiet (fail)
            case' pos =>
              have cx := HC0.out k hlt
              have cy := HC2.out k hlt2
              have hne : (zs[k] == ks[k]) = false := beq_eq_false_iff_ne.2 (HG.out hlt hlt2)
              first
                | (exfalso; omega)
                | go_quiet (fail)
          all_goals
            go_wp2_with fail
            refine (enc_uvarint eb k v l _ (by exact h.drewN _) (by omega) (by omega)).mono ?_
            rintro e w1 ⟨rfl, v1, hE1, hK1, hM1⟩
            have hW1 : Wrote eb w w1 v v1 := ((Wrote.refl eb w v).drewN _).trans ⟨hK1, hM1⟩
            have HCW := HC1.out w1 v1 hW1
            clear hK1 hM1
            rcases Nat.eq_zero_or_pos k with hk9 | hk9
            · subst hk9
              have HE := encKL_is HC.out l 0 rfl
              have HEE : Hid ((l ++ Lib.uvarint 0) ++ (Lib.uvarint (zs.drop 0).length ++ encD 0 (zs.drop 0)) = l ++ encKL ks zs) := HE
              clear HE
              go_wp2_with fail
              all_goals
                refine (enc_ints eb v1 _ _ (zs.drop 0) _ w1 hE1 (sees_drop1 (K := 0) HCW (Nat.zero_le _) hc0) (fun z hz' => hz z (List.mem_of_mem_drop hz')) (by unfold I64; omega) ?qsep ?qlim).mono ?qnext
                case qsep => intro j hj; cases hj; exact ⟨s1, hW1.off hg0 s2⟩
                case qlim => have := Lib.uvarint_length64 (x := 0) (by omega); simp only [List.length_append, List.length_drop]; omega
                case qnext =>
                  rintro e w2 ⟨rfl, v2, hE2, hW2⟩
                  rw [HEE.out] at hE2
                  clear hE1 HCW
                  go_wp2
                  go_end0
                  exact ⟨rfl, v2, hE2, hW1.trans hW2⟩
            · obtain ⟨k', rfl⟩ : ∃ k', k = k' + 1 := ⟨k - 1, by omega⟩
              first
                | (exfalso; omega)
                | (have cz := HCW k' (by omega)
                   have HEE : Hid ((l ++ Lib.uvarint (k' + 1)) ++ (Lib.uvarint (zs.drop (k' + 1)).length ++ encD (zs[k']'(by omega)) (zs.drop (k' + 1))) = l ++ encKL ks zs) := encKL_is HC.out l _ (lastOr_snoc 0 zs k' (by omega)).symm
                   have hz9 := hz (zs[k']'(by omega)) (List.getElem_mem _)
                   go_wp2_with fail
                   all_goals
                     refine (enc_ints eb v1 _ _ (zs.drop (k' + 1)) _ w1 hE1 ?qs (fun z hz' => hz z (List.mem_of_mem_drop hz')) hz9 ?qsep ?qlim).mono ?qnext
                     case qs => first | exact sees_drop1 HCW (by omega) hc0 | exact sees_drop2 (by omega)
                     case qsep => intro j hj; cases hj; exact ⟨s1, hW1.off hg0 s2⟩
                     case qlim => have := Lib.uvarint_length64 (x := k' + 1) (by omega); simp only [List.length_append, List.length_drop]; omega
                     case qnext =>
                       rintro e w2 ⟨rfl, v2, hE2, hW2⟩
                       rw [HEE.out] at hE2
                       clear hE1 HCW
                       go_wp2
                       go_end0
                       exact ⟨rfl, v2, hE2, hW1.trans hW2⟩)
  · have hzn : zs = [] := List.eq_nil_of_length_eq_zero (by omega)
    subst hzn
    have HEE : Hid ((l ++ Lib.uvarint 0) ++ (Lib.uvarint (([] : List Int).drop 0).length ++ encD 0 (([] : List Int).drop 0)) = l ++ encKL ks []) := encKL_is (by simp [cpre]) l 0 rfl
    have HS1 : Hid (Solid w (.slice a0 0 c0)) := hS1
    clear hX HSS HU HY hS1 hS2 hsep2 hz0 hl1
    go_enter Tryd.func52, Tryd.ntmps52
    go_wp2
    go_quiet (fail)
    go_wp2
    refine wp_loop_rounds 1 ?_
    rw [rounds_succ]
    go_wp2
    go_quiet (fail)
    go_wp2_with fail
    refine (enc_uvarint eb 0 v l _ (by exact h.drewN _) (by omega) (by omega)).mono ?_
    rintro e w1 ⟨rfl, v1, hE1, hK1, hM1⟩
    have hW1 : Wrote eb w w1 v v1 := ((Wrote.refl eb w v).drewN _).trans ⟨hK1, hM1⟩
    clear hK1 hM1
    go_wp2_with fail
    refine (enc_ints eb v1 _ _ [] _ w1 hE1 (.inl ⟨rfl, a0, c0, rfl, hn0⟩) (fun z hz' => by cases hz') (by unfold I64; omega) ?qsep ?qlim).mono ?qnext
    case qsep =>
      intro j hj
      obtain ⟨s1, s2⟩ := hsep j hj
      obtain ⟨cs, hb⟩ := HS1.out j hj
      exact ⟨s1, hW1.off (lt_of_block hb) s2⟩
    case qlim => have := Lib.uvarint_length64 (x := 0) (by omega); simp only [List.length_append, List.length_nil]; omega
    case qnext =>
      rintro e w2 ⟨rfl, v2, hE2, hW2⟩
      have hE3 : Enc w2 eb v2 (l ++ encKL ks []) := HEE.out ▸ hE2
      clear hE1 hE2
      go_wp2
      go_end0
      exact ⟨rfl, v2, hE3, hW1.trans hW2⟩

end Go.Proofs.Qxb6612988aDoor

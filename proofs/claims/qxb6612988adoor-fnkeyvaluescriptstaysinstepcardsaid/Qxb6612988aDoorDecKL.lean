/-
  Decoder.KeyList WITHOUT grow, by its contract.
-/
import Derived.Test.Qxb6612988aDoorDec
namespace Go.Proofs.Qxb6612988aDoor
open Go.RowKit

/-! ### Plain -/
theorem cpre_le1 (zs ks : List Int) : cpre zs ks ≤ zs.length := by
  induction zs generalizing ks with
  | nil => simp [cpre]
  | cons a r ih =>
    cases ks with
    | nil => simp [cpre]
    | cons b s => simp only [cpre]; split <;> simp; exact ih s
theorem cpre_le2 (zs ks : List Int) : cpre zs ks ≤ ks.length := by
  induction zs generalizing ks with
  | nil => simp [cpre]
  | cons a r ih =>
    cases ks with
    | nil => simp [cpre]
    | cons b s => simp only [cpre]; split <;> simp; exact ih s
theorem cpre_take (zs ks : List Int) : zs.take (cpre zs ks) = ks.take (cpre zs ks) := by
  induction zs generalizing ks with
  | nil => simp [cpre]
  | cons a r ih =>
    cases ks with
    | nil => simp [cpre]
    | cons b s =>
      simp only [cpre]
      split
      · rename_i e; simp [e, ih s]
      · simp
theorem lastOr_take (zs : List Int) (K : Nat) (h0 : 0 < K) (hK : K ≤ zs.length) : lastOr 0 (zs.take K) = zs[K - 1]'(by omega) := by
  obtain ⟨k, rfl⟩ : ∃ k, K = k + 1 := ⟨K - 1, by omega⟩
  exact lastOr_snoc 0 zs k (by omega)
theorem encD_drop (zs : List Int) (k : Nat) (h : k < zs.length) : encD (lastOr 0 (zs.take k)) (zs.drop k) = Lib.uvarint (Lib.zigzag (wrap64 (zs[k] - lastOr 0 (zs.take k)))) ++ encD (lastOr 0 (zs.take (k + 1))) (zs.drop (k + 1)) := by
  rw [List.drop_eq_getElem_cons h, lastOr_snoc 0 zs k h]
  rfl
theorem undiff (z p : Int) (hz : I64 z) : IntKind.i64.wrap (p + wrap64 (z - p)) = z := by
  unfold I64 at hz
  rw [IntKind.wrap_i64]
  unfold wrap64
  omega

theorem make_lc (K M : Nat) (h : K + M ≤ 2097152) (w : World) : (Instr.makeSlice 42 (.int .u64 K) (.int .i64 ((K : Int) + (M : Int)))).run Tryd.prog w = .ok (.slice (some ⟨w.heap.size, 0, none⟩) K (K + M)) (w.alloc (.cells (madeCells #[.int .i64 0] (K + M)) 2)) := by
  obtain ⟨i, hi, hz, hs, hb⟩ := info_parts infoI64
  have hr := run_make (P := Tryd.prog) w 42 2 i (.int .i64 0) Tryd.underlying42 hi hz .u64 .i64 K ((K : Int) + (M : Int)) (by omega) (by omega) (by rw [hb]; omega) (by omega)
  have e1 : ((K : Int) + (M : Int)).toNat = K + M := by omega
  simp only [Int.toNat_natCast, e1, hs, Nat.mul_one] at hr
  exact hr

theorem Sees.below {w w' : World} {v : Value} {l : List UInt8} (h : Sees w v l) (k : Below w.heap.size w w') : Sees w' v l := by
  rcases h with h | ⟨g, o, c, rfl, hc, hcell⟩
  · exact .inl h
  · exact .inr ⟨g, o, c, rfl, hc, fun j hj => (k.cell (p := ⟨g, o + j, none⟩) (World.block_lt_of_cell? w _ (hcell j hj))).trans (hcell j hj)⟩
theorem Sees.lt {w : World} {v : Value} {l : List UInt8} (h : Sees w v l) (hl : 0 < l.length) : ∀ j, v.ownBlock = some j → j < w.heap.size := by
  intro j hj
  rcases h with ⟨e, _⟩ | ⟨g, o, c, rfl, hc, hcell⟩
  · rw [e] at hl; simp at hl
  · cases hj; exact World.block_lt_of_cell? w ⟨g, o + 0, none⟩ (hcell 0 hl)
theorem take_get {zs ks : List Int} {K j : Nat} (h : zs.take K = ks.take K) (hj : j < K) : zs[j]? = ks[j]? := by
  have := congrArg (fun l : List Int => l[j]?) h
  simpa [List.getElem?_take, hj] using this

/-- The list that a KeyList reads. -/
def GotL (w w' : World) (lv : Value) (zs : List Int) : Prop := Holds w' (fun j => w.heap.size ≤ j) lv zs ∧ (zs = [] → lv = .slice none 0 0) ∧ (zs ≠ [] → lv.ownBlock ≠ none)

theorem got_own {w w' : World} {lv : Value} {zs : List Int} (h : w'.ownsRow 0 2 1 lv zs.length (zs.map (Value.int .i64))) (hz : ∀ z ∈ zs, I64 z) (hl : zs.length ≤ 1048576) (hb : ∀ j, lv.ownBlock = some j → w.heap.size ≤ j) (hne : zs ≠ []) : GotL w w' lv zs := by
  rcases h.2 with ⟨_, h0⟩ | ⟨g, cap, cur, rfl, _, hg, hn, hm, hs, ht⟩
  · exact absurd (List.eq_nil_of_length_eq_zero h0) hne
  · refine ⟨⟨.inr ⟨g, 0, cap, rfl, hn, fun j hj => ?_⟩, fun j hj => ?_, hb, hz, hl⟩, fun e => absurd e hne, fun _ => by simp [Value.ownBlock]⟩
    · rw [blk_cell hg, Nat.zero_add, ← Array.getElem?_toList]
      have := congrArg (fun l : List Value => l[j]?) ht
      simp only [Nat.mul_one, List.getElem?_take, hj, if_true, List.getElem?_map] at this
      rw [this]
      simp [hj]
    · cases hj; exact ⟨_, hg⟩

set_option maxRecDepth 100000 in
set_option maxHeartbeats 8000000 in
theorem dec_keyListK (db kb : Nat) (mr : Option Nat) (most : Int) (MM : List (ByteArray × Value)) (ks : List Int) (F : Nat → Prop) (key : ByteArray) (v err : Value) (r : List UInt8) (zs : List Int) (w : World)
    (hd : Dec w db v err) (h1 : KLs w kb mr most MM) (hu : Holds w F ((kget MM key).getD (.slice none 0 0)) ks) (hv : Sees w v (encKL ks zs ++ r)) (hne : v.ownBlock ≠ some db) (hF : ∀ j, F j → j ≠ db) (hz : ∀ z ∈ zs, I64 z) (hzl : zs.length ≤ 1048576) (hlim : (encKL ks zs ++ r).length ≤ 1073741824) :
    Calls Tryd.prog 26 #[.pointer (some ⟨db, 0, none⟩), .pointer (some ⟨kb, 0, none⟩), .string key, .bool false] w fun e w' => ∃ lv, e = .returned lv ∧ GotL w w' lv zs ∧ ∃ v', Dec w' db v' err ∧ Sees w' v' r ∧ v'.ownBlock = v.ownBlock ∧ Kept (fun k => k = db) w w' := by
  obtain ⟨hb, hm⟩ := h1
  have c1 : w.cell? ⟨kb, 1, none⟩ = some (.map mr) := by rw [blk_cell hb]; rfl
  have hlook : (Instr.lookup 48 (.map mr) (.string key) false).run Tryd.prog w = .ok ((kget MM key).getD (.slice none 0 0)) w := by
    rcases hm with ⟨rfl, rfl⟩ | ⟨mb, rfl, hM⟩
    · exact (run_lookup_nil Tryd.underlying48 Tryd.underlying9 (zeroI64s w) key).2
    · exact (run_lookup hM Tryd.underlying48 Tryd.underlying9 (zeroI64s w) key).2
  generalize (kget MM key).getD (.slice none 0 0) = u at *
  clear hb hm
  obtain ⟨a1, c1', eu, hn1, hY⟩ := hu.sees.form
  have hkl := hu.len
  have hu2 := hu.sees
  have hfoot := hu.foot
  clear hu
  -- the numbers
  have hK1 := cpre_le1 zs ks
  have hK2 := cpre_le2 zs ks
  have hKt := cpre_take zs ks
  have hKc : cpre zs ks ≤ c1' := by
    rcases Nat.eq_zero_or_pos ks.length with h0 | h0
    · omega
    · obtain ⟨_, _, _, hc, _⟩ := hY h0; omega
  have hbytes : encKL ks zs ++ r = Lib.uvarint (cpre zs ks) ++ (Lib.uvarint (zs.drop (cpre zs ks)).length ++ (encD (lastOr 0 (zs.take (cpre zs ks))) (zs.drop (cpre zs ks)) ++ r)) := by unfold encKL; simp only [List.append_assoc]
  rw [hbytes] at hv hlim
  clear hbytes
  have hvlt := hv.lt (by have := Lib.uvarint_pos (cpre zs ks); rw [List.length_append]; omega)
  have HVLT : Hid (∀ j, v.ownBlock = some j → j < w.heap.size) := hvlt
  clear hvlt
  generalize cpre zs ks = K at *
  have hge := encD_length_ge (lastOr 0 (zs.take K)) (zs.drop K)
  have hU := decu_some db K v err _ w hd (by omega) hv (by omega) hne
  obtain ⟨M, hM⟩ : ∃ M, M = (zs.drop K).length := ⟨_, rfl⟩
  have hMl : M = zs.length - K := by rw [hM]; exact List.length_drop
  have HM : Hid (zs.length = K + M) := by unfold Hid; omega
  have hM2 : M ≤ 1048576 := by omega
  have hK3 : K ≤ 1048576 := by omega
  have hC : ∀ w1 v1, Dec w1 db v1 err → Sees w1 v1 (Lib.uvarint M ++ (encD (lastOr 0 (zs.take K)) (zs.drop K) ++ r)) → v1.ownBlock = v.ownBlock → _ := fun w1 v1 g1 g2 g3 => count_some db M v1 err _ w1 g1 (by rw [List.length_append]; omega) g2 (by rw [← hM] at hlim; simp only [List.length_append] at hlim ⊢; omega) (by rw [g3]; exact hne)
  rw [← hM] at hU
  have HC : Hid (∀ w1 v1, Dec w1 db v1 err → Sees w1 v1 (Lib.uvarint M ++ (encD (lastOr 0 (zs.take K)) (zs.drop K) ++ r)) → v1.ownBlock = v.ownBlock → Calls Tryd.prog 44 #[.pointer (some ⟨db, 0, none⟩)] w1 fun e w' => e = .returned (.int .i64 M) ∧ ∃ v', Dec w' db v' err ∧ Sees w' v' (encD (lastOr 0 (zs.take K)) (zs.drop K) ++ r) ∧ v'.ownBlock = v1.ownBlock ∧ Kept (fun k => k = db) w1 w') := hC
  have HL : Hid ((encD (lastOr 0 (zs.take K)) (zs.drop K) ++ r).length ≤ 1073741824) := by unfold Hid; simp only [List.length_append] at hlim ⊢; omega
  clear hC hge hMl hM hv hlim hd
  subst eu
  go_enter Tryd.func26, Tryd.ntmps26
  go_wp2_with fail
  refine hU.mono ?_
  rintro e w1 ⟨rfl, v1, hD1, hS1, hO1, hk1⟩
  clear hU
  have hC1 := HC.out w1 v1 hD1 hS1 hO1
  clear hD1 hS1
  go_wp2_with fail
  refine hC1.mono ?_
  rintro e w2 ⟨rfl, v2, hD2, hS2, hO2, hk2⟩
  rw [hO1] at hO2
  have hk12 : Kept (fun k => k = db) w w2 := hk1.trans hk2 (fun _ _ h => h)
  clear hC1 HC hk1 hk2 hO1
  by_cases hz0 : zs = []
  · subst hz0
    have hKM : K = 0 ∧ M = 0 := by have := HM.out; simp at this; omega
    obtain ⟨rfl, rfl⟩ := hKM
    have hS2' : Sees w2 v2 r := by simpa [encD] using hS2
    clear HM HL hS2
    go_wp2
    go_ret
    exact ⟨_, rfl, ⟨Holds.nil _ _, fun _ => rfl, fun h => absurd rfl h⟩, v2, hD2, hS2', hO2, hk12⟩
  · have HY : Hid (0 < ks.length → ∃ g o, a1 = some ⟨g, o, none⟩ ∧ ks.length ≤ c1' ∧ ∀ j (hj : j < ks.length), w.cell? ⟨g, o + j, none⟩ = some (.int .i64 ks[j])) := hY
    have HKT : Hid (zs.take K = ks.take K) := hKt
    have HF : Hid (∀ j, (Value.slice a1 ks.length c1').ownBlock = some j → j ≠ db) := fun j hj => hF j (hfoot j hj)
    have HPOS : Hid (0 < K + M) := by have := HM.out; have := List.length_pos_iff.2 hz0; unfold Hid; omega
    have hmk := make_lc K M (by omega)
    have hrow : (w2.alloc (.cells (madeCells #[.int .i64 0] (K + M)) 2)).heap[w2.heap.size]? = some (.cells (List.replicate (K + M) (Value.int .i64 0)).toArray 2 (0, 0)) := by
      rw [heap_alloc_new, ← toList_madeCells_one]
    obtain ⟨cs, hcs⟩ : ∃ cs, cs = (zs.take K).map (Value.int .i64) := ⟨_, rfl⟩
    have hcl : cs.length = K := by rw [hcs]; simp; omega
    have Hcs : Hid (cs = (zs.take K).map (Value.int .i64)) := hcs
    have hdb := lt_of_block hD2
    have hwr0 : IntKind.i64.wrap ((K : Int) + (M : Int)) = (K : Int) + (M : Int) := by rw [IntKind.wrap_i64]; omega
    clear hcs hY hKt hF hfoot hlook c1 hu2
    have hsz2 := hk12.size
    have HB2 : Hid (∀ w3 l p, Hid (w3.heap[w2.heap.size]? = some (.cells (splice (List.replicate (K + M) (Value.int .i64 0)) 0 cs).toArray 2 (0, 0))) → Below w2.heap.size w2 w3 → l = Value.slice (some ⟨w2.heap.size, 0, none⟩) K (K + M) → p = Value.int .i64 (lastOr 0 (zs.take K)) →
        ∃ (j : Nat) (dv lv : Value), l = lv ∧ w2.heap.size ≤ w3.heap.size ∧ j ≤ M ∧ Value.int .i64 0 = .int .i64 j ∧ p = .int .i64 (lastOr 0 (zs.take (K + j))) ∧ w3.ownsRow 0 2 1 lv (K + j) ((zs.take (K + j)).map (Value.int .i64)) ∧ (∀ b, lv.ownBlock = some b → w2.heap.size ≤ b) ∧ Dec w3 db dv err ∧ Sees w3 dv (encD (lastOr 0 (zs.take (K + j))) (zs.drop (K + j)) ++ r) ∧ dv.ownBlock = v.ownBlock ∧ Kept (fun k => k = db) w w3) := by
      intro w3 l p hR hB3 el ep
      subst el
      refine ⟨0, v2, _, rfl, hB3.size, Nat.zero_le _, rfl, by simpa using ep, ?_, ?_, ?_, ?_, hO2, ?_⟩
      · rw [Nat.add_zero, ← Hcs.out]
        refine ⟨by rw [hcl, Nat.mul_one], .inr ⟨w2.heap.size, K + M, _, rfl, Nat.zero_le _, hR.out, by omega, by unfold maxLen; omega, ?_, ?_⟩⟩
        · simp [splice, hcl]
        · simp [splice, hcl]
      · intro b hb; cases hb; exact Nat.le_refl _
      · exact hD2.kept (Kept.ofBelow hB3) (by omega)
      · simpa using hS2.below hB3
      · exact hk12.trans (Kept.ofBelow hB3) (fun i hi h => by omega)
    have HCP : Hid (0 < K → ∃ ad, a1 = some ad ∧ ∀ (j : Nat) (x : Value), cs[j]? = some x → (w2.alloc (.cells (madeCells #[.int .i64 0] (K + M)) 2)).cell? (ad.add j) = some x) := by
      intro hp
      obtain ⟨g, o, e, hc, hcell⟩ := HY.out (by omega)
      refine ⟨⟨g, o, none⟩, e, fun j x hj => ?_⟩
      rw [Hcs.out] at hj
      have hjl : j < K := by
        have := (List.getElem?_eq_some_iff.1 hj).1
        simp at this
        omega
      have hcj := hk12.cell (hcell j (by omega)) (HF.out g (by rw [e]; rfl))
      rw [Go.WideShapes.add_plain, World.cell?_alloc_past _ _ _ (World.block_lt_of_cell? w2 _ hcj), hcj]
      have ht := take_get HKT.out hjl
      rw [List.getElem?_map, List.getElem?_take, if_pos hjl, ht, List.getElem?_eq_getElem (by omega)] at hj
      simpa using hj
    have HQ4 : Hid (∀ x ∈ cs, x.oneCell' = true) := by
      intro x hx
      rw [Hcs.out] at hx
      obtain ⟨z, _, rfl⟩ := List.mem_map.1 hx
      rfl
    have HB0 : Hid (Below w2.heap.size w2 (w2.alloc (.cells (madeCells #[.int .i64 0] (K + M)) 2))) := (Below.refl _ _).alloc (Nat.le_refl _) _
    have HRound : Hid (∀ (j : Nat), j < M → ∃ z p x, zs[K + j]? = some z ∧ I64 x ∧ lastOr 0 (zs.take (K + j)) = p ∧ lastOr 0 (zs.take (K + j + 1)) = z ∧ IntKind.i64.wrap (p + x) = z ∧ encD p (zs.drop (K + j)) = Lib.uvarint (Lib.zigzag x) ++ encD z (zs.drop (K + j + 1)) ∧ zs.take (K + j + 1) = zs.take (K + j) ++ [z]) := by
      intro j hj
      have hlt : K + j < zs.length := by have := HM.out; omega
      refine ⟨zs[K + j], _, wrap64 (zs[K + j] - lastOr 0 (zs.take (K + j))), List.getElem?_eq_getElem hlt, I64.wrap _, rfl, lastOr_snoc 0 zs (K + j) hlt, undiff _ _ (hz _ (List.getElem_mem hlt)), ?_, List.take_succ_eq_append_getElem hlt⟩
      have := encD_drop zs (K + j) hlt
      rw [lastOr_snoc 0 zs (K + j) hlt] at this
      exact this
    have HLEN : Hid (∀ j, j ≤ M → (encD (lastOr 0 (zs.take (K + j))) (zs.drop (K + j)) ++ r).length ≤ 2147483648) := by
      intro j hj
      have h1 := encD_length (lastOr 0 (zs.take (K + j))) (zs.drop (K + j))
      have h2 := HL.out
      have h3 : (zs.drop (K + j)).length ≤ zs.length := by simp
      rw [List.length_append] at h2 ⊢
      omega
    clear HL HKT HY HF hD2 hS2 hO2
    by_cases hK0 : 0 < K
    · have hKb : ((K : Int) == 0) = false := by rw [beq_eq_false_iff_ne]; omega
      have hMb : True := trivial
      have hKw : IntKind.u64.wrap ((K : Int) - 1) = ((K - 1 : Nat) : Int) := by rw [IntKind.wrap_u64]; omega
      have HP : Hid (∀ w3 : World, Hid (w3.heap[w2.heap.size]? = some (.cells (splice (List.replicate (K + M) (Value.int .i64 0)) 0 cs).toArray 2 (0, 0))) → w3.cell? ⟨w2.heap.size, K - 1, none⟩ = some (.int .i64 (lastOr 0 (zs.take K)))) := by
        intro w3 hR
        rw [blk_cell hR.out, lastOr_take zs K (by omega) hK1]
        simp [splice, Hcs.out]
        rw [List.getElem?_append_left (by simp; omega)]
        rw [List.getElem?_take, if_pos (by omega), List.getElem?_map, List.getElem?_eq_getElem (by omega)]
        rfl
      go_wp2_with (refine wpList_copy_splice rfl (.tmp 70) (.tmp 71) 42 42 rfl 2 Tryd.underlying42 sizeI64 _ _ _ _ _ _ rfl rfl w2.heap.size 0 (List.replicate (K + M) (.int .i64 0)) 2 hrow cs ?q1 ?q2 ?q3 ?q4 w2.heap.size w2 ?q5 ?q6 ?q7)
      case q1 => rw [hcl]; exact (Nat.min_eq_right hK2).symm
      case q2 => exact HCP.out hK0
      case q3 => simp [hcl]
      case q4 => exact HQ4.out
      case q5 => exact HB0.out
      case q6 => exact Nat.le_refl _
      case q7 =>
        intro w3 hR hB3
        have hcK := HP.out w3 hR
        have hst := HB2.out w3 _ _ hR hB3 rfl rfl
        obtain ⟨i0, hi, hz00, hz1, hz2⟩ := info_parts infoI64
        clear hR hB3 hmk hrow HB2 HCP HB0 HQ4 HP
        go_wp2
        go_loopw [12, 14, 81] (fun l p i wr => ∃ (j : Nat) (dv lv : Value), l = lv ∧ w2.heap.size ≤ wr.heap.size ∧ j ≤ M ∧ i = .int .i64 j ∧ p = .int .i64 (lastOr 0 (zs.take (K + j))) ∧ wr.ownsRow 0 2 1 lv (K + j) ((zs.take (K + j)).map (Value.int .i64)) ∧ (∀ b, lv.ownBlock = some b → w2.heap.size ≤ b) ∧ Dec wr db dv err ∧ Sees wr dv (encD (lastOr 0 (zs.take (K + j))) (zs.drop (K + j)) ++ r) ∧ dv.ownBlock = v.ownBlock ∧ Kept (fun k => k = db) w wr)
          (fun _ _ i _ => M - (intOf i).toNat)
        case atStart => exact hst
        case round =>
          clear hst hcK
          obtain ⟨j, dv, l, el, hsz3, hj, rfl, rfl, hown, hlb, hD, hS, hO, hKp⟩ := hrel
          replace el := el.symm
          subst el
          by_cases hjm : j < M
          · obtain ⟨z, p, x, hzj, hx, ep, ep1, hun, eD, eT⟩ := HRound.out j hjm
            have hlen := HLEN.out j hj
            rw [ep] at hS hlen ⊢
            rw [eD, List.append_assoc] at hS hlen
            have hV := decv_some db x dv err _ wr hD hx hS (by omega) (by rw [hO]; exact hne)
            have HZ : Hid (lastOr 0 (zs.take (K + j + 1)) = z) := ep1
            have HT : Hid (zs.take (K + j + 1) = zs.take (K + j) ++ [z]) := eT
            clear hD hS hlen ep ep1 eD eT hzj hx
            go_wp2_with fail
            refine hV.mono ?_
            rintro e w5 ⟨rfl, v5, hD5, hS5, hO5, hk5⟩
            clear hV
            have ho5 := hk5.owns hown (fun b hb e => by have := hlb b hb; omega)
            have hKp5 := hKp.trans hk5 (fun _ _ h => h)
            have hs5 := hk5.size
            rw [hO] at hO5
            go_wp2_with (at_builtin; refine wpList_append_own_at _ rfl _ _ 42 rfl 0 2 i0 (.int .i64 0) 1 8 Tryd.underlying42 hi hz00 hz1 hz2 rfl (by decide) _ _ _ rfl (ho5.alloc _) ⟨w5.heap.size, 0, none⟩ 1 1 [Value.int .i64 z] rfl rfl ?c1 ?c2 ?c3 ?c4 ?c5 ?_)
            case c1 =>
              intro i u hi
              match i, hi with
              | 0, hi => simp at hi; subst hi; simp [Addr.add]
            case c2 => intro u hu; simp at hu; subst hu; rfl
            case c3 => unfold maxLen; omega
            case c4 => omega
            case c5 => exact Nat.zero_le _
            intro v6 w6 hown6 hgrow _ hat
            have hgk : Kept (fun b => l.ownBlock = some b) w5 w6 := ((Kept.refl _ w5).alloc _).grown hgrow (fun b hb _ => hb)
            have hldb : ∀ b, l.ownBlock = some b → b ≠ db := fun b hb e => by have := hlb b hb; omega
            have hD6 := hD5.kept hgk (fun e => hldb db e rfl)
            have hS6 := hS5.kept hgk (fun b hb e => by rw [hO5] at hb; have := HVLT.out b hb; have := hlb b e; omega)
            have hKp6 : Kept (fun k => k = db) w w6 := hKp5.trans hgk (fun b hb e => by have := hlb b e; omega)
            have hsz6 : w2.heap.size ≤ w6.heap.size := by have := hgk.size; omega
            have hlb6 : ∀ b, v6.ownBlock = some b → w2.heap.size ≤ b := fun b hb => by
              rcases hat with e | e
              · exact hlb b (e ▸ hb)
              · rw [e] at hb; cases hb; have := hKp.size; have := hs5; simp; omega
            have hown6' : w6.ownsRow 0 2 1 v6 (K + (j + 1)) ((zs.take (K + (j + 1))).map (Value.int .i64)) := by
              rw [← Nat.add_assoc, HT.out, List.map_append, List.map_take]; exact hown6
            have HE : Hid (lastOr 0 (zs.take (K + (j + 1))) = z) := by rw [← Nat.add_assoc]; exact HZ.out
            clear hgrow hat hown hown6 ho5 hD5 hS5 hk5 hgk hKp hKp5 hi hz00 hz1 hz2 HT HZ
            go_wp2
            go_roundw
            case rel => exact ⟨j + 1, v5, _, rfl, hsz6, by omega, by go_num, by rw [HE.out], hown6', hlb6, hD6, by rw [HE.out, ← Nat.add_assoc]; exact hS6, hO5, hKp6⟩
            case measure => simp [intOf]; omega
          · have ej : j = M := by omega
            have HJ : Hid (j = M) := ej
            have hfin : GotL w wr l zs ∧ ∃ v', Dec wr db v' err ∧ Sees wr v' r ∧ v'.ownBlock = v.ownBlock ∧ Kept (fun k => k = db) w wr := by
              have eKj : K + j = zs.length := by have := HM.out; omega
              rw [eKj, List.take_length] at hown
              rw [eKj, List.drop_length] at hS
              refine ⟨got_own hown hz hzl (fun b hb => by have := hlb b hb; omega) hz0, dv, hD, by simpa [encD] using hS, hO, hKp⟩
            clear ej hown hD hS hi hz00 hz1 hz2
            go_wp2
            go_ret
            exact ⟨_, rfl, hfin⟩
    · have hKb : ((K : Int) == 0) = true := by rw [beq_iff_eq]; omega
      have hMb : ((M : Int) == 0) = false := by have := HPOS.out; rw [beq_eq_false_iff_ne]; omega
      have hKw : True := trivial
      have HP : Hid (∀ w3 : World, Hid (w3.heap[w2.heap.size]? = some (.cells (splice (List.replicate (K + M) (Value.int .i64 0)) 0 cs).toArray 2 (0, 0))) → True) := fun _ _ => trivial
      have HP0 : Hid (Value.int .i64 0 = Value.int .i64 (lastOr 0 (zs.take K))) := by
        have e : K = 0 := by omega
        rw [e]; rfl
      go_wp2_with (refine wpList_copy_splice rfl (.tmp 70) (.tmp 71) 42 42 rfl 2 Tryd.underlying42 sizeI64 _ _ _ _ _ _ rfl rfl w2.heap.size 0 (List.replicate (K + M) (.int .i64 0)) 2 hrow cs ?q1 ?q2 ?q3 ?q4 w2.heap.size w2 ?q5 ?q6 ?q7)
      case q1 => rw [hcl]; exact (Nat.min_eq_right hK2).symm
      case q3 => simp [hcl]
      case q4 => exact HQ4.out
      case q5 => exact HB0.out
      case q6 => exact Nat.le_refl _
      case q7 =>
        intro w3 hR hB3
        have hcK := HP.out w3 hR
        have hst := HB2.out w3 _ _ hR hB3 rfl HP0.out
        obtain ⟨i0, hi, hz00, hz1, hz2⟩ := info_parts infoI64
        clear hR hB3 hmk hrow HB2 HCP HB0 HQ4 HP HP0
        go_wp2
        go_loopw [12, 14, 81] (fun l p i wr => ∃ (j : Nat) (dv lv : Value), l = lv ∧ w2.heap.size ≤ wr.heap.size ∧ j ≤ M ∧ i = .int .i64 j ∧ p = .int .i64 (lastOr 0 (zs.take (K + j))) ∧ wr.ownsRow 0 2 1 lv (K + j) ((zs.take (K + j)).map (Value.int .i64)) ∧ (∀ b, lv.ownBlock = some b → w2.heap.size ≤ b) ∧ Dec wr db dv err ∧ Sees wr dv (encD (lastOr 0 (zs.take (K + j))) (zs.drop (K + j)) ++ r) ∧ dv.ownBlock = v.ownBlock ∧ Kept (fun k => k = db) w wr)
          (fun _ _ i _ => M - (intOf i).toNat)
        case atStart => exact hst
        case round =>
          clear hst hcK
          obtain ⟨j, dv, l, el, hsz3, hj, rfl, rfl, hown, hlb, hD, hS, hO, hKp⟩ := hrel
          replace el := el.symm
          subst el
          by_cases hjm : j < M
          · obtain ⟨z, p, x, hzj, hx, ep, ep1, hun, eD, eT⟩ := HRound.out j hjm
            have hlen := HLEN.out j hj
            rw [ep] at hS hlen ⊢
            rw [eD, List.append_assoc] at hS hlen
            have hV := decv_some db x dv err _ wr hD hx hS (by omega) (by rw [hO]; exact hne)
            have HZ : Hid (lastOr 0 (zs.take (K + j + 1)) = z) := ep1
            have HT : Hid (zs.take (K + j + 1) = zs.take (K + j) ++ [z]) := eT
            clear hD hS hlen ep ep1 eD eT hzj hx
            go_wp2_with fail
            refine hV.mono ?_
            rintro e w5 ⟨rfl, v5, hD5, hS5, hO5, hk5⟩
            clear hV
            have ho5 := hk5.owns hown (fun b hb e => by have := hlb b hb; omega)
            have hKp5 := hKp.trans hk5 (fun _ _ h => h)
            have hs5 := hk5.size
            rw [hO] at hO5
            go_wp2_with (at_builtin; refine wpList_append_own_at _ rfl _ _ 42 rfl 0 2 i0 (.int .i64 0) 1 8 Tryd.underlying42 hi hz00 hz1 hz2 rfl (by decide) _ _ _ rfl (ho5.alloc _) ⟨w5.heap.size, 0, none⟩ 1 1 [Value.int .i64 z] rfl rfl ?c1 ?c2 ?c3 ?c4 ?c5 ?_)
            case c1 =>
              intro i u hi
              match i, hi with
              | 0, hi => simp at hi; subst hi; simp [Addr.add]
            case c2 => intro u hu; simp at hu; subst hu; rfl
            case c3 => unfold maxLen; omega
            case c4 => omega
            case c5 => exact Nat.zero_le _
            intro v6 w6 hown6 hgrow _ hat
            have hgk : Kept (fun b => l.ownBlock = some b) w5 w6 := ((Kept.refl _ w5).alloc _).grown hgrow (fun b hb _ => hb)
            have hldb : ∀ b, l.ownBlock = some b → b ≠ db := fun b hb e => by have := hlb b hb; omega
            have hD6 := hD5.kept hgk (fun e => hldb db e rfl)
            have hS6 := hS5.kept hgk (fun b hb e => by rw [hO5] at hb; have := HVLT.out b hb; have := hlb b e; omega)
            have hKp6 : Kept (fun k => k = db) w w6 := hKp5.trans hgk (fun b hb e => by have := hlb b e; omega)
            have hsz6 : w2.heap.size ≤ w6.heap.size := by have := hgk.size; omega
            have hlb6 : ∀ b, v6.ownBlock = some b → w2.heap.size ≤ b := fun b hb => by
              rcases hat with e | e
              · exact hlb b (e ▸ hb)
              · rw [e] at hb; cases hb; have := hKp.size; have := hs5; simp; omega
            have hown6' : w6.ownsRow 0 2 1 v6 (K + (j + 1)) ((zs.take (K + (j + 1))).map (Value.int .i64)) := by
              rw [← Nat.add_assoc, HT.out, List.map_append, List.map_take]; exact hown6
            have HE : Hid (lastOr 0 (zs.take (K + (j + 1))) = z) := by rw [← Nat.add_assoc]; exact HZ.out
            clear hgrow hat hown hown6 ho5 hD5 hS5 hk5 hgk hKp hKp5 hi hz00 hz1 hz2 HT HZ
            go_wp2
            go_roundw
            case rel => exact ⟨j + 1, v5, _, rfl, hsz6, by omega, by go_num, by rw [HE.out], hown6', hlb6, hD6, by rw [HE.out, ← Nat.add_assoc]; exact hS6, hO5, hKp6⟩
            case measure => simp [intOf]; omega
          · have ej : j = M := by omega
            have HJ : Hid (j = M) := ej
            have hfin : GotL w wr l zs ∧ ∃ v', Dec wr db v' err ∧ Sees wr v' r ∧ v'.ownBlock = v.ownBlock ∧ Kept (fun k => k = db) w wr := by
              have eKj : K + j = zs.length := by have := HM.out; omega
              rw [eKj, List.take_length] at hown
              rw [eKj, List.drop_length] at hS
              refine ⟨got_own hown hz hzl (fun b hb => by have := hlb b hb; omega) hz0, dv, hD, by simpa [encD] using hS, hO, hKp⟩
            clear ej hown hD hS hi hz00 hz1 hz2
            go_wp2
            go_ret
            exact ⟨_, rfl, hfin⟩

theorem dec_keyList (db kb : Nat) (most : Int) (A : List (ByteArray × List Int)) (F : Nat → Prop) (key : ByteArray) (v err : Value) (r : List UInt8) (zs : List Int) (w : World)
    (hd : Dec w db v err) (hk : KL w kb most A F) (hv : Sees w v (encKL ((kget A key).getD []) zs ++ r)) (hne : v.ownBlock ≠ some db) (hF : ∀ j, F j → j ≠ db) (hz : ∀ z ∈ zs, I64 z) (hzl : zs.length ≤ 1048576) (hlim : (encKL ((kget A key).getD []) zs ++ r).length ≤ 1073741824) :
    Calls Tryd.prog 26 #[.pointer (some ⟨db, 0, none⟩), .pointer (some ⟨kb, 0, none⟩), .string key, .bool false] w fun e w' => ∃ lv, e = .returned lv ∧ GotL w w' lv zs ∧ ∃ v', Dec w' db v' err ∧ Sees w' v' r ∧ v'.ownBlock = v.ownBlock ∧ Kept (fun k => k = db) w w' := by
  obtain ⟨mr, MM, h1, h2, h3, h4⟩ := hk
  have hu : Holds w F ((kget MM key).getD (.slice none 0 0)) ((kget A key).getD []) := by
    rcases h2.get key with ⟨g1, g2⟩ | ⟨u, ys, g1, g2, g3⟩
    · rw [g1, g2]; exact Holds.nil _ _
    · rw [g1, g2]; exact g3
  exact dec_keyListK db kb mr most MM _ F key v err r zs w hd h1 hu hv hne hF hz hzl hlim

end Go.Proofs.Qxb6612988aDoor

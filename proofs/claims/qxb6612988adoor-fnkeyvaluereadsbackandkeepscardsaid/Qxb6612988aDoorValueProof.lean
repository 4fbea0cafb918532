/-
  FnKeyValueReadsBackAndKeeps: THE ROW, AND THE TIED CARD.
-/
import Derived.Test.Qxb6612988aDoorLaid
import Derived.Test.Qxb6612988aDoorLawV
import Derived.Test.Qxb6612988aDoorOpenA
namespace Go.Proofs.Qxb6612988aDoor.keyValueReads
open Go.ChangeShapes Go.WideShapes Go.ChangeAt Go.RowKit

/-- A slice of bytes that came in, opened. -/
theorem open_bytes {H : Type} {enc : TypeId × Value → H} {W : World} {v : Value} {d : DataW H} {p : List MemPlace}
    (h : DataW.Trod enc Tryd.prog W 0 (fun _ => true) true 26 v d p) (hv : ∃ a len cap, v = .slice a len cap) : ∃ l : List UInt8, Sees W v l ∧ l.length ≤ maxLen := by
  obtain ⟨fuel, hf⟩ := h
  obtain ⟨a, len, cap, rfl⟩ := hv
  rcases open_ints Tryd.underlying26 Tryd.underlying5 (by kernel_rfl) hf with ⟨hcs, _⟩ | ⟨x, l, c, zs, hcs, _, hl, hm, hz, _, hcell, hwz⟩
  · simp [Value.cells] at hcs
    obtain ⟨rfl, rfl, rfl⟩ := hcs
    exact ⟨[], .inl ⟨rfl, none, 0, rfl⟩, by simp⟩
  · simp [Value.cells] at hcs
    obtain ⟨rfl, rfl, rfl⟩ := hcs
    have hzl : zs.length = cap := by simpa using hz
    have hlen : ((zs.take len).map (fun z => z.toNat.toUInt8)).length = len := by simp; omega
    refine ⟨(zs.take len).map (fun z => z.toNat.toUInt8), ?_, by omega⟩
    rcases Nat.eq_zero_or_pos len with h0 | h0
    · subst h0
      exact .inl ⟨by simp, _, _, rfl⟩
    · obtain ⟨b, off, rfl, hc⟩ := ints_at hcell (by omega)
      refine .inr ⟨b, off, cap, by rw [hlen], by omega, fun j hj => ?_⟩
      rw [hlen] at hj
      rw [hc j (by omega)]
      have hw := bounds_u8 (hwz zs[j] (List.getElem_mem (by omega)))
      have e : zs.getD j 0 = zs[j]'(by omega) := by simp [List.getD, List.getElem?_eq_getElem (by omega : j < zs.length)]
      rw [e]
      have e3 : ((zs[j]'(by omega)).toNat.toUInt8).toNat = (zs[j]'(by omega)).toNat := Lib.toUInt8_toNat (by omega)
      simp only [List.getElem_map, List.getElem_take, e3]
      congr 2
      omega

theorem open_str {H : Type} {enc : TypeId × Value → H} {W : World} {v : Value} {d : DataW H} {p : List MemPlace}
    (h : DataW.Trod enc Tryd.prog W 0 (fun _ => true) true 9 v d p) : ∃ s : ByteArray, ((∃ t, v = .string t) → v = .string s) ∧ s.size ≤ maxLen := by
  obtain ⟨fuel, hf⟩ := h
  by_cases hv : ∃ t, v = .string t
  · obtain ⟨t, rfl⟩ := hv
    obtain ⟨s, e0, _, hs⟩ := DataW.trod_string Tryd.underlying9 hf
    exact ⟨s, fun _ => by simpa [Value.cells] using e0, hs⟩
  · exact ⟨ByteArray.empty, fun h => absurd h hv, by simp⟩
theorem open_list {H : Type} {enc : TypeId × Value → H} {W : World} {v : Value} {d : DataW H} {p : List MemPlace}
    (h : DataW.Trod enc Tryd.prog W 0 (fun _ => true) true 42 v d p) (hv : ∃ a len cap, v = .slice a len cap) : ∃ zs, SeesI W v zs ∧ zs.length ≤ maxLen ∧ ∀ z ∈ zs, I64 z := by
  obtain ⟨fuel, hf⟩ := h
  obtain ⟨a, len, cap, rfl⟩ := hv
  exact open_i64s hf

set_option maxRecDepth 100000 in
theorem lifted (os : Os) (started : os.Started) (H : Type) (enc : TypeId × Value → H) :
    ReturnsInHanded {} Tryd.checked os 5 .any (fun w args => (Rows.fnKeyValueReadsBackAndKeepsSpec.pre enc Tryd.prog Tryd.f5 [] false w args ∧ laidMetH Tryd.prog laidL w) ∧ sizedMet enc Tryd.prog Tryd.f5 (OpenSpec.ofChange Rows.fnKeyValueReadsBackAndKeepsSpec) false w args)
      (Rows.fnKeyValueReadsBackAndKeepsSpec.post enc Tryd.prog Tryd.f5 false true false false) := by
  refine returnsInHanded_of_change_and (C := Tryd.checked) (X := fun w _ => laidMetH Tryd.prog laidL w) (fun _ _ _ hh h => h.of_heap hh) own started (by kernel_rfl) Tryd.func5
    (ChangeSpec.witness_shaped (enc := enc) (C := Tryd.checked) (os := os) (X := fun w _ => laidMetH Tryd.prog laidL w) false (World.doorLaid Tryd.prog 28 os) #[.slice none 0 0, .string ByteArray.empty, .slice none 0 0, .bool false, .slice none 0 0, .bool false, .bool false] 8 rfl (World.shaped_of_RefB (by kernel_rfl) (by kernel_rfl)) (by kernel_rfl) (by kernel_rfl) (by kernel_rfl) (door_met os _)) ?_
  intro W base args ds gs before hval0 hW _ _ hL _
  have hval : ∀ (j : Nat) t v, Tryd.f5.params[j]? = some t → args[j]? = some v → Value.okWide Tryd.prog W .any base t v := hval0
  have hW' := hW
  obtain ⟨p, q, hA0, hV0, rfl, hfz, hnd⟩ := hW
  have hA : DataW.TrodAll enc Tryd.prog W 0 (fun _ => true) true Tryd.f5.params.toList args.toList ds p := hA0
  have hV : DataW.TrodVars enc Tryd.prog W (fun _ => true) [errName] gs q := hV0
  rw [Tryd.params5] at hA hval
  obtain ⟨v0, vs0, d0, ds0, p0, q0, hargs, rfl, rfl, h0, r0⟩ := trodAll_cons hA
  obtain ⟨v1, vs1, d1, ds1, p1, q1, rfl, rfl, rfl, h1, r1⟩ := trodAll_cons r0
  obtain ⟨v2, vs2, d2, ds2, p2, q2, rfl, rfl, rfl, h2, r2⟩ := trodAll_cons r1
  obtain ⟨v3, vs3, d3, ds3, p3, q3, rfl, rfl, rfl, h3, r3⟩ := trodAll_cons r2
  obtain ⟨v4, vs4, d4, ds4, p4, q4, rfl, rfl, rfl, h4, r4⟩ := trodAll_cons r3
  obtain ⟨v5, vs5, d5, ds5, p5, q5, rfl, rfl, rfl, h5, r5⟩ := trodAll_cons r4
  obtain ⟨v6, vs6, d6, ds6, p6, q6, rfl, rfl, rfl, h6, r6⟩ := trodAll_cons r5
  obtain ⟨rfl, rfl, rfl⟩ := trodAll_nil r6
  obtain rfl : args = #[v0, v1, v2, v3, v4, v5, v6] := by cases args; simp_all
  obtain ⟨a, hvar, hmalf⟩ := malf_of_laid hL
  obtain ⟨rfl, rfl⟩ := hV.unique (var_read enc hvar _)
  have hg : 0 < W.heap.size := World.block_lt_of_cell? W ⟨0, 0, none⟩ hmalf
  have lt0 : ∀ x ∈ p0, x.block < W.heap.size := by obtain ⟨m, hm⟩ := h0; exact DataW.trod_lt m _ _ _ hm
  have lt1 : ∀ x ∈ p1, x.block < W.heap.size := by obtain ⟨m, hm⟩ := h1; exact DataW.trod_lt m _ _ _ hm
  have lt2 : ∀ x ∈ p2, x.block < W.heap.size := by obtain ⟨m, hm⟩ := h2; exact DataW.trod_lt m _ _ _ hm
  have lt3 : ∀ x ∈ p3, x.block < W.heap.size := by obtain ⟨m, hm⟩ := h3; exact DataW.trod_lt m _ _ _ hm
  have lt4 : ∀ x ∈ p4, x.block < W.heap.size := by obtain ⟨m, hm⟩ := h4; exact DataW.trod_lt m _ _ _ hm
  have lt5 : ∀ x ∈ p5, x.block < W.heap.size := by obtain ⟨m, hm⟩ := h5; exact DataW.trod_lt m _ _ _ hm
  have lt6 : ∀ x ∈ p6, x.block < W.heap.size := by obtain ⟨m, hm⟩ := h6; exact DataW.trod_lt m _ _ _ hm
  obtain ⟨pre, hP, hpl⟩ := open_bytes h0 (okWide_slice Tryd.underlying26 (hval 0 26 v0 rfl rfl))
  obtain ⟨key, e1, hks⟩ := open_str h1
  obtain ⟨prior, hR, hrn, hRz⟩ := open_list h2 (okWide_slice Tryd.underlying42 (hval 2 42 v2 rfl rfl))
  obtain ⟨hp, e3⟩ := okWide_bool Tryd.underlying4 (hval 3 4 v3 rfl rfl)
  obtain ⟨zs, hL2, hln, hLz⟩ := open_list h4 (okWide_slice Tryd.underlying42 (hval 4 42 v4 rfl rfl))
  obtain ⟨keep, e5⟩ := okWide_bool Tryd.underlying4 (hval 5 4 v5 rfl rfl)
  obtain ⟨grow, e6⟩ := okWide_bool Tryd.underlying4 (hval 6 4 v6 rfl rfl)
  replace e1 : v1 = .string key := e1 (okWide_string Tryd.underlying9 (hval 1 9 v1 rfl rfl))
  subst e1
  subst e3
  subst e5
  subst e6
  clear hA0 hval0 hV0
  refine (value_walk v0 v2 v4 pre key prior zs hp keep grow W hP hpl hks hR hrn hL2 hln hRz hLz).mono fun e W' ⟨he, bel⟩ => ?_
  subst he
  exact ⟨_, rfl, _, _, _, [], _, [.cell 0 0], hW', trodAll_mk1 (shut_bool Tryd.underlying4 _), (trodAll_cons_mk (Below.trod laidOut (by kernel_rfl) (of_decide_eq_true (by kernel_rfl)) h0 bel lt0) (trodAll_cons_mk (Below.trod laidOut (by kernel_rfl) (of_decide_eq_true (by kernel_rfl)) h1 bel lt1) (trodAll_cons_mk (Below.trod laidOut (by kernel_rfl) (of_decide_eq_true (by kernel_rfl)) h2 bel lt2) (trodAll_cons_mk (Below.trod laidOut (by kernel_rfl) (of_decide_eq_true (by kernel_rfl)) h3 bel lt3) (trodAll_cons_mk (Below.trod laidOut (by kernel_rfl) (of_decide_eq_true (by kernel_rfl)) h4 bel lt4) (trodAll_cons_mk (Below.trod laidOut (by kernel_rfl) (of_decide_eq_true (by kernel_rfl)) h5 bel lt5) (trodAll_cons_mk (Below.trod laidOut (by kernel_rfl) (of_decide_eq_true (by kernel_rfl)) h6 bel lt6) trodAll_mk0))))))), var_read enc (var_below hvar hg bel) _, bel.frame _, fun h => by cases h⟩

theorem row_holds : Rows.FnKeyValueReadsBackAndKeepsSaid :=
  OpenClaim.holds_of_wide 5 Tryd.f5 rfl rfl rfl rfl rfl rfl rfl ⟨rfl, rfl, rfl, rfl, rfl⟩ rfl rfl rfl rfl rfl (by kernel_rfl) Tryd.func5 (by kernel_rfl)
    (of_decide_eq_true (by kernel_rfl)) (by unfold Func.isWrapper; first | (rw [if_pos (by decide +kernel)]; kernel_rfl) | (rw [if_neg (by decide +kernel)]; exact ⟨rfl, rfl⟩))
    (fun os started H enc _ => lifted os started H enc)

theorem card_holds : Rows.FnKeyValueReadsBackAndKeepsCardSaid :=
  Claim7.holds_tied_plain_at .later [] [.sentinel] true Rows.fnKeyValueReadsBackAndKeepsCard.stood.harness true
    row_holds (fun _ h => by cases h) (by kernel_rfl) (fun _ h => by cases h) fnKeyValueReadsBackAndKeeps_row_tie rfl ⟨rfl, rfl⟩ (by kernel_rfl) rfl
    (fun f fn hf hfn => by
      obtain rfl : f = 5 := Option.some.inj ((show Tryd.prog.funcNamed Rows.fnKeyValueReadsBackAndKeepsRow.func = some 5 by kernel_rfl).symm.trans hf) |>.symm
      obtain rfl : fn = Tryd.f5 := (Option.some.inj (Tryd.func5.symm.trans hfn)).symm
      exact ⟨by kernel_rfl, fun j t ht => by
        rw [Tryd.params5] at ht
        have hm : t ∈ [26, 9, 42, 4, 42, 4, 4] := by simpa using Array.mem_of_getElem? ht
        have hall : ([26, 9, 42, 4, 42, 4, 4].all fun u => !Tryd.prog.wantsStandIn u) = true := by kernel_rfl
        exact (show Tryd.prog.wantsStandIn t = false by simpa using List.all_eq_true.1 hall t hm)⟩)
    (by kernel_rfl)

end Go.Proofs.Qxb6612988aDoor.keyValueReads

/-
  FnKeyValueScriptStaysInStep: THE ROW, AND THE TIED CARD.
-/
import Derived.Test.Qxb6612988aDoorLaid
import Derived.Test.Qxb6612988aDoorLawS
import Derived.Test.Qxb6612988aDoorOpenA
namespace Go.Proofs.Qxb6612988aDoor.keyValueScript
open Go.ChangeShapes Go.WideShapes Go.ChangeAt Go.RowKit

set_option maxRecDepth 100000 in
theorem open_recs {H : Type} {enc : TypeId × Value → H} {W : World} {v : Value} {d : DataW H} {p : List MemPlace}
    (h : DataW.Trod enc Tryd.prog W 0 (fun _ => true) true 60 v d p) (hv : ∃ a len cap, v = .slice a len cap) : ∃ rs, RecRaw W v rs := by
  obtain ⟨fuel, hf⟩ := h
  obtain ⟨a, len, cap, rfl⟩ := hv
  have ce : Tryd.prog.cellsOf 65 = 3 := by kernel_rfl
  rcases Deep.open_slice Tryd.underlying60 hf with ⟨hcs, _⟩ | ⟨a, len, cap, m, n, D, Pl, hcs, _, hl, hm, hmm, _, hx⟩
  · simp [Value.cells] at hcs
    obtain ⟨rfl, rfl, rfl⟩ := hcs
    exact ⟨[], ⟨none, 0, rfl, (fun _ => rfl), by simp, fun h => by simp at h⟩, fun z hz => by simp at hz⟩
  · simp [Value.cells] at hcs
    obtain ⟨rfl, rfl, rfl⟩ := hcs
    simp at hmm
    subst hmm
    have hin : Inhabited RecV := ⟨⟨ByteArray.empty, [], false⟩⟩
    obtain ⟨f, hfz⟩ := Deep.choose_lt (α := RecV) (p := fun i q => W.cell? (a.add (i * 3)) = some (.string q.key) ∧ (∃ lv, W.cell? (a.add (i * 3 + 1)) = some lv ∧ SeesI W lv q.l) ∧ W.cell? (a.add (i * 3 + 2)) = some (.bool q.keep) ∧ q.key.size ≤ maxLen ∧ q.l.length ≤ maxLen ∧ ∀ z ∈ q.l, I64 z) (fun i hi => by
      obtain ⟨cs', h1, h2⟩ := hx i hi
      rw [ce] at h1
      obtain ⟨_, hlen, hcell⟩ := World.cells?_some h1
      obtain ⟨y0, y1, y2, n', _, _, g0, g1, g2⟩ := Deep.trod_struct3 Tryd.underlying65 h2
      match cs', hlen with
      | [v0, v1, v2], _ =>
        have e0 := hcell 0 (by omega)
        have e1 := hcell 1 (by omega)
        have e2 := hcell 2 (by omega)
        rw [Deep.add_add] at e0 e1 e2
        have k9 : Tryd.prog.cellsOf 9 = 1 := by kernel_rfl
        have k42 : Tryd.prog.cellsOf 42 = 1 := by kernel_rfl
        have k4 : Tryd.prog.cellsOf 4 = 1 := by kernel_rfl
        simp [k9, k42, k4] at g0 g1 g2
        obtain ⟨s, q0, _, hs⟩ := DataW.trod_string Tryd.underlying9 g0
        obtain ⟨zs, q1, q2, q3⟩ := open_i64s g1
        obtain ⟨b, q4, _⟩ := DataW.trod_bool Tryd.underlying4 g2
        simp at q0 q4
        subst q0
        subst q4
        exact ⟨⟨s, zs, b⟩, by simpa using e0, ⟨v1, by simpa using e1, q1⟩, by simpa using e2, hs, q2, q3⟩)
    refine ⟨(List.range len).map f, ⟨some a, m, by simp, (fun e => by cases e), by simp; omega, fun hp => ?_⟩, fun z hz => ?_⟩
    · simp at hp
      obtain ⟨g, o, rfl⟩ := addr_plain (W := W) (a := a) (by simpa using (hfz 0 (by omega)).1)
      refine ⟨g, o, rfl, fun j hj => ?_⟩
      simp at hj
      obtain ⟨c0, ⟨lv, c1, s1⟩, c2, _⟩ := hfz j (by omega)
      rw [add_plain] at c0 c1 c2
      refine ⟨?_, ⟨lv, ?_, ?_⟩, ?_⟩
      · simp; exact c0
      · rw [← c1, Nat.add_assoc]
      · simp; exact s1
      · simp; rw [← c2, Nat.add_assoc]
    · obtain ⟨i, hi, rfl⟩ := List.mem_map.1 hz
      simp at hi
      obtain ⟨_, _, _, r⟩ := hfz i (by omega)
      exact r

set_option maxRecDepth 100000 in
theorem lifted (os : Os) (started : os.Started) (H : Type) (enc : TypeId × Value → H) :
    ReturnsInHanded {} Tryd.checked os 6 .any (fun w args => (Rows.fnKeyValueScriptStaysInStepSpec.pre enc Tryd.prog Tryd.f6 [] false w args ∧ laidMetH Tryd.prog laidL w) ∧ sizedMet enc Tryd.prog Tryd.f6 (OpenSpec.ofChange Rows.fnKeyValueScriptStaysInStepSpec) false w args)
      (Rows.fnKeyValueScriptStaysInStepSpec.post enc Tryd.prog Tryd.f6 false true false false) := by
  refine returnsInHanded_of_change_and (C := Tryd.checked) (X := fun w _ => laidMetH Tryd.prog laidL w) (fun _ _ _ hh h => h.of_heap hh) own started (by kernel_rfl) Tryd.func6
    (ChangeSpec.witness_shaped (enc := enc) (C := Tryd.checked) (os := os) (X := fun w _ => laidMetH Tryd.prog laidL w) false (World.doorLaid Tryd.prog 28 os) #[.int .i64 0, .slice none 0 0] 8 rfl (World.shaped_of_RefB (by kernel_rfl) (by kernel_rfl)) (by kernel_rfl) (by kernel_rfl) (by kernel_rfl) (door_met os _)) ?_
  intro W base args ds gs before hval0 hW _ _ hL _
  have hval : ∀ (j : Nat) t v, Tryd.f6.params[j]? = some t → args[j]? = some v → Value.okWide Tryd.prog W .any base t v := hval0
  have hW' := hW
  obtain ⟨p, q, hA0, hV0, rfl, hfz, hnd⟩ := hW
  have hA : DataW.TrodAll enc Tryd.prog W 0 (fun _ => true) true Tryd.f6.params.toList args.toList ds p := hA0
  have hV : DataW.TrodVars enc Tryd.prog W (fun _ => true) [errName] gs q := hV0
  rw [Tryd.params6] at hA hval
  obtain ⟨v0, vs0, d0, ds0, p0, q0, hargs, rfl, rfl, h0, r0⟩ := trodAll_cons hA
  obtain ⟨v1, vs1, d1, ds1, p1, q1, rfl, rfl, rfl, h1, r1⟩ := trodAll_cons r0
  obtain ⟨rfl, rfl, rfl⟩ := trodAll_nil r1
  obtain rfl : args = #[v0, v1] := by cases args; simp_all
  obtain ⟨a, hvar, hmalf⟩ := malf_of_laid hL
  obtain ⟨rfl, rfl⟩ := hV.unique (var_read enc hvar _)
  have hg : 0 < W.heap.size := World.block_lt_of_cell? W ⟨0, 0, none⟩ hmalf
  have lt0 : ∀ x ∈ p0, x.block < W.heap.size := by obtain ⟨m, hm⟩ := h0; exact DataW.trod_lt m _ _ _ hm
  have lt1 : ∀ x ∈ p1, x.block < W.heap.size := by obtain ⟨m, hm⟩ := h1; exact DataW.trod_lt m _ _ _ hm
  obtain ⟨most, e0⟩ := okWide_int Tryd.underlying3 (hval 0 3 v0 rfl rfl)
  obtain ⟨rs, hR⟩ := open_recs h1 (okWide_slice Tryd.underlying60 (hval 1 60 v1 rfl rfl))
  subst e0
  clear hA0 hval0 hV0
  refine (script_walk most v1 rs W hR).mono fun e W' ⟨he, bel⟩ => ?_
  subst he
  exact ⟨_, rfl, _, _, _, [], _, [.cell 0 0], hW', trodAll_mk1 (shut_bool Tryd.underlying4 _), (trodAll_cons_mk (Below.trod laidOut (by kernel_rfl) (of_decide_eq_true (by kernel_rfl)) h0 bel lt0) (trodAll_cons_mk (Below.trod laidOut (by kernel_rfl) (of_decide_eq_true (by kernel_rfl)) h1 bel lt1) trodAll_mk0)), var_read enc (var_below hvar hg bel) _, bel.frame _, fun h => by cases h⟩

theorem row_holds : Rows.FnKeyValueScriptStaysInStepSaid :=
  OpenClaim.holds_of_wide 6 Tryd.f6 rfl rfl rfl rfl rfl rfl rfl ⟨rfl, rfl, rfl, rfl, rfl⟩ rfl rfl rfl rfl rfl (by kernel_rfl) Tryd.func6 (by kernel_rfl)
    (of_decide_eq_true (by kernel_rfl)) (by unfold Func.isWrapper; first | (rw [if_pos (by decide +kernel)]; kernel_rfl) | (rw [if_neg (by decide +kernel)]; exact ⟨rfl, rfl⟩))
    (fun os started H enc _ => lifted os started H enc)

theorem card_holds : Rows.FnKeyValueScriptStaysInStepCardSaid :=
  Claim7.holds_tied_plain_at .later [] [.sentinel] true Rows.fnKeyValueScriptStaysInStepCard.stood.harness true
    row_holds (fun _ h => by cases h) (by kernel_rfl) (fun _ h => by cases h) fnKeyValueScriptStaysInStep_row_tie rfl ⟨rfl, rfl⟩ (by kernel_rfl) rfl
    (fun f fn hf hfn => by
      obtain rfl : f = 6 := Option.some.inj ((show Tryd.prog.funcNamed Rows.fnKeyValueScriptStaysInStepRow.func = some 6 by kernel_rfl).symm.trans hf) |>.symm
      obtain rfl : fn = Tryd.f6 := (Option.some.inj (Tryd.func6.symm.trans hfn)).symm
      exact ⟨by kernel_rfl, fun j t ht => by
        rw [Tryd.params6] at ht
        have hm : t ∈ [3, 60] := by simpa using Array.mem_of_getElem? ht
        have hall : ([3, 60].all fun u => !Tryd.prog.wantsStandIn u) = true := by kernel_rfl
        exact (show Tryd.prog.wantsStandIn t = false by simpa using List.all_eq_true.1 hall t hm)⟩)
    (by kernel_rfl)

end Go.Proofs.Qxb6612988aDoor.keyValueScript

/-
  FnFailFirstFailureSticks: THE ROW, AND THE TIED CARD.
-/
import Derived.Test.Qxb6612988aDoorLaid
import Derived.Test.Qxb6612988aDoorFailSticks
import Derived.ChangeOld
import Derived.Deep.Grids
namespace Go.Proofs.Qxb6612988aDoor.failSticks
open Go.ChangeShapes Go.WideShapes Go.ChangeAt Go.RowKit

/-- A slice of uint64 that came in, opened. -/
theorem open_u64s {H : Type} {enc : TypeId × Value → H} {W : World} {a : Option Addr} {len cap : Nat} {d : DataW H} {p : List MemPlace}
    (h : DataW.Trod enc Tryd.prog W 0 (fun _ => true) true 22 (.slice a len cap) d p) : ∃ xs : List Nat, xs.length = len ∧ len ≤ maxLen ∧ U64s W a xs := by
  obtain ⟨fuel, hf⟩ := h
  rcases open_ints Tryd.underlying22 Tryd.underlying30 (by kernel_rfl) hf with ⟨hcs, _⟩ | ⟨x, l, c, zs, hcs, _, hl, hm, hz, _, hcell, hwz⟩
  · simp [Value.cells] at hcs
    obtain ⟨rfl, rfl, rfl⟩ := hcs
    exact ⟨[], rfl, by unfold maxLen; omega, ⟨fun h => by simp at h, fun x hx => by simp at hx⟩⟩
  · simp [Value.cells] at hcs
    obtain ⟨rfl, rfl, rfl⟩ := hcs
    have hzl : zs.length = cap := by simpa using hz
    refine ⟨(zs.take len).map Int.toNat, by simp; omega, by omega, ⟨fun h => ?_, fun x hx => ?_⟩⟩
    · simp at h
      obtain ⟨b, off, rfl, hc⟩ := ints_at hcell (by omega)
      refine ⟨b, off, rfl, fun j hj => ?_⟩
      simp at hj
      rw [hc j (by omega)]
      have hw := bounds_u64 (hwz zs[j] (List.getElem_mem (by omega)))
      have e : zs.getD j 0 = zs[j]'(by omega) := by simp [List.getD, List.getElem?_eq_getElem (by omega : j < zs.length)]
      rw [e]
      simp
      omega
    · obtain ⟨z, hz1, rfl⟩ := List.mem_map.1 hx
      have hw := bounds_u64 (hwz z (List.mem_of_mem_take hz1))
      omega

/-- A slice of bools that came in, opened. -/
theorem open_bs {H : Type} {enc : TypeId × Value → H} {W : World} {a : Option Addr} {len cap : Nat} {d : DataW H} {p : List MemPlace}
    (h : DataW.Trod enc Tryd.prog W 0 (fun _ => true) true 23 (.slice a len cap) d p) : ∃ bs : List Bool, bs.length = len ∧ len ≤ maxLen ∧ Bools W a bs := by
  obtain ⟨fuel, hf⟩ := h
  rcases Deep.open_bools Tryd.underlying23 Tryd.underlying4 (by kernel_rfl) hf with ⟨hcs, _⟩ | ⟨x, l, c, B, hcs, _, hl, hm, _, hcell⟩
  · simp [Value.cells] at hcs
    obtain ⟨rfl, rfl, rfl⟩ := hcs
    exact ⟨[], rfl, by unfold maxLen; omega, ⟨fun h => by simp at h⟩⟩
  · simp [Value.cells] at hcs
    obtain ⟨rfl, rfl, rfl⟩ := hcs
    refine ⟨(List.range len).map B, by simp, by omega, ⟨fun h => ?_⟩⟩
    simp at h
    obtain ⟨b, off, spot⟩ := x
    have hspot : spot = none := by simpa [Addr.add] using World.cell?_spot (hcell 0 (by omega))
    subst hspot
    refine ⟨b, off, rfl, fun j hj => ?_⟩
    simp at hj
    rw [← add_plain, hcell j (by omega)]
    simp

theorem walk (a0 a1 : Option Addr) (c0 c1 : Nat) (xs : List Nat) (ys : List Bool) (w : World) (a : Addr) (hm : Malf w a) (hX : U64s w a0 xs) (hY : Bools w a1 ys) (h0 : xs.length ≤ maxLen) (h1 : ys.length ≤ maxLen) :
    Calls Tryd.prog 3 #[.slice a0 xs.length c0, .slice a1 ys.length c1] w fun e w' => e = .returned (.bool true) ∧ Below w.heap.size w w' := by
  have hg : 0 < w.heap.size := World.block_lt_of_cell? w ⟨0, 0, none⟩ hm
  by_cases h : xs.length + ys.length ≤ 1048576
  · by_cases h2 : 8 * xs.length + ys.length ≤ 1048576
    · by_cases h3 : 0 < ys.length
      · exact st_some a0 a1 c0 c1 xs ys w a hm hg hX hY h3 h2
      · have e : ys.length = 0 := by omega
        rw [e]
        exact st_empty a0 a1 c0 c1 xs w hX (by omega)
    · exact st_big a0 a1 _ c0 _ c1 w h (by omega)
  · exact st_long a0 a1 _ c0 _ c1 w h0 h1 h

set_option maxRecDepth 100000 in
theorem lifted (os : Os) (started : os.Started) (H : Type) (enc : TypeId × Value → H) :
    ReturnsInHanded {} Tryd.checked os 3 .any (fun w args => (Rows.fnFailFirstFailureSticksSpec.pre enc Tryd.prog Tryd.f3 [] false w args ∧ laidMetH Tryd.prog laidL w) ∧ sizedMet enc Tryd.prog Tryd.f3 (OpenSpec.ofChange Rows.fnFailFirstFailureSticksSpec) false w args)
      (Rows.fnFailFirstFailureSticksSpec.post enc Tryd.prog Tryd.f3 false true false false) := by
  refine returnsInHanded_of_change_and (C := Tryd.checked) (X := fun w _ => laidMetH Tryd.prog laidL w) (fun _ _ _ hh h => h.of_heap hh) own started (by kernel_rfl) Tryd.func3
    (ChangeSpec.witness_shaped (enc := enc) (C := Tryd.checked) (os := os) (X := fun w _ => laidMetH Tryd.prog laidL w) false (World.doorLaid Tryd.prog 28 os) #[.slice none 0 0, .slice none 0 0] 8 rfl (World.shaped_of_RefB (by kernel_rfl) (by kernel_rfl)) (by kernel_rfl) (by kernel_rfl) (by kernel_rfl) (door_met os _)) ?_
  intro W base args ds gs before hval0 hW _ _ hL _
  have hval : ∀ (j : Nat) t v, Tryd.f3.params[j]? = some t → args[j]? = some v → Value.okWide Tryd.prog W .any base t v := hval0
  have hW' := hW
  obtain ⟨p, q, hA0, hV0, rfl, hfz, hnd⟩ := hW
  have hA : DataW.TrodAll enc Tryd.prog W 0 (fun _ => true) true Tryd.f3.params.toList args.toList ds p := hA0
  have hV : DataW.TrodVars enc Tryd.prog W (fun _ => true) [errName] gs q := hV0
  rw [Tryd.params3] at hA hval
  obtain ⟨v0, vs0, d0, ds0, p0, q0, hargs, rfl, rfl, h0, r0⟩ := trodAll_cons hA
  obtain ⟨v1, vs1, d1, ds1, p1, q1, rfl, rfl, rfl, h1, r1⟩ := trodAll_cons r0
  obtain ⟨rfl, rfl, rfl⟩ := trodAll_nil r1
  obtain rfl : args = #[v0, v1] := by cases args; simp_all
  obtain ⟨a, hvar, hmalf⟩ := malf_of_laid hL
  obtain ⟨rfl, rfl⟩ := hV.unique (var_read enc hvar _)
  have hg : 0 < W.heap.size := World.block_lt_of_cell? W ⟨0, 0, none⟩ hmalf
  obtain ⟨a0, len0, cap0, rfl⟩ := okWide_slice Tryd.underlying22 (hval 0 22 v0 rfl rfl)
  obtain ⟨a1, len1, cap1, rfl⟩ := okWide_slice Tryd.underlying23 (hval 1 23 v1 rfl rfl)
  have lt0 : ∀ x ∈ p0, x.block < W.heap.size := by obtain ⟨m, hm⟩ := h0; exact DataW.trod_lt m _ _ _ hm
  have lt1 : ∀ x ∈ p1, x.block < W.heap.size := by obtain ⟨m, hm⟩ := h1; exact DataW.trod_lt m _ _ _ hm
  obtain ⟨xs, hxl, hx8, hX⟩ := open_u64s h0
  obtain ⟨ys, hyl, hy8, hY⟩ := open_bs h1
  subst hxl
  subst hyl
  clear hA0 hval0 hV0
  refine (walk a0 a1 cap0 cap1 xs ys W a hmalf hX hY hx8 hy8).mono fun e W' ⟨he, bel⟩ => ?_
  subst he
  exact ⟨_, rfl, _, _, _, [], _, [.cell 0 0], hW', trodAll_mk1 (shut_bool Tryd.underlying4 _), (trodAll_cons_mk (Below.trod laidOut (by kernel_rfl) (of_decide_eq_true (by kernel_rfl)) h0 bel lt0) (trodAll_cons_mk (Below.trod laidOut (by kernel_rfl) (of_decide_eq_true (by kernel_rfl)) h1 bel lt1) trodAll_mk0)), var_read enc (var_below hvar hg bel) _, bel.frame _, fun h => by cases h⟩

theorem row_holds : Rows.FnFailFirstFailureSticksSaid :=
  OpenClaim.holds_of_wide 3 Tryd.f3 rfl rfl rfl rfl rfl rfl rfl ⟨rfl, rfl, rfl, rfl, rfl⟩ rfl rfl rfl rfl rfl (by kernel_rfl) Tryd.func3 (by kernel_rfl)
    (of_decide_eq_true (by kernel_rfl)) (by unfold Func.isWrapper; first | (rw [if_pos (by decide +kernel)]; kernel_rfl) | (rw [if_neg (by decide +kernel)]; exact ⟨rfl, rfl⟩))
    (fun os started H enc _ => lifted os started H enc)

theorem card_holds : Rows.FnFailFirstFailureSticksCardSaid :=
  Claim7.holds_tied_plain_at .later [] [.sentinel] true Rows.fnFailFirstFailureSticksCard.stood.harness true
    row_holds (fun _ h => by cases h) (by kernel_rfl) (fun _ h => by cases h) fnFailFirstFailureSticks_row_tie rfl ⟨rfl, rfl⟩ (by kernel_rfl) rfl
    (fun f fn hf hfn => by
      obtain rfl : f = 3 := Option.some.inj ((show Tryd.prog.funcNamed Rows.fnFailFirstFailureSticksRow.func = some 3 by kernel_rfl).symm.trans hf) |>.symm
      obtain rfl : fn = Tryd.f3 := (Option.some.inj (Tryd.func3.symm.trans hfn)).symm
      exact ⟨by kernel_rfl, fun j t ht => by
        rw [Tryd.params3] at ht
        have hm : t ∈ [22, 23] := by simpa using Array.mem_of_getElem? ht
        have hall : ([22, 23].all fun u => !Tryd.prog.wantsStandIn u) = true := by kernel_rfl
        exact (show Tryd.prog.wantsStandIn t = false by simpa using List.all_eq_true.1 hall t hm)⟩)
    (by kernel_rfl)

end Go.Proofs.Qxb6612988aDoor.failSticks

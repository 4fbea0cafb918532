/-
  THE ARGUMENTS, OPENED.
-/
import Derived.Test.Qxb6612988aDoorLawCut
import Derived.WalkKit
import Derived.ProofKit
import Derived.OpenShut
import Derived.ShutString
import Derived.ChangeOld
import Derived.Below
import Derived.Deep.SlicePairs
import Derived.Deep.Strs
namespace Go.Proofs.Qxb6612988aDoor
open Go.RowKit Go.ChangeShapes Go.WideShapes Go.ChangeAt

section
variable {H : Type} {enc : TypeId × Value → H} {W : World} {held : Bool} {n : Nat}

theorem addr_plain {W : World} {a : Addr} {v : Value} (h : W.cell? (a.add 0) = some v) : ∃ g o, a = ⟨g, o, none⟩ := by
  obtain ⟨b, off, spot⟩ := a
  have hspot : spot = none := by simpa [Addr.add] using World.cell?_spot h
  subst hspot
  exact ⟨b, off, rfl⟩

theorem open_i64s {v : Value} {y : DataW H × List MemPlace} (h : DataW.trod enc Tryd.prog W 0 (fun _ => true) held n 42 [v] = some y) : ∃ zs, SeesI W v zs ∧ zs.length ≤ maxLen ∧ ∀ z ∈ zs, I64 z := by
  rcases open_ints Tryd.underlying42 Tryd.underlying2 (by kernel_rfl) h with ⟨hcs, _⟩ | ⟨x, l, c, zs, hcs, _, hl, hm, hz, _, hcell, hwz⟩
  · simp at hcs
    subst hcs
    exact ⟨[], .inl ⟨rfl, none, 0, rfl, fun _ => rfl⟩, by simp, fun z hz => by simp at hz⟩
  · simp at hcs
    subst hcs
    have hzl : zs.length = c := by simpa using hz
    have hlen : (zs.take l).length = l := by simp; omega
    refine ⟨zs.take l, ?_, by omega, fun z hz' => bounds_i64 (hwz z (List.mem_of_mem_take hz'))⟩
    rcases Nat.eq_zero_or_pos l with h0 | h0
    · subst h0
      exact .inl ⟨by simp, some x, c, rfl, fun e => by cases e⟩
    · obtain ⟨b, off, rfl, hc⟩ := ints_at hcell (by omega)
      refine .inr ⟨b, off, c, by rw [hlen], by omega, fun j hj => ?_⟩
      rw [hlen] at hj
      rw [hc j (by omega)]
      simp [List.getD, List.getElem?_eq_getElem (by omega : j < zs.length)]

theorem open_rows {v : Value} {d : DataW H} {p : List MemPlace} (h : DataW.Trod enc Tryd.prog W 0 (fun _ => true) held 69 v d p) (hv : ∃ a len cap, v = .slice a len cap) : ∃ zss, RowRaw W v zss := by
  obtain ⟨fuel, hf⟩ := h
  obtain ⟨a, len, cap, rfl⟩ := hv
  rcases Deep.open_slice1 Tryd.underlying69 (by kernel_rfl) hf with ⟨hcs, _⟩ | ⟨a, len, cap, m, n, V, D, Pl, hcs, _, hl, hm, hmm, _, hx⟩
  · simp [Value.cells] at hcs
    obtain ⟨rfl, rfl, rfl⟩ := hcs
    exact ⟨[], ⟨none, 0, rfl, (fun _ => rfl), by simp, fun h => by simp at h⟩, fun z hz => by simp at hz⟩
  · simp [Value.cells] at hcs
    obtain ⟨rfl, rfl, rfl⟩ := hcs
    simp at hmm
    subst hmm
    obtain ⟨f, hfz⟩ := Deep.choose_lt (α := List Int) (p := fun i zs => SeesI W (V i) zs ∧ zs.length ≤ maxLen ∧ ∀ z ∈ zs, I64 z) (fun i hi => open_i64s (hx i hi).2)
    refine ⟨(List.range len).map f, ⟨some a, m, by simp, (fun e => by cases e), by simp; omega, fun hp => ?_⟩, fun z hz => ?_⟩
    · simp at hp
      obtain ⟨g, o, rfl⟩ := addr_plain (hx 0 (by omega)).1
      refine ⟨g, o, rfl, fun j hj => ?_⟩
      simp at hj
      refine ⟨V j, ?_, ?_⟩
      · rw [← add_plain]; exact (hx j (by omega)).1
      · simp; exact (hfz j (by omega)).1
    · obtain ⟨i, hi, rfl⟩ := List.mem_map.1 hz
      simp at hi
      exact (hfz i (by omega)).2

theorem open_kls {v : Value} {d : DataW H} {p : List MemPlace} (h : DataW.Trod enc Tryd.prog W 0 (fun _ => true) held 67 v d p) (hv : ∃ a len cap, v = .slice a len cap) : ∃ items, KLRaw W v items := by
  obtain ⟨fuel, hf⟩ := h
  obtain ⟨a, len, cap, rfl⟩ := hv
  rcases Deep.open_slice_pairs Tryd.underlying67 Tryd.underlying81 (by kernel_rfl) rfl rfl (by kernel_rfl) (by kernel_rfl) hf with ⟨hcs, _⟩ | ⟨a, len, cap, m, n, V0, V1, D0, D1, P0, P1, hcs, _, hl, hm, hmm, _, hx⟩
  · simp [Value.cells] at hcs
    obtain ⟨rfl, rfl, rfl⟩ := hcs
    exact ⟨[], ⟨none, 0, rfl, (fun _ => rfl), by simp, fun h => by simp at h⟩, fun z hz => by simp at hz⟩
  · simp [Value.cells] at hcs
    obtain ⟨rfl, rfl, rfl⟩ := hcs
    simp at hmm
    subst hmm
    obtain ⟨f, hfz⟩ := Deep.choose_lt (α := ByteArray × List Int) (p := fun i q => V0 i = .string q.1 ∧ q.1.size ≤ maxLen ∧ SeesI W (V1 i) q.2 ∧ q.2.length ≤ maxLen ∧ ∀ z ∈ q.2, I64 z) (fun i hi => by
      obtain ⟨_, _, t0, t1⟩ := hx i hi
      obtain ⟨s, e0, _, hs⟩ := DataW.trod_string Tryd.underlying9 t0
      obtain ⟨zs, q1, q2, q3⟩ := open_i64s t1
      exact ⟨(s, zs), by simpa using e0, hs, q1, q2, q3⟩)
    refine ⟨(List.range len).map f, ⟨some a, m, by simp, (fun e => by cases e), by simp; omega, fun hp => ?_⟩, fun z hz => ?_⟩
    · simp at hp
      obtain ⟨g, o, rfl⟩ := addr_plain (W := W) (a := a) (v := V0 0) (by simpa using (hx 0 (by omega)).1)
      refine ⟨g, o, rfl, fun j hj => ?_⟩
      simp at hj
      obtain ⟨c0, c1, _, _⟩ := hx j (by omega)
      obtain ⟨e0, _, e1, _⟩ := hfz j (by omega)
      rw [add_plain] at c0 c1
      refine ⟨?_, V1 j, ?_, ?_⟩
      · simp; rw [c0, e0]
      · rw [← Nat.add_assoc] at c1; exact c1
      · simp; exact e1
    · obtain ⟨i, hi, rfl⟩ := List.mem_map.1 hz
      simp at hi
      obtain ⟨_, q0, _, q2, q3⟩ := hfz i (by omega)
      exact ⟨q0, q2, q3⟩

set_option maxRecDepth 100000 in
theorem open_ops {v : Value} {d : DataW H} {p : List MemPlace} (h : DataW.Trod enc Tryd.prog W 0 (fun _ => true) held 68 v d p) (hv : ∃ a len cap, v = .slice a len cap) : ∃ ops, OpRaw W v ops := by
  obtain ⟨fuel, hf⟩ := h
  obtain ⟨a, len, cap, rfl⟩ := hv
  have ce : Tryd.prog.cellsOf 83 = 3 := by kernel_rfl
  rcases Deep.open_slice Tryd.underlying68 hf with ⟨hcs, _⟩ | ⟨a, len, cap, m, n, D, Pl, hcs, _, hl, hm, hmm, _, hx⟩
  · simp [Value.cells] at hcs
    obtain ⟨rfl, rfl, rfl⟩ := hcs
    exact ⟨[], ⟨none, 0, rfl, (fun _ => rfl), by simp, fun h => by simp at h⟩, fun z hz => by simp at hz⟩
  · simp [Value.cells] at hcs
    obtain ⟨rfl, rfl, rfl⟩ := hcs
    simp at hmm
    subst hmm
    have hin : Inhabited OpV := ⟨⟨0, ByteArray.empty, 0⟩⟩
    obtain ⟨f, hfz⟩ := Deep.choose_lt (α := OpV) (p := fun i q => W.cell? (a.add (i * 3)) = some (.int .u8 q.kind) ∧ W.cell? (a.add (i * 3 + 1)) = some (.string q.key) ∧ W.cell? (a.add (i * 3 + 2)) = some (.int .i64 q.val) ∧ q.key.size ≤ maxLen) (fun i hi => by
      obtain ⟨cs', h1, h2⟩ := hx i hi
      rw [ce] at h1
      obtain ⟨_, hlen, hcell⟩ := World.cells?_some h1
      obtain ⟨y0, y1, y2, n', _, _, g0, g1, g2⟩ := Deep.trod_struct3 Tryd.underlying83 h2
      match cs', hlen with
      | [v0, v1, v2], _ =>
        have e0 := hcell 0 (by omega)
        have e1 := hcell 1 (by omega)
        have e2 := hcell 2 (by omega)
        rw [Deep.add_add] at e0 e1 e2
        have k5 : Tryd.prog.cellsOf 5 = 1 := by kernel_rfl
        have k9 : Tryd.prog.cellsOf 9 = 1 := by kernel_rfl
        have k2 : Tryd.prog.cellsOf 2 = 1 := by kernel_rfl
        simp [k5, k9, k2] at g0 g1 g2
        obtain ⟨z0, q0, _, _⟩ := DataW.trod_int Tryd.underlying5 g0
        obtain ⟨s, q1, _, hs⟩ := DataW.trod_string Tryd.underlying9 g1
        obtain ⟨z2, q2, _, _⟩ := DataW.trod_int Tryd.underlying2 g2
        simp at q0 q1 q2
        subst q0
        subst q1
        subst q2
        exact ⟨⟨z0, s, z2⟩, by simpa using e0, by simpa using e1, by simpa using e2, hs⟩)
    refine ⟨(List.range len).map f, ⟨some a, m, by simp, (fun e => by cases e), by simp; omega, fun hp => ?_⟩, fun z hz => ?_⟩
    · simp at hp
      obtain ⟨g, o, rfl⟩ := addr_plain (W := W) (a := a) (by simpa using (hfz 0 (by omega)).1)
      refine ⟨g, o, rfl, fun j hj => ?_⟩
      simp at hj
      obtain ⟨c0, c1, c2, _⟩ := hfz j (by omega)
      rw [add_plain] at c0 c1 c2
      refine ⟨?_, ?_, ?_⟩
      · simp; exact c0
      · simp; rw [← c1, Nat.add_assoc]
      · simp; rw [← c2, Nat.add_assoc]
    · obtain ⟨i, hi, rfl⟩ := List.mem_map.1 hz
      simp at hi
      exact (hfz i (by omega)).2.2.2
end

end Go.Proofs.Qxb6612988aDoor

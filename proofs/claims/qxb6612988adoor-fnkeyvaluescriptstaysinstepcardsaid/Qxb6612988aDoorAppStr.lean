/-
  append(b, s...) OF A STRING TO AN OWNED ROW: where the new row lies. Over any program; off the library's own laws.
-/
import Derived.Test.Qxb6612988aDoorDecKLG
import Derived.Lib.AppendStr
namespace Go.Proofs.Qxb6612988aDoor
open Go.RowKit Go.Lib

theorem run_append_string_at {P : Program} (w : World) (t u ty e : TypeId) (i : TypeInfo) (ht : P.underlying t = some (.slice e)) (hu : P.underlying u = some .string) (hi : P.info? e = some i) (hz : i.zero = some (.int .u8 0))
    (hsize : i.size = 1) (hby : i.bytes = 1) (v : Value) (n : Nat) (xs : List Value) (hown : w.ownsRow 0 e 1 v n xs) (hn : 0 < n) (s : ByteArray) (hlim : n + s.size ≤ 140737488355328) :
    ∃ v' w', (Builtin.append_ #[t, u] ty #[v, .string s]).run P w = .ok v' w' ∧ w'.ownsRow 0 e 1 v' (n + s.size) (xs ++ strCells s) ∧ w.grownBy w' v.ownBlock ∧ (v'.ownBlock = v.ownBlock ∨ v'.ownBlock = some w.heap.size) := by
  obtain ⟨v', w', hr, h2, h3, _⟩ := run_append_own_string (P := P) w 0 t u ty e i ht hu hi hz hsize hby v n xs hown s (by unfold maxLen; omega) hlim (Nat.zero_le _)
  refine ⟨v', w', hr, h2, h3, ?_⟩
  have hxl : xs.length = n := by simpa using hown.1
  have hcells := hown
  rcases hown.2 with ⟨_, h0⟩ | ⟨g, cap, cur, rfl, _, hg, hnc, hcm, hcs, _⟩
  · omega
  · by_cases hroom : n + s.size ≤ cap
    · have hr2 := run_append_room_string (P := P) w t u ty e i ht hu hi hsize g n cap cur hg s hroom (by omega)
      rw [hr2] at hr
      injection hr with e1 _
      rw [← e1]
      exact .inl rfl
    · have holds : ∀ j x, xs[j]? = some x → w.cell? ((⟨g, 0, none⟩ : Addr).add j) = some x := hcells.cells (g := g) rfl
      have hr2 := run_append_grow_string (P := P) w t u ty e i (.int .u8 0) ht hu hi hz ⟨g, 0, none⟩ n cap xs (by rw [hsize]; simpa using hxl) holds s (by omega) (by omega) (by rw [hby]; exact growslice_fits (by omega) (by omega))
      rw [hr2] at hr
      injection hr with e1 _
      rw [← e1]
      exact .inr rfl

theorem wpList_append_string_at {P : Program} {w : World} {ops : Array Oper} {rest : List Oper} {o : Oper} {a : Act} {Q : Exit → Act → World → Prop} (hgd : o.guard = none) (sl x : Operand) (t u : TypeId)
    (ho : o.op = .call { callee := .builtin .append, args := #[sl, x], argTypes := #[t, u] }) {s : ByteArray} {v v' : Value} {w' : World} (hs : a.eval sl = v) (hx : a.eval x = .string s)
    (hr : (Builtin.append_ #[t, u] o.type #[v, .string s]).run P w = .ok v' w') (h : wpList P ops Q rest (a.put o.dst v') w') : wpList P ops Q (o :: rest) a w := by
  refine wpList_plain hgd fun K hK => ?_
  unfold Oper.wp execOp
  simp only [ho, resolve, invoke, builtin, Sem.run_bind, Sem.run_pure, Result.andThen_ok, List.map_toArray, List.map_cons, List.map_nil, hs, hx, hr]
  exact hK _ _ h

end Go.Proofs.Qxb6612988aDoor

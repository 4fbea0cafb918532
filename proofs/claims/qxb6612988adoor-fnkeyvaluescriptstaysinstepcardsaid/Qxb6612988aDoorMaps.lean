/-
  A MAP FROM STRINGS, AS A LIST OF PAIRS: what look-up, store, len and clear do to it. Over any program.
-/
import Derived.Test.Qxb6612988aDoorLists
import Derived.Carry
import Derived.MapFrom
namespace Go.Proofs.Qxb6612988aDoor
open Go.RowKit

section
variable {α β : Type}
/-- The first pair of that key: its place (counted from i) and what it holds. -/
def kfind : List (ByteArray × α) → ByteArray → Nat → Option (Nat × α)
  | [], _, _ => none
  | e :: r, k, i => if k == e.1 then some (i, e.2) else kfind r k (i + 1)
def kget (M : List (ByteArray × α)) (k : ByteArray) : Option α := (kfind M k 0).map (·.2)
def kput : List (ByteArray × α) → ByteArray → α → List (ByteArray × α)
  | [], k, v => [(k, v)]
  | e :: r, k, v => if k == e.1 then (k, v) :: r else e :: kput r k v

theorem kfind_shift (M : List (ByteArray × α)) (k : ByteArray) : ∀ i, kfind M k i = (kfind M k 0).map fun p => (i + p.1, p.2) := by
  induction M with
  | nil => intro i; rfl
  | cons e r ih =>
    intro i
    simp only [kfind]
    split
    · simp
    · rw [ih (i + 1), ih (0 + 1)]
      cases kfind r k 0 <;> simp [Nat.add_assoc, Nat.add_comm 1]
theorem kget_nil (k : ByteArray) : kget ([] : List (ByteArray × α)) k = none := rfl
theorem kget_cons (e : ByteArray × α) (r : List (ByteArray × α)) (k : ByteArray) : kget (e :: r) k = if k == e.1 then some e.2 else kget r k := by
  simp only [kget, kfind]
  split
  · rfl
  · rw [kfind_shift]
    cases kfind r k 0 <;> rfl
theorem kget_put (M : List (ByteArray × α)) (k k' : ByteArray) (v : α) : kget (kput M k v) k' = if k' == k then some v else kget M k' := by
  induction M with
  | nil => simp only [kput, kget_cons, kget_nil]
  | cons e r ih =>
    simp only [kput]
    by_cases h : (k == e.1) = true
    · rw [if_pos h]
      have he : k = e.1 := (MapKept.bytes_beq _ _).1 h
      simp only [kget_cons]
      by_cases h2 : (k' == k) = true
      · rw [if_pos h2, if_pos h2]
      · rw [if_neg h2, if_neg h2, ← he, if_neg h2]
    · rw [if_neg h]
      simp only [kget_cons, ih]
      by_cases h3 : (k' == e.1) = true
      · rw [if_pos h3, if_pos h3]
        have e3 : k' = e.1 := (MapKept.bytes_beq _ _).1 h3
        rw [if_neg]
        intro h4
        apply h
        have e4 : k' = k := (MapKept.bytes_beq _ _).1 h4
        rw [← e4, e3]; exact (MapKept.bytes_beq _ _).2 rfl
      · rw [if_neg h3, if_neg h3]
theorem kput_none (M : List (ByteArray × α)) (k : ByteArray) (v : α) : kfind M k 0 = none → kput M k v = M ++ [(k, v)] := by
  induction M with
  | nil => intro _; rfl
  | cons e r ih =>
    intro h
    simp only [kfind] at h
    split at h
    · cases h
    · rename_i hne
      rw [kfind_shift] at h
      simp only [kput, if_neg hne]
      rw [ih (by cases hk : kfind r k 0 with | none => rfl | some p => rw [hk] at h; cases h)]
      rfl
theorem kput_some (M : List (ByteArray × α)) (k : ByteArray) (v : α) : ∀ d x, kfind M k 0 = some (d, x) → d < M.length ∧ kput M k v = M.set d (k, v) ∧ (M[d]?).map (·.1) = some k := by
  induction M with
  | nil => intro d x h; cases h
  | cons e r ih =>
    intro d x h
    simp only [kfind] at h
    split at h
    · rename_i he
      simp only [Option.some.injEq, Prod.mk.injEq] at h
      obtain ⟨rfl, rfl⟩ := h
      have he' : k = e.1 := (MapKept.bytes_beq _ _).1 he
      exact ⟨by simp, by simp [kput, if_pos he], by simp [he']⟩
    · rename_i hne
      rw [kfind_shift] at h
      cases hk : kfind r k 0 with
      | none => rw [hk] at h; cases h
      | some p =>
        rw [hk] at h
        simp only [Option.map_some, Option.some.injEq, Prod.mk.injEq] at h
        obtain ⟨rfl, rfl⟩ := h
        obtain ⟨h1, h2, h3⟩ := ih p.1 p.2 hk
        refine ⟨by simp; omega, ?_, ?_⟩
        · simp only [kput, if_neg hne, h2]
          rw [show 0 + 1 + p.1 = p.1 + 1 by omega]
          rfl
        · rw [show 0 + 1 + p.1 = p.1 + 1 by omega]
          simpa using h3
/-- Keys alone tell the places. -/
theorem kfind_map (f : α → β) (M : List (ByteArray × α)) (k : ByteArray) : ∀ i, kfind (M.map fun e => (e.1, f e.2)) k i = (kfind M k i).map fun p => (p.1, f p.2) := by
  induction M with
  | nil => intro i; rfl
  | cons e r ih => intro i; simp only [List.map_cons, kfind]; split <;> simp [ih]
theorem kget_map (f : α → β) (M : List (ByteArray × α)) (k : ByteArray) : kget (M.map fun e => (e.1, f e.2)) k = (kget M k).map f := by
  simp only [kget, kfind_map]
  cases kfind M k 0 <;> rfl
theorem kput_map (f : α → β) (M : List (ByteArray × α)) (k : ByteArray) (v : α) : (kput M k v).map (fun e => (e.1, f e.2)) = kput (M.map fun e => (e.1, f e.2)) k (f v) := by
  induction M with
  | nil => rfl
  | cons e r ih => simp only [List.map_cons, kput]; split <;> simp [ih]
end

/-- Block b is a map that holds the pairs M, in this order. -/
def MapAt (w : World) (b : Nat) (M : List (ByteArray × Value)) : Prop :=
  ∃ es clock, w.heap[b]? = some (.map es clock) ∧ es.toList.map (fun e => (e.key, e.val)) = M.map (fun e => (Value.string e.1, e.2))

theorem MapAt.kept {S : Nat → Prop} {w w' : World} {b : Nat} {M : List (ByteArray × Value)} (h : MapAt w b M) (k : Kept S w w') (hS : ¬ S b) : MapAt w' b M := by
  obtain ⟨es, clock, hb, he⟩ := h
  exact ⟨es, clock, k.here hb hS, he⟩

theorem findNow_is (k : ByteArray) : ∀ (es : List MapEntry) (M : List (ByteArray × Value)) (i : Nat), es.map (fun e => (e.key, e.val)) = M.map (fun e => (Value.string e.1, e.2)) →
    Instr.findNow .string (.string k) es i = some (kfind M k i) := by
  intro es
  induction es with
  | nil =>
    intro M i h
    cases M with
    | nil => rfl
    | cons _ _ => cases h
  | cons e r ih =>
    intro M i h
    cases M with
    | nil => cases h
    | cons m M =>
      simp only [List.map_cons, List.cons.injEq, Prod.mk.injEq] at h
      obtain ⟨⟨hk, hv⟩, hr⟩ := h
      simp only [Instr.findNow, kfind, hk, Instr.sameNow]
      cases (k == m.1) with
      | true => simp [hv]
      | false => simp [ih M (i + 1) hr]

section
variable {P : Program} {w : World} {b : Nat} {M : List (ByteArray × Value)}

theorem run_lookup (h : MapAt w b M) {t kt et : TypeId} (ht : P.underlying t = some (.map kt et)) (hk : P.underlying kt = some .string) (hz : (zeroValue et).run P w = .ok (.slice none 0 0) w) (k : ByteArray) :
    (Instr.lookup t (.map (some b)) (.string k) true).run P w = .ok (.tuple #[(kget M k).getD (.slice none 0 0), .bool (kget M k).isSome]) w ∧
    (Instr.lookup t (.map (some b)) (.string k) false).run P w = .ok ((kget M k).getD (.slice none 0 0)) w := by
  obtain ⟨es, clock, hb, he⟩ := h
  have hf := MapKept.run_findKey (P := P) (w := w) hk (findNow_is k es.toList M 0 he)
  have hc : ∀ e, (Instr.checkKey e 10000 kt (.string k)).run P w = .ok () w := fun e => MapKept.run_checkKey hk (by simp [MapKept.IsKey]) e 9999
  unfold kget
  cases hr : kfind M k 0 with
  | none =>
    rw [hr] at hf
    constructor <;> simp [Instr.lookup, run_underlying ht, MapKept.run_getObj_map hb, hc, hf, hz, Result.andThen]
  | some p =>
    rw [hr] at hf
    constructor <;> simp [Instr.lookup, run_underlying ht, MapKept.run_getObj_map hb, hc, hf, Result.andThen]

theorem run_lookup_nil {t kt et : TypeId} (ht : P.underlying t = some (.map kt et)) (hk : P.underlying kt = some .string) (hz : (zeroValue et).run P w = .ok (.slice none 0 0) w) (k : ByteArray) :
    (Instr.lookup t (.map none) (.string k) true).run P w = .ok (.tuple #[.slice none 0 0, .bool false]) w ∧
    (Instr.lookup t (.map none) (.string k) false).run P w = .ok (.slice none 0 0) w := by
  have hf := MapKept.run_findKey (P := P) (w := w) (l := []) hk (findNow_is k [] [] 0 rfl)
  have hc : ∀ e, (Instr.checkKey e 10000 kt (.string k)).run P w = .ok () w := fun e => MapKept.run_checkKey hk (by simp [MapKept.IsKey]) e 9999
  have hr : kfind ([] : List (ByteArray × Value)) k 0 = none := rfl
  rw [hr] at hf
  constructor <;> simp [Instr.lookup, run_underlying ht, hc, hf, hz, Result.andThen]

/-- A block of a map laid anew. -/
theorem kept_put (o : Obj) : Kept (fun k => k = b) w { w with heap := w.heap.setIfInBounds b o } :=
  ⟨rfl, rfl, rfl, by simp, fun k _ hn => by
    show (w.heap.setIfInBounds b o)[k]? = _
    rw [Array.getElem?_setIfInBounds_ne (fun e => hn e.symm)]⟩

theorem run_store (h : MapAt w b M) {t kt et : TypeId} (ht : P.underlying t = some (.map kt et)) (hk : P.underlying kt = some .string) (k : ByteArray) (v : Value) :
    ∃ w', (Instr.mapUpdate t (.map (some b)) (.string k) v).run P w = .ok () w' ∧ MapAt w' b (kput M k v) ∧ Kept (fun j => j = b) w w' := by
  obtain ⟨es, clock, hb, he⟩ := h
  have hlt := lt_of_block hb
  have hf := MapKept.run_findKey (P := P) (w := w) hk (findNow_is k es.toList M 0 he)
  have hc : ∀ e, (Instr.checkKey e 10000 kt (.string k)).run P w = .ok () w := fun e => MapKept.run_checkKey hk (by simp [MapKept.IsKey]) e 9999
  cases hr : kfind M k 0 with
  | none =>
    rw [hr] at hf
    refine ⟨_, by simp [Instr.mapUpdate, run_underlying ht, MapKept.run_getObj_map hb, hc, hf, MapKept.run_setObj_map _ hb, Result.andThen], ⟨es.push { key := .string k, val := v, born := clock }, clock + 1, (MapKept.heap_set hb).1, ?_⟩, kept_put _⟩
    rw [kput_none M k v hr]
    simp [he]
  | some p =>
    rw [hr] at hf
    obtain ⟨hd, hput, hkey⟩ := kput_some M k v p.1 p.2 hr
    have hlen : es.toList.length = M.length := by have := congrArg List.length he; simpa using this
    have hes : ∃ e, es[p.1]? = some e ∧ e.key = .string k := by
      have h1 : (es.toList.map (fun e => (e.key, e.val)))[p.1]? = (M.map (fun e => (Value.string e.1, e.2)))[p.1]? := by rw [he]
      rw [List.getElem?_map, List.getElem?_map] at h1
      cases hm : M[p.1]? with
      | none => rw [hm] at hkey; cases hkey
      | some m =>
        rw [hm] at hkey h1
        simp only [Option.map_some, Option.some.injEq] at hkey
        cases hq : es.toList[p.1]? with
        | none => rw [hq] at h1; cases h1
        | some q =>
          rw [hq] at h1
          simp only [Option.map_some, Option.some.injEq, Prod.mk.injEq] at h1
          exact ⟨q, by simpa using hq, by rw [h1.1, hkey]⟩
    obtain ⟨e0, he0, hk0⟩ := hes
    have hst : (Instr.keyThatStays (((es[p.1]?).map (·.key)).getD (.string k)) (.string k)).run P w = .ok (.string k) w := by
      rw [he0]
      simp [Instr.keyThatStays, hk0, Instr.sameBits, (MapKept.bytes_beq k k).2 rfl]
    refine ⟨_, by simp [Instr.mapUpdate, run_underlying ht, MapKept.run_getObj_map hb, hc, hf, hst, MapKept.run_setObj_map _ hb, Result.andThen], ⟨es.modify p.1 fun e => { e with key := .string k, val := v }, clock, (MapKept.heap_set hb).1, ?_⟩, kept_put _⟩
    rw [hput]
    apply List.ext_getElem?
    intro i
    have h1 : (es.toList.map (fun e => (e.key, e.val)))[i]? = (M.map (fun e => (Value.string e.1, e.2)))[i]? := by rw [he]
    rw [List.getElem?_map, List.getElem?_map] at h1
    rw [List.getElem?_map, List.getElem?_map, List.getElem?_set]
    rw [Array.getElem?_toList, Array.getElem?_modify]
    by_cases hi : p.1 = i
    · subst hi
      rw [if_pos rfl, if_pos rfl, if_pos hd, he0]
      rfl
    · rw [if_neg hi, if_neg hi]
      simpa using h1

theorem run_len (h : MapAt w b M) {t kt et ty : TypeId} (ht : P.underlying t = some (.map kt et)) : (Builtin.len_ #[t] ty #[.map (some b)]).run P w = .ok (.int .i64 M.length) w := by
  obtain ⟨es, clock, hb, he⟩ := h
  have hlen : es.size = M.length := by have := congrArg List.length he; simpa using this
  simp [Builtin.len_, run_underlying ht, MapKept.run_getObj_map hb, hlen, Result.andThen, goInt]

theorem run_clear (h : MapAt w b M) {t kt et ty : TypeId} (ht : P.underlying t = some (.map kt et)) : ∃ w', (Builtin.clear_ #[t] ty #[.map (some b)]).run P w = .ok (.tuple #[]) w' ∧ MapAt w' b [] ∧ Kept (fun j => j = b) w w' := by
  obtain ⟨es, clock, hb, he⟩ := h
  refine ⟨_, by simp [Builtin.clear_, run_underlying ht, MapKept.run_getObj_map hb, MapKept.run_setObj_map _ hb, Result.andThen], ⟨#[], clock, (MapKept.heap_set hb).1, rfl⟩, kept_put _⟩

theorem wpList_clear {ops : Array Oper} {rest : List Oper} {o : Oper} {a : Act} {Q : Exit → Act → World → Prop} (hgd : o.guard = none) (x : Operand) (t : TypeId)
    (ho : o.op = .call { callee := .builtin .clear, args := #[x], argTypes := #[t] }) {kt et : TypeId} (ht : P.underlying t = some (.map kt et)) (hx : a.eval x = .map (some b)) (h : MapAt w b M)
    (hK : ∀ w', MapAt w' b [] → Kept (fun j => j = b) w w' → wpList P ops Q rest (a.put o.dst (.tuple #[])) w') : wpList P ops Q (o :: rest) a w := by
  refine wpList_plain hgd fun K hK' => ?_
  obtain ⟨w', hrun, h1, h2⟩ := run_clear (P := P) (ty := o.type) h ht
  unfold Oper.wp
  simp [execOp, ho, resolve, invoke, builtin, hx, hrun, Result.andThen]
  exact hK' _ _ (hK w' h1 h2)
end

end Go.Proofs.Qxb6612988aDoor

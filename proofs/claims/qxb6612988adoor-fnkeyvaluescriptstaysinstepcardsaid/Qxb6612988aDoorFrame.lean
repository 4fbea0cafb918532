/-
  THE FRAME OF A CALL, SAID BY THE BLOCKS THAT IT MAY TURN: 'Kept S w w'': every block of w outside S lies in w' as it lay; blocks may have been added. Plain lemmas on worlds; no program.
-/
import Derived.WalkKit
import Derived.WalkSmall
namespace Go.Proofs.Qxb6612988aDoor
open Go.RowKit

structure Kept (S : Nat → Prop) (w w' : World) : Prop where
  os : w'.os = w.os
  tape : w'.tape = w.tape
  output : w'.output = w.output
  size : w.heap.size ≤ w'.heap.size
  block : ∀ k, k < w.heap.size → ¬ S k → w'.heap[k]? = w.heap[k]?

section
variable {S T : Nat → Prop} {a b c w w' : World}

theorem Kept.refl (S : Nat → Prop) (w : World) : Kept S w w := ⟨rfl, rfl, rfl, Nat.le_refl _, fun _ _ _ => rfl⟩
theorem Kept.mono (h : Kept S w w') (hS : ∀ k, k < w.heap.size → S k → T k) : Kept T w w' := ⟨h.os, h.tape, h.output, h.size, fun k hk hn => h.block k hk fun hs => hn (hS k hk hs)⟩
theorem Kept.trans (h : Kept S a b) (k : Kept T b c) (hT : ∀ i, i < a.heap.size → T i → S i) : Kept S a c :=
  ⟨k.os.trans h.os, k.tape.trans h.tape, k.output.trans h.output, Nat.le_trans h.size k.size, fun i hi hn => (k.block i (Nat.lt_of_lt_of_le hi h.size) fun ht => hn (hT i hi ht)).trans (h.block i hi hn)⟩
theorem Kept.drew (h : Kept S a w) : Kept S a w.drew := ⟨h.os, h.tape, h.output, h.size, h.block⟩
theorem Kept.drewN (h : Kept S a w) (n : Nat) : Kept S a (w.drewN n) := ⟨h.os, h.tape, h.output, h.size, h.block⟩
theorem Kept.alloc (h : Kept S a w) (o : Obj) : Kept S a (w.alloc o) :=
  ⟨h.os, h.tape, h.output, by have := h.size; simp; omega, fun k hk hn => (Below.heap_alloc _ _ _ (Nat.lt_of_lt_of_le hk h.size)).trans (h.block k hk hn)⟩
theorem Kept.setCell (h : Kept S a w) {p : Addr} (hp : p.block < a.heap.size → S p.block) (u : Value) : Kept S a (w.setCell p u) :=
  ⟨h.os, h.tape, h.output, by have := h.size; simpa using this, fun k hk hn => (Below.heap_setCell _ _ _ _ (by intro e; subst e; exact hn (hp hk))).trans (h.block k hk hn)⟩
theorem Kept.grown {row : Option Nat} (h : Kept S a w) (hg : w.grownBy w' row) (hr : ∀ k, row = some k → k < a.heap.size → S k) : Kept S a w' :=
  ⟨hg.os.trans h.os, hg.tape.trans h.tape, hg.output.trans h.output, Nat.le_trans h.size hg.size,
    fun k hk hn => (hg.block k (Nat.lt_of_lt_of_le hk h.size) (fun e => hn (hr k e.symm hk))).trans (h.block k hk hn)⟩
theorem Kept.below (h : Kept S w w') {B : Nat} (hB : ∀ k, k < B → k < w.heap.size ∧ ¬ S k) : Below B w w' :=
  ⟨h.os, h.tape, h.output, h.size, fun k hk => h.block k (hB k hk).1 (hB k hk).2⟩
theorem Kept.ofBelow {B : Nat} (h : Below B w w') : Kept (fun k => B ≤ k) w w' := ⟨h.os, h.tape, h.output, h.size, fun k _ hn => h.block k (Nat.lt_of_not_le hn)⟩
theorem Kept.here (h : Kept S w w') {k : Nat} {o : Obj} (hk : w.heap[k]? = some o) (hS : ¬ S k) : w'.heap[k]? = some o := (h.block k (lt_of_block hk) hS).trans hk
theorem Kept.cell (h : Kept S w w') {p : Addr} {v : Value} (hp : w.cell? p = some v) (hS : ¬ S p.block) : w'.cell? p = some v :=
  (World.cell?_of_block (h.block p.block (World.block_lt_of_cell? w p hp) hS)).trans hp
theorem Kept.frozen (h : Kept S w w') {p : Addr} (hlt : p.block < w.heap.size) (hS : ¬ S p.block) : w'.frozen? p = w.frozen? p := World.frozen?_of_block (w := w) (h.block p.block hlt hS)
theorem Kept.owns {base : Nat} {e : TypeId} {size : Nat} {v : Value} {n : Nat} {xs : List Value} (h : Kept S w w') (ho : w.ownsRow base e size v n xs) (hv : ∀ k, v.ownBlock = some k → ¬ S k) : w'.ownsRow base e size v n xs := by
  refine ⟨ho.1, ?_⟩
  rcases ho.2 with hn | ⟨g, cap, cur, rfl, hb, hg, r⟩
  · exact .inl hn
  · exact .inr ⟨g, cap, cur, rfl, hb, h.here hg (hv g rfl), r⟩
/-- What is read of old memory is as it was, where S holds new blocks alone. -/
theorem Kept.fresh (h : Kept S w w') (hS : ∀ k, S k → w.heap.size ≤ k) : Below w.heap.size w w' := h.below fun k hk => ⟨hk, fun hs => by have := hS k hs; omega⟩
end

/-! Blocks of a few cells, read and written. -/
section
variable {w : World} {b : Nat} {cs : Array Value} {t : TypeId}
theorem blk_cell (h : w.heap[b]? = some (.cells cs t (0, 0))) (j : Nat) : w.cell? ⟨b, j, none⟩ = cs[j]? := cell_of_row w b j cs t (0, 0) h
theorem blk_frozen (h : w.heap[b]? = some (.cells cs t (0, 0))) (j : Nat) : w.frozen? ⟨b, j, none⟩ = false := frozen_of_row w b j cs t h
theorem blk_set (h : w.heap[b]? = some (.cells cs t (0, 0))) (j : Nat) (v : Value) : (w.setCell ⟨b, j, none⟩ v).heap[b]? = some (.cells (cs.setIfInBounds j v) t (0, 0)) := heap_setCell_same w b j cs t v h
end

theorem own_mono {w : World} {base e size n : Nat} {v : Value} {xs : List Value} (h : w.ownsRow base e size v n xs) : w.ownsRow 0 e size v n xs := by
  refine ⟨h.1, ?_⟩
  rcases h.2 with hn | ⟨g, cap, cur, rfl, _, hg, r⟩
  · exact .inl hn
  · exact .inr ⟨g, cap, cur, rfl, Nat.zero_le _, hg, r⟩

end Go.Proofs.Qxb6612988aDoor

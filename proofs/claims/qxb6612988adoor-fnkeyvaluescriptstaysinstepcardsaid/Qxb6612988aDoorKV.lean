/-
  list, Encoder.KeyValue, ZZKeyValue, by their contracts.
-/
import Derived.Test.Qxb6612988aDoorEncStr
namespace Go.Proofs.Qxb6612988aDoor
open Go.RowKit

theorem assertList (v : Value) (w : World) : (Instr.typeAssert (.iface 89 v) 90 89 false).run Tryd.prog w = .ok v w := by kernel_rfl

set_option maxRecDepth 100000 in
set_option maxHeartbeats 1000000 in
theorem list_any (ao : Option Addr) (n c : Nat) (w : World) :
    Calls Tryd.prog 50 #[.iface 89 (.slice ao n c)] w fun e w' => e = .returned (.slice ao n c) ∧ w' = w := by
  have has := assertList
  go_enter Tryd.func50, Tryd.ntmps50
  go_wp2
  go_ret
  exact ⟨rfl, rfl⟩

theorem KLs.keptBy {eb : Nat} {w w' : World} {v v' : Value} {kb : Nat} {r : Option Nat} {most : Int} {M : List (ByteArray × Value)} (h : KLs w kb r most M) (k : Wrote eb w w' v v') (hE : ∃ t, w.heap[eb]? = some (.cells #[v, .int .i64 t] 28 (0, 0))) (hv : ∀ j, v.ownBlock = some j → ∃ cs, w.heap[j]? = some (.cells cs 5 (0, 0))) : KLs w' kb r most M := by
  obtain ⟨t, hb⟩ := hE
  refine h.kept k.1 ?_ ?_
  · rintro (e | e)
    · subst e; have := h.1; rw [hb] at this; simp at this
    · obtain ⟨cs, hc⟩ := hv kb e; have := h.1; rw [hc] at this; simp at this
  · rintro j hj (e | e)
    · subst e
      rcases h.2 with ⟨e', _⟩ | ⟨mb, e', es, cl, hm, _⟩
      · rw [e'] at hj; cases hj
      · rw [e'] at hj; cases hj; rw [hb] at hm; cases hm
    · obtain ⟨cs, hc⟩ := hv j e
      rcases h.2 with ⟨e', _⟩ | ⟨mb, e', es, cl, hm, _⟩
      · rw [e'] at hj; cases hj
      · rw [e'] at hj; cases hj; rw [hc] at hm; cases hm

theorem Enc.row {w : World} {eb : Nat} {v : Value} {l : List UInt8} (h : Enc w eb v l) : ∀ j, v.ownBlock = some j → ∃ cs, w.heap[j]? = some (.cells cs 5 (0, 0)) := by
  intro j hj
  rcases h.own.2 with ⟨rfl, _⟩ | ⟨g, cap, cur, rfl, _, hg, _⟩
  · simp [Value.ownBlock] at hj
  · cases hj; exact ⟨_, hg⟩
theorem Enc.sep {w : World} {eb : Nat} {v lv : Value} {l : List UInt8} (h : Enc w eb v l) (hs : Solid w lv) : ∀ j, lv.ownBlock = some j → j ≠ eb ∧ v.ownBlock ≠ some j := by
  intro j hj
  obtain ⟨cs, hc⟩ := hs j hj
  refine ⟨?_, fun e => ?_⟩
  · rintro rfl
    obtain ⟨t, hb⟩ := h.box
    rw [hb] at hc
    simp at hc
  · obtain ⟨cs', hc'⟩ := h.row j e
    rw [hc'] at hc
    simp at hc

theorem Enc.lt {w : World} {eb : Nat} {v : Value} {l : List UInt8} (h : Enc w eb v l) : eb < w.heap.size ∧ ∀ j, v.ownBlock = some j → j < w.heap.size := by
  obtain ⟨t, hb⟩ := h.box
  refine ⟨lt_of_block hb, fun j hj => ?_⟩
  obtain ⟨cs, hc⟩ := h.row j hj
  exact lt_of_block hc
theorem Enc.offKL {w : World} {eb kb : Nat} {v : Value} {l : List UInt8} {r : Option Nat} {most : Int} {M : List (ByteArray × Value)} (h : Enc w eb v l) (hk : KLs w kb r most M) : ∀ j, (j = eb ∨ v.ownBlock = some j) → ¬ (j = kb ∨ r = some j) := by
  intro j hj hn
  obtain ⟨t, hb⟩ := h.box
  have hm : ∀ mb, r = some mb → ∃ es cl, w.heap[mb]? = some (.map es cl) := by
    intro mb e
    rcases hk.2 with ⟨e', _⟩ | ⟨mb', e', es, cl, hm, _⟩
    · rw [e'] at e; cases e
    · rw [e'] at e; cases e; exact ⟨es, cl, hm⟩
  rcases hj with rfl | hj
  · rcases hn with rfl | hn
    · have := hk.1; rw [hb] at this; simp at this
    · obtain ⟨es, cl, h1⟩ := hm _ hn; rw [hb] at h1; cases h1
  · obtain ⟨cs, hc⟩ := h.row j hj
    rcases hn with rfl | hn
    · have := hk.1; rw [hc] at this; simp at this
    · obtain ⟨es, cl, h1⟩ := hm _ hn; rw [hc] at h1; cases h1

/-- What KeyValue writes. -/
def encKV (key : ByteArray) (ks zs : List Int) : List UInt8 := (Lib.uvarint key.size ++ key.data.toList) ++ encKL ks zs

/-- What KeyValue leaves behind. -/
def WroteKV (eb kb : Nat) (r : Option Nat) (most : Int) (M : List (ByteArray × Value)) (v : Value) (l : List UInt8) (w w' : World) : Prop :=
  ∃ v' r', Enc w' eb v' l ∧ KLs w' kb r' most M ∧ (r' = r ∨ (r = none ∧ ∃ b, r' = some b ∧ w.heap.size ≤ b)) ∧ Moved w v v' ∧ Kept (fun k => k = eb ∨ v.ownBlock = some k ∨ k = kb ∨ r = some k) w w'

set_option maxRecDepth 100000 in
set_option maxHeartbeats 4000000 in
theorem enc_keyValue (eb kb : Nat) (r : Option Nat) (most : Int) (M : List (ByteArray × Value)) (key : ByteArray) (v lv : Value) (l : List UInt8) (zs ks : List Int) (keep : Bool) (w : World)
    (h : Enc w eb v l) (hk : KLs w kb r most M) (hu : SeesI w ((kget M key).getD (.slice none 0 0)) ks) (hs : SeesI w lv zs) (hz : ∀ z ∈ zs, I64 z)
    (hS1 : Solid w lv) (hS2 : Solid w ((kget M key).getD (.slice none 0 0))) (hsep2 : ∀ j, lv.ownBlock = some j → ((kget M key).getD (.slice none 0 0)).ownBlock ≠ some j)
    (hlk : ks.length ≤ 1048576) (hlz : zs.length ≤ 1048576) (hkey : key.size ≤ 1048576) (hlim : l.length ≤ 1073741824) :
    Calls Tryd.prog 43 #[.pointer (some ⟨eb, 0, none⟩), .pointer (some ⟨kb, 0, none⟩), .agg #[.string key, .iface 89 lv], .bool keep] w fun e w' => e = .returned (.tuple #[]) ∧ WroteKV eb kb r most (if keep then keepM most M key lv else M) v (l ++ encKV key ks zs) w w' := by
  obtain ⟨la, lc, el⟩ : ∃ a c, lv = .slice a zs.length c := by obtain ⟨a, c, e, _⟩ := hs.form; exact ⟨a, c, e⟩
  obtain ⟨W0, eW0⟩ : ∃ W0, W0 = w.alloc (.cells #[.string key, .iface 89 lv] 92) := ⟨_, rfl⟩
  have k0 : Kept (fun _ => False) w W0 := by rw [eW0]; exact (Kept.refl _ _).alloc _
  have hbx : W0.heap[w.heap.size]? = some (.cells #[.string key, .iface 89 lv] 92 (0, 0)) := by rw [eW0]; exact heap_alloc_new _ _
  have h0 : Enc W0 eb v l := h.kept k0 (fun f => f) (fun _ _ f => f)
  have hk0 : KLs W0 kb r most M := hk.kept k0 (fun f => f) (fun _ _ f => f)
  obtain ⟨hl1, hl2⟩ := h.lt
  have hoff := h.offKL hk
  have hSt := enc_string eb key v l W0 h0 (by omega) (by omega)
  have cb0 : W0.cell? ⟨w.heap.size, 0, none⟩ = some (.string key) := by rw [blk_cell hbx]; rfl
  have cb1 : W0.cell? ⟨w.heap.size, 1, none⟩ = some (.iface 89 lv) := by rw [blk_cell hbx]; rfl
  have hLs := list_any la zs.length lc W0
  have hen := Lib.uvarint_length64 (x := key.size) (by omega)
  have HS : Hid (SeesI W0 lv zs ∧ Solid W0 lv ∧ SeesI W0 ((kget M key).getD (.slice none 0 0)) ks ∧ Solid W0 ((kget M key).getD (.slice none 0 0))) := ⟨hs.kept k0 (fun _ _ f => f), hS1.kept k0 (fun _ _ f => f), hu.kept k0 (fun _ _ f => f), hS2.kept k0 (fun _ _ f => f)⟩
  have HSEP : Hid (∀ j, lv.ownBlock = some j → ((kget M key).getD (.slice none 0 0)).ownBlock ≠ some j) := hsep2
  have HZ : Hid (∀ z ∈ zs, I64 z) := hz
  have H0 : Hid (Enc W0 eb v l ∧ KLs W0 kb r most M ∧ Kept (fun _ => False) w W0) := ⟨h0, hk0, k0⟩
  have HOFF : Hid (∀ j, (j = eb ∨ v.ownBlock = some j) → ¬ (j = kb ∨ r = some j)) := hoff
  have HLT : Hid (eb < w.heap.size ∧ ∀ j, v.ownBlock = some j → j < w.heap.size) := ⟨hl1, hl2⟩
  clear hs hS1 hu hS2 hsep2 hz h0 hk0 h hk k0 hbx hoff hl1 hl2
  have EW : Hid (W0 = w.alloc (.cells #[.string key, .iface 89 lv] 92)) := eW0
  clear eW0
  subst el
  go_enter Tryd.func43, Tryd.ntmps43
  have hLs2 := hLs
  rw [EW.out] at hLs2
  go_wp2_with fail
  refine hLs2.mono ?_
  rintro e w1 ⟨rfl, hw⟩
  rw [← EW.out] at hw
  replace hw := hw.symm
  subst hw
  clear hLs hLs2 cb1
  go_wp2_with fail
  refine hSt.mono ?_
  rintro e w1 ⟨rfl, v1, hE1, hW1⟩
  clear hSt
  have hlt := HLT.out
  have hnb : ¬ (w.heap.size = eb ∨ v.ownBlock = some w.heap.size) := by
    rintro (e | e)
    · omega
    · have := hlt.2 _ e; omega
  have cb01 : w1.cell? ⟨w.heap.size, 0, none⟩ = some (.string key) := hW1.1.cell cb0 hnb
  have hk1 : KLs w1 kb r most M := H0.out.2.1.kept hW1.1 (fun h => HOFF.out _ h (.inl rfl)) (fun j hj h => HOFF.out _ h (.inr hj))
  have hs1 : SeesI w1 (.slice la zs.length lc) zs := HS.out.1.kept hW1.1 (fun j hj h => by have := H0.out.1.sep HS.out.2.1 j hj; rcases h with h | h; exact this.1 h; exact this.2 h)
  have hs2 : Solid w1 (.slice la zs.length lc) := HS.out.2.1.kept hW1.1 (fun j hj h => by have := H0.out.1.sep HS.out.2.1 j hj; rcases h with h | h; exact this.1 h; exact this.2 h)
  have hu1 : SeesI w1 ((kget M key).getD (.slice none 0 0)) ks := HS.out.2.2.1.kept hW1.1 (fun j hj h => by have := H0.out.1.sep HS.out.2.2.2 j hj; rcases h with h | h; exact this.1 h; exact this.2 h)
  have hu2 : Solid w1 ((kget M key).getD (.slice none 0 0)) := HS.out.2.2.2.kept hW1.1 (fun j hj h => by have := H0.out.1.sep HS.out.2.2.2 j hj; rcases h with h | h; exact this.1 h; exact this.2 h)
  have hKL := enc_keyList eb kb r most M key v1 _ _ zs ks w1 hE1 hk1 hu1 hs1 HZ.out (hE1.sep hs2) hs2 hu2 HSEP.out (by omega) (by simp only [List.length_append, Array.length_toList]; have := key.size_data; omega)
  have hoff1 := hE1.offKL hk1
  have HK1 : Hid (KLs w1 kb r most M ∧ Wrote eb W0 w1 v v1 ∧ ∀ j, (j = eb ∨ v1.ownBlock = some j) → ¬ (j = kb ∨ r = some j)) := ⟨hk1, hW1, hoff1⟩
  have hl1 := hE1.lt
  have hnb1 : ¬ (w.heap.size = eb ∨ v1.ownBlock = some w.heap.size) := by
    rintro (e | e)
    · omega
    · exact hW1.off (by have := EW.out; rw [this]; simp) (fun e => hnb (.inr e)) e
  clear hs1 hs2 hu1 hu2 hE1 hW1 hk1 hoff1 hl1 cb0 hnb
  go_wp2_with fail
  refine hKL.mono ?_
  rintro e w2 ⟨rfl, v2, hE2, hW2⟩
  clear hKL
  have cb02 := hW2.1.cell cb01 hnb1
  have hk2 : KLs w2 kb r most M := HK1.out.1.kept hW2.1 (fun h => HK1.out.2.2 _ h (.inl rfl)) (fun j hj h => HK1.out.2.2 _ h (.inr hj))
  have hW02 : Wrote eb W0 w2 v v2 := HK1.out.2.1.trans hW2
  have hE2' : Enc w2 eb v2 (l ++ encKV key ks zs) := by
    have e : l ++ encKV key ks zs = l ++ (Lib.uvarint key.size ++ key.data.toList) ++ encKL ks zs := by unfold encKV; simp only [List.append_assoc]
    rw [e]; exact hE2
  have hmv : Moved w v v2 := by
    rcases hW02.2 with e | ⟨k, e, hk⟩
    · exact .inl e
    · exact .inr ⟨k, e, Nat.le_trans H0.out.2.2.size hk⟩
  have hkW : Kept (fun k => k = eb ∨ v.ownBlock = some k ∨ k = kb ∨ r = some k) w w2 := (H0.out.2.2.mono (T := fun k => k = eb ∨ v.ownBlock = some k ∨ k = kb ∨ r = some k) (fun _ _ f => f.elim)).trans hW02.1 (fun i _ h => by rcases h with h | h; exact .inl h; exact .inr (.inl h))
  have hoff2 := hE2'.offKL hk2
  cases keep with
  | false =>
    have HR : Hid (WroteKV eb kb r most M v (l ++ encKV key ks zs) w w2) := ⟨v2, r, hE2', hk2, .inl rfl, hmv, hkW⟩
    clear hE2 hE2' hk2 hW02 hmv hkW hoff2 hW2 cb01
    go_wp2
    go_end0
    exact ⟨rfl, HR.out⟩
  | true =>
    have hKp := keep_any kb r most M key (.slice la zs.length lc) w2 hk2 ⟨_, _, _, rfl⟩
    have HE : Hid (Enc w2 eb v2 (l ++ encKV key ks zs) ∧ Moved w v v2 ∧ Kept (fun k => k = eb ∨ v.ownBlock = some k ∨ k = kb ∨ r = some k) w w2 ∧ ∀ j, (j = eb ∨ v2.ownBlock = some j) → ¬ (j = kb ∨ r = some j)) := ⟨hE2', hmv, hkW, hoff2⟩
    clear hE2 hE2' hk2 hW02 hmv hkW hoff2 hW2 cb01
    go_wp2_with fail
    refine hKp.mono ?_
    rintro e w3 ⟨rfl, mb, hk3, hK3, hr3⟩
    clear hKp
    have HR : Hid (WroteKV eb kb r most (keepM most M key (.slice la zs.length lc)) v (l ++ encKV key ks zs) w w3) := by
      obtain ⟨e1, e2, e3, e4⟩ := HE.out
      refine ⟨v2, some mb, e1.kept hK3 (fun h => e4 _ (.inl rfl) h) (fun j hj h => e4 _ (.inr hj) h), hk3, ?_, e2, e3.trans hK3 (fun i _ h => .inr (.inr h))⟩
      rcases hr3 with e | ⟨e, e'⟩
      · exact .inl e.symm
      · exact .inr ⟨e, mb, rfl, by rw [e']; exact e3.size⟩
    clear hk3 hK3 hr3
    go_wp2
    go_end0
    exact ⟨rfl, HR.out⟩

set_option maxRecDepth 100000 in
set_option maxHeartbeats 2000000 in
theorem zzKeyValue (eb kb : Nat) (r : Option Nat) (most : Int) (M : List (ByteArray × Value)) (key : ByteArray) (v lv : Value) (l : List UInt8) (zs ks : List Int) (keep : Bool) (w : World)
    (h : Enc w eb v l) (hk : KLs w kb r most M) (hu : SeesI w ((kget M key).getD (.slice none 0 0)) ks) (hs : SeesI w lv zs) (hz : ∀ z ∈ zs, I64 z)
    (hS1 : Solid w lv) (hS2 : Solid w ((kget M key).getD (.slice none 0 0))) (hsep2 : ∀ j, lv.ownBlock = some j → ((kget M key).getD (.slice none 0 0)).ownBlock ≠ some j)
    (hlk : ks.length ≤ 1048576) (hlz : zs.length ≤ 1048576) (hkey : key.size ≤ 1048576) (hlim : l.length ≤ 1073741824) :
    Calls Tryd.prog 23 #[.pointer (some ⟨eb, 0, none⟩), .pointer (some ⟨kb, 0, none⟩), .string key, lv, .bool keep] w fun e w' => e = .returned (.tuple #[]) ∧ WroteKV eb kb r most (if keep then keepM most M key lv else M) v (l ++ encKV key ks zs) w w' := by
  have hE := enc_keyValue eb kb r most M key v lv l zs ks keep w h hk hu hs hz hS1 hS2 hsep2 hlk hlz hkey hlim
  obtain ⟨la, lc, el⟩ : ∃ a c, lv = .slice a zs.length c := by obtain ⟨a, c, e, _⟩ := hs.form; exact ⟨a, c, e⟩
  subst el
  clear h hk hu hs hz hS1 hS2 hsep2
  generalize (if keep = true then keepM most M key (.slice la zs.length lc) else M) = M2 at *
  go_enter Tryd.func23, Tryd.ntmps23
  go_wp2_with fail
  refine hE.mono ?_
  rintro e w1 ⟨rfl, hR⟩
  clear hE
  go_wp2
  go_end0
  exact ⟨rfl, hR⟩

end Go.Proofs.Qxb6612988aDoor

/-
  encoding/binary's AppendUvarint and AppendVarint onto a slice of the call's own, WITH THE EXACT FRAME: the one old block that may turn is the slice's own; the slice that comes back lies there or in a new block. Over any program in which the library's bodies lie ('LaysBin'); after the shelf's own two proofs.
-/
import Derived.Test.Qxb6612988aDoorFrame
import Derived.Shelf.Bin.Lays
import Derived.Maps.AppendAt
import Derived.Lib.Walk
import Derived.Lib.VarintMem
import Derived.Lib.Slices
import Derived.OwnWalk
import Derived.Lib.Zigzag
import Derived.BigCall
namespace Go.Proofs.Qxb6612988aDoor
open Go.Shelf Go.RowKit
variable {P : Program} {ρ : Ren}

/-- Where a slice lies behind an append: in its old row or in a block that is new. -/
def Moved (w : World) (v v' : Value) : Prop := v'.ownBlock = v.ownBlock ∨ ∃ k, v'.ownBlock = some k ∧ w.heap.size ≤ k

set_option maxHeartbeats 8000000 in
set_option maxRecDepth 100000 in
theorem append_uvarint (L : LaysBin.n47 P ρ) (n x : Nat) (hx : x < 18446744073709551616) (sv : Value) (xs : List Value) (w : World) (hown : w.ownsRow 0 (ρ.t 5) 1 sv n xs) (hlim : n + 10 ≤ 140737488355328) :
    Calls P (ρ.f 47) #[sv, .int .u64 x] w fun e w' => ∃ v', e = .returned v' ∧ w'.ownsRow 0 (ρ.t 5) 1 v' (n + (Lib.uvarint x).length) (xs ++ Lib.byteCells (Lib.uvarint x)) ∧ Kept (fun k => sv.ownBlock = some k) w w' ∧ Moved w sv v' := by
  have mixed := L.mixed
  have t22 := L.t22; have u22 := run_underlying L.t22; have a22 := L.a22; have z22 := L.z22; have v22 := L.v22
  have t33 := L.t33; have a33 := L.a33; have z33 := L.z33; have v33 := L.v33
  have t4 := L.t4; have a4 := L.a4; have z4 := L.z4; have v4 := L.v4
  have t5 := L.t5; have a5 := L.a5; have z5 := L.z5; have v5 := L.v5
  have t45 := L.t45; have a45 := L.a45; have z45 := L.z45; have v45 := L.v45
  obtain ⟨i0, hi, hz0, hz1, hz2⟩ := info_parts L.i5
  have hlen := Lib.uvarint_length64 hx
  go_enter L.f47, BodyBin.n47_ntmps ρ
  go_wp2
  go_loopw [0, 1] (fun vb vx wr => ∃ (y : Nat) (pre : List UInt8), vx = .int .u64 y ∧ y ≤ x ∧ Lib.uvarint x = pre ++ Lib.uvarint y ∧ wr.ownsRow 0 (ρ.t 5) 1 vb (n + pre.length) (xs ++ Lib.byteCells pre) ∧ Kept (fun k => sv.ownBlock = some k) w wr ∧ Moved w sv vb)
    (fun _ vx _ => (intOf vx).toNat)
  case atStart => exact ⟨x, [], rfl, Nat.le_refl _, rfl, by simpa [Lib.byteCells] using hown, Kept.refl _ _, .inl rfl⟩
  case round =>
    obtain ⟨y, pre, rfl, hy, hsplit, hown1, hnx, hmv⟩ := hrel
    have hpl : pre.length + (Lib.uvarint y).length ≤ 10 := by
      have h2 := congrArg List.length hsplit
      rw [List.length_append] at h2
      omega
    have hyp := Lib.uvarint_pos y
    have hsz := hnx.size
    by_cases h128 : 128 ≤ y
    · have hor : bits .or .u8 ((y : Int) % 256) 128 = ((y % 128 + 128 : Nat) : Int) := by
        rw [Lib.u8_or128_any _ (by omega) (by omega)]
        omega
      go_wp2_with (at_builtin; refine wpList_append_own_at _ rfl _ _ (ρ.t 22) rfl 0 (ρ.t 5) i0 (.int .u8 0) 1 1 L.t22 hi hz0 hz1 hz2 rfl (by decide) _ _ _ rfl (hown1.alloc _) ⟨wr.heap.size, 0, none⟩ 1 1 [Value.int .u8 ((y % 128 + 128 : Nat) : Int)] rfl rfl ?c1 ?c2 ?c3 ?c4 ?c5 ?_)
      case c1 =>
        intro j u hj
        match j, hj with
        | 0, hj => simp at hj; subst hj; simp [Addr.add]
      case c2 => intro u hu; simp at hu; subst hu; rfl
      case c3 => unfold maxLen; omega
      case c4 => omega
      case c5 => exact Nat.zero_le _
      intro v' w1 hown' hgrow _ hat
      have hnx1 : Kept (fun k => sv.ownBlock = some k) w w1 := (hnx.alloc _).grown hgrow (fun k hk hlt => by
        rcases hmv with e | ⟨k', e, hk'⟩
        · exact e ▸ hk
        · rw [e] at hk; cases hk; omega)
      have hmv1 : Moved w sv v' := by
        rcases hat with e | e
        · rcases hmv with f | ⟨k', f, hk'⟩
          · exact .inl (e.trans f)
          · exact .inr ⟨k', e.trans f, hk'⟩
        · refine .inr ⟨_, e, ?_⟩

          omega
      clear hat hmv
      go_wp2
      go_roundw
      case rel =>
        refine ⟨y / 128, pre ++ [(y % 128 + 128).toUInt8], by go_num, by omega, by rw [hsplit, Lib.uvarint_big h128]; simp, ?_, hnx1, hmv1⟩
        have ec : ((y % 128 + 128 : Nat) : Int) = (y : Int) % 128 + 128 := by omega
        rw [Lib.byteCells_snoc pre (by omega), List.length_append, List.length_singleton, ← Nat.add_assoc, ec]
        exact hown'
      case measure => simp [intOf]; omega
    · have hsm : Lib.uvarint y = [y.toUInt8] := Lib.uvarint_small (by omega)
      go_wp2_with (at_builtin; refine wpList_append_own_at _ rfl _ _ (ρ.t 22) rfl 0 (ρ.t 5) i0 (.int .u8 0) 1 1 L.t22 hi hz0 hz1 hz2 rfl (by decide) _ _ _ rfl (hown1.alloc _) ⟨wr.heap.size, 0, none⟩ 1 1 [Value.int .u8 (y : Int)] rfl rfl ?c1 ?c2 ?c3 ?c4 ?c5 ?_)
      case c1 =>
        intro j u hj
        match j, hj with
        | 0, hj => simp at hj; subst hj; simp [Addr.add]
      case c2 => intro u hu; simp at hu; subst hu; rfl
      case c3 => unfold maxLen; omega
      case c4 => omega
      case c5 => exact Nat.zero_le _
      intro v' w1 hown' hgrow _ hat
      have hnx1 : Kept (fun k => sv.ownBlock = some k) w w1 := (hnx.alloc _).grown hgrow (fun k hk hlt => by
        rcases hmv with e | ⟨k', e, hk'⟩
        · exact e ▸ hk
        · rw [e] at hk; cases hk; omega)
      have hmv1 : Moved w sv v' := by
        rcases hat with e | e
        · rcases hmv with f | ⟨k', f, hk'⟩
          · exact .inl (e.trans f)
          · exact .inr ⟨k', e.trans f, hk'⟩
        · refine .inr ⟨_, e, ?_⟩

          omega
      clear hat hmv
      go_wp2
      go_ret
      refine ⟨v', rfl, ?_, hnx1, hmv1⟩
      rw [hsplit, hsm, Lib.byteCells_snoc pre (by omega), List.length_append, List.length_singleton, ← Nat.add_assoc]
      exact hown'

set_option maxHeartbeats 8000000 in
set_option maxRecDepth 100000 in
theorem append_varint (L : LaysBin.n50 P ρ) (n : Nat) (x : Int) (h0 : -9223372036854775808 ≤ x) (h1 : x ≤ 9223372036854775807) (sv : Value) (xs : List Value) (w : World) (hown : w.ownsRow 0 (ρ.t 5) 1 sv n xs) (hlim : n + 10 ≤ 140737488355328) :
    Calls P (ρ.f 50) #[sv, .int .i64 x] w fun e w' => ∃ v', e = .returned v' ∧ w'.ownsRow 0 (ρ.t 5) 1 v' (n + (Lib.uvarint (Lib.zigzag x)).length) (xs ++ Lib.byteCells (Lib.uvarint (Lib.zigzag x))) ∧ Kept (fun k => sv.ownBlock = some k) w w' ∧ Moved w sv v' := by
  have mixed := L.mixed
  have t22 := L.t22; have u22 := run_underlying L.t22; have a22 := L.a22; have z22 := L.z22; have v22 := L.v22
  have t2 := L.t2; have a2 := L.a2; have z2 := L.z2; have v2 := L.v2
  have t33 := L.t33; have a33 := L.a33; have z33 := L.z33; have v33 := L.v33
  have t45 := L.t45; have a45 := L.a45; have z45 := L.z45; have v45 := L.v45
  have t4 := L.t4; have a4 := L.a4; have z4 := L.z4; have v4 := L.v4
  have e47 : ∀ args w, (callFunc (ρ.f 47) args).run P w = .ok (.enter (ρ.f 47) args) w := enters_of L.f47 (by kernel_rfl) rfl
  have hU := append_uvarint { L with } n (Lib.zigzag x) (Lib.zigzag_lt h0 h1) sv xs w hown hlim
  by_cases hneg : x < 0
  · rw [← Lib.zigzag_neg h0 hneg] at hU
    go_enter L.f50, BodyBin.n50_ntmps ρ
    go_wp2_with (go_at_fn (ρ.f 47); refine hU.mono ?_; rintro e w1 ⟨v', rfl, ho, hb, hm⟩)
    go_wp2
    go_ret
    exact ⟨v', rfl, ho, hb, hm⟩
  · rw [Lib.zigzag_nonneg (by omega)] at hU
    go_enter L.f50, BodyBin.n50_ntmps ρ
    go_wp2_with (go_at_fn (ρ.f 47); refine hU.mono ?_; rintro e w1 ⟨v', rfl, ho, hb, hm⟩)
    go_wp2
    go_ret
    exact ⟨v', rfl, ho, hb, hm⟩

end Go.Proofs.Qxb6612988aDoor

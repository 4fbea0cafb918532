/-
  firstWordIs: its contract, and the plain laws on it.
-/
import Derived.Test.Qxb6613073aRows
import Derived.WalkKit
import Derived.WalkSpells
import Derived.WalkLawsBesides
import Derived.Lib.Strings
namespace Go.Proofs.Qxb6613073a
open Go.RowKit

/-- What is left behind the word: nothing, or a dash first. -/
def tailOk : List UInt8 → Bool
  | [] => true
  | c :: _ => c == 45
/-- p is n, or n begins with p and a dash. -/
def fwL (n p : List UInt8) : Bool := (n.take p.length == p) && tailOk (n.drop p.length)

theorem fwL_append (p r : List UInt8) : fwL (p ++ r) p = tailOk r := by simp [fwL]
theorem fwL_split {n p : List UInt8} (h : fwL n p = true) : ∃ r, n = p ++ r ∧ tailOk r = true := by
  simp only [fwL, Bool.and_eq_true, beq_iff_eq] at h
  refine ⟨n.drop p.length, ?_, h.2⟩
  have := List.take_append_drop p.length n
  rw [h.1] at this
  exact this.symm
theorem fwL_self (p : List UInt8) : fwL p p = true := by simp [fwL, tailOk]

theorem tailOk_append {r s : List UInt8} (h : tailOk s = true) (hr : tailOk r = true) : tailOk (r ++ s) = true := by
  cases r with
  | nil => exact h
  | cons c r => exact hr

theorem fwL_trans {a b c : List UInt8} (h1 : fwL a b = true) (h2 : fwL b c = true) : fwL a c = true := by
  obtain ⟨r, rfl, hr⟩ := fwL_split h1
  obtain ⟨s, rfl, hs⟩ := fwL_split h2
  rw [List.append_assoc, fwL_append]
  exact tailOk_append hr hs

theorem fwL_antisymm {a b : List UInt8} (h1 : fwL a b = true) (h2 : fwL b a = true) : a = b := by
  obtain ⟨r, e1, _⟩ := fwL_split h1
  obtain ⟨s, e2, _⟩ := fwL_split h2
  have h := congrArg List.length e1
  have g := congrArg List.length e2
  rw [List.length_append] at h g
  have : r = [] := List.eq_nil_of_length_eq_zero (by omega)
  rw [e1, this, List.append_nil]

/-- A word no longer than a is a first word of a-b just where it is one of a. -/
theorem fwL_joined (a b w : List UInt8) (h : w.length ≤ a.length) : fwL (a ++ 45 :: b) w = fwL a w := by
  unfold fwL
  rw [List.take_append_of_le_length h, List.drop_append_of_le_length h]
  congr 1
  cases hd : a.drop w.length with
  | nil => rfl
  | cons c r => rfl

theorem set_hasPrefix (n p : ByteArray) : ((n.extract 0 p.size).toList == p.toList) = (n.data.toList.take p.data.toList.length == p.data.toList) := by
  rw [Lib.extract_toList, Lib.toList_data]
  simp

set_option maxHeartbeats 1000000 in
theorem fw_any (n p : ByteArray) (w : World) (_hn : n.size ≤ maxLen) (_hp : p.size ≤ maxLen) (b : Bool) (hb : fwL n.data.toList p.data.toList = b) :
    Calls Try.prog 11 #[.string n, .string p] w fun e w' => e = .returned (.bool b) ∧ w' = w := by
  have hN : n.data.toList.length = n.size := rfl
  have hP : p.data.toList.length = p.size := rfl
  have hrest : (n.extract p.size n.size).toList = n.data.toList.drop p.size := by
    rw [Lib.extract_toList, List.take_of_length_le (by rw [List.length_drop, hN]; exact Nat.le_refl _)]
  unfold maxLen at _hn _hp
  unfold fwL at hb
  rw [← set_hasPrefix, hP] at hb
  by_cases h : p.size ≤ n.size
  · cases hpre : ((n.extract 0 p.size).toList == p.toList) with
    | false =>
      rw [hpre, Bool.false_and] at hb
      subst hb
      clear hN hP hrest
      go_enter Try.func11, Try.ntmps11
      go_wp2
      go_ret
      exact ⟨rfl, rfl⟩
    | true =>
      rw [hpre, Bool.true_and] at hb
      by_cases hlt : p.size < n.size
      · have hd : n.data.toList.drop p.size = n[p.size] :: n.data.toList.drop (p.size + 1) := List.drop_eq_getElem_cons (by rw [hN]; exact hlt)
        have e0 : ∀ h0, ((n.extract p.size n.size)[0]'h0) = n[p.size] := fun h0 => by
          show (n.extract p.size n.size).data.toList[0]'(by exact h0) = _
          have e1 : (n.extract p.size n.size).data.toList = n[p.size] :: n.data.toList.drop (p.size + 1) := by rw [← Lib.toList_data, hrest, hd]
          simp only [e1, List.getElem_cons_zero]
        have hne : ¬ (n.extract p.size n.size).toList = [] := by rw [hrest, hd]; simp
        have hie : (n.extract p.size n.size).toList.isEmpty = false := by rw [hrest, hd]; rfl
        rw [hd] at hb
        have hb2 : (n[p.size] == 45) = b := hb
        have hb3 : (((n[p.size]).toNat : Int) == 45) = b := by
          rw [← hb2, Bool.eq_iff_iff]
          simp only [beq_iff_eq]
          constructor
          · intro h; apply UInt8.toNat_inj.1; show n[p.size].toNat = 45; omega
          · intro h; rw [h]; rfl
        have HB : Hid ((((n[p.size]).toNat : Int) == 45) = b) := hb3
        clear hN hP hrest hd hb hb2 hb3
        go_enter Try.func11, Try.ntmps11
        go_wp2
        go_ret
        exact ⟨congrArg (fun q => Ending.returned (.bool q)) HB.out, rfl⟩
      · have hd : n.data.toList.drop p.size = [] := List.drop_eq_nil_of_le (by rw [hN]; omega)
        rw [hd] at hb hrest
        have hie : (n.extract p.size n.size).toList.isEmpty = true := by rw [hrest]; rfl
        have hb2 : true = b := hb
        subst hb2
        clear hN hP hd hb
        go_enter Try.func11, Try.ntmps11
        go_wp2
        go_ret
        exact ⟨rfl, rfl⟩
  · have hb2 : false = b := by
      rw [← hb]
      have : ((n.extract 0 p.size).toList == p.toList) = false := by
        rw [set_hasPrefix, beq_eq_false_iff_ne]
        intro e
        have := congrArg List.length e
        rw [List.length_take, hP, hN] at this
        omega
      rw [this]; rfl
    subst hb2
    clear hN hP hrest hb
    go_enter Try.func11, Try.ntmps11
    go_wp2
    go_ret
    exact ⟨rfl, rfl⟩

set_option maxHeartbeats 400000 in
theorem zz_any (n p : ByteArray) (w : World) (hn : n.size ≤ maxLen) (hp : p.size ≤ maxLen) (b : Bool) (hb : fwL n.data.toList p.data.toList = b) :
    Calls Try.prog 7 #[.string n, .string p] w fun e w' => e = .returned (.bool b) ∧ w' = w := by
  have hF := fw_any n p w hn hp b hb
  clear hn hp hb
  go_enter Try.func7, Try.ntmps7
  go_wp2_with fail
  refine hF.mono ?_
  rintro e w1 ⟨rfl, hw⟩
  replace hw := hw.symm
  subst hw
  clear hF
  go_wp2
  go_ret
  exact ⟨rfl, rfl⟩

end Go.Proofs.Qxb6613073a

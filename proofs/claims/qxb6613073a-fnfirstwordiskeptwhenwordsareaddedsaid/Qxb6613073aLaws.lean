/-
  THE TWO LAWS' WALKS.
-/
import Derived.Test.Qxb6613073aWords
namespace Go.Proofs.Qxb6613073a
open Go.RowKit

set_option maxHeartbeats 1000000 in
theorem zzb6 (a b c : ByteArray) (w : World) (ha : a.size ≤ maxLen) (hb : b.size ≤ maxLen) (hc : c.size ≤ maxLen) (r : Bool) (hr : decide (a.size + b.size + c.size ≤ 1048576) = r) :
    Calls Try.prog 6 #[.string a, .string b, .string c] w fun e w' => e = .returned (.bool r) ∧ w' = w := by
  unfold maxLen at ha hb hc
  subst hr
  by_cases g0 : a.size ≤ 1048576
  · by_cases g1 : b.size ≤ 1048576
    · by_cases g2 : a.size + b.size ≤ 1048576
      · by_cases g3 : c.size ≤ 1048576
        · by_cases g4 : a.size + b.size + c.size ≤ 1048576
          · rw [decide_eq_true g4]
            go_enter Try.func6, Try.ntmps6
            go_wp2
            go_ret
            exact ⟨rfl, rfl⟩
          · rw [decide_eq_false g4]
            go_enter Try.func6, Try.ntmps6
            go_wp2
            go_ret
            exact ⟨rfl, rfl⟩
        · rw [decide_eq_false (by omega)]
          go_enter Try.func6, Try.ntmps6
          go_wp2
          go_ret
          exact ⟨rfl, rfl⟩
      · rw [decide_eq_false (by omega)]
        go_enter Try.func6, Try.ntmps6
        go_wp2
        go_ret
        exact ⟨rfl, rfl⟩
    · rw [decide_eq_false (by omega)]
      go_enter Try.func6, Try.ntmps6
      go_wp2
      go_ret
      exact ⟨rfl, rfl⟩
  · rw [decide_eq_false (by omega)]
    go_enter Try.func6, Try.ntmps6
    go_wp2
    go_ret
    exact ⟨rfl, rfl⟩

set_option maxHeartbeats 1000000 in
theorem zzb8 (a b c : ByteArray) (w : World) (ha : a.size ≤ maxLen) (hb : b.size ≤ maxLen) (hc : c.size ≤ maxLen) (r : Bool) (hr : decide (a.size + b.size + c.size ≤ 1048576) = r) :
    Calls Try.prog 8 #[.string a, .string b, .string c] w fun e w' => e = .returned (.bool r) ∧ w' = w := by
  unfold maxLen at ha hb hc
  subst hr
  by_cases g0 : a.size ≤ 1048576
  · by_cases g1 : b.size ≤ 1048576
    · by_cases g2 : a.size + b.size ≤ 1048576
      · by_cases g3 : c.size ≤ 1048576
        · by_cases g4 : a.size + b.size + c.size ≤ 1048576
          · rw [decide_eq_true g4]
            go_enter Try.func8, Try.ntmps8
            go_wp2
            go_ret
            exact ⟨rfl, rfl⟩
          · rw [decide_eq_false g4]
            go_enter Try.func8, Try.ntmps8
            go_wp2
            go_ret
            exact ⟨rfl, rfl⟩
        · rw [decide_eq_false (by omega)]
          go_enter Try.func8, Try.ntmps8
          go_wp2
          go_ret
          exact ⟨rfl, rfl⟩
      · rw [decide_eq_false (by omega)]
        go_enter Try.func8, Try.ntmps8
        go_wp2
        go_ret
        exact ⟨rfl, rfl⟩
    · rw [decide_eq_false (by omega)]
      go_enter Try.func8, Try.ntmps8
      go_wp2
      go_ret
      exact ⟨rfl, rfl⟩
  · rw [decide_eq_false (by omega)]
    go_enter Try.func8, Try.ntmps8
    go_wp2
    go_ret
    exact ⟨rfl, rfl⟩

set_option maxHeartbeats 1000000 in
theorem kept_long (a b c : ByteArray) (w : World) (ha : a.size ≤ maxLen) (hb : b.size ≤ maxLen) (hc : c.size ≤ maxLen) (hbig : ¬ (a.size + b.size + c.size ≤ 1048576)) :
    Calls Try.prog 3 #[.string a, .string b, .string c] w fun e w' => e = .returned (.bool true) ∧ w' = w := by
  have hZ := zzb6 a b c w ha hb hc false (decide_eq_false hbig)
  clear ha hb hc
  go_enter Try.func3, Try.ntmps3
  go_wp2_with fail
  refine hZ.mono ?_
  rintro e w1 ⟨rfl, hw⟩
  replace hw := hw.symm
  subst hw
  clear hZ
  go_wp2
  go_ret
  exact ⟨rfl, rfl⟩

set_option maxHeartbeats 1000000 in
theorem kept_big (a b c : ByteArray) (w : World) (hsm : a.size + b.size + c.size ≤ 1048576) (hbig : 65536 < a.size ∨ 65536 < b.size ∨ 65536 < c.size) :
    Calls Try.prog 3 #[.string a, .string b, .string c] w fun e w' => e = .returned (.bool true) ∧ w' = w := by
  have hZ := zzb6 a b c w (by unfold maxLen; omega) (by unfold maxLen; omega) (by unfold maxLen; omega) true (decide_eq_true hsm)
  by_cases ga : 65536 < a.size
  · clear hbig
    go_enter Try.func3, Try.ntmps3
    go_wp2_with fail
    refine hZ.mono ?_
    rintro e w1 ⟨rfl, hw⟩
    replace hw := hw.symm
    subst hw
    clear hZ
    go_wp2
    go_ret
    exact ⟨rfl, rfl⟩
  · by_cases gb : 65536 < b.size
    · clear hbig
      go_enter Try.func3, Try.ntmps3
      go_wp2_with fail
      refine hZ.mono ?_
      rintro e w1 ⟨rfl, hw⟩
      replace hw := hw.symm
      subst hw
      clear hZ
      go_wp2
      go_ret
      exact ⟨rfl, rfl⟩
    · have gc : 65536 < c.size := by omega
      clear hbig
      go_enter Try.func3, Try.ntmps3
      go_wp2_with fail
      refine hZ.mono ?_
      rintro e w1 ⟨rfl, hw⟩
      replace hw := hw.symm
      subst hw
      clear hZ
      go_wp2
      go_ret
      exact ⟨rfl, rfl⟩

set_option maxHeartbeats 1000000 in
theorem nest_long (a b c : ByteArray) (w : World) (ha : a.size ≤ maxLen) (hb : b.size ≤ maxLen) (hc : c.size ≤ maxLen) (hbig : ¬ (a.size + b.size + c.size ≤ 1048576)) :
    Calls Try.prog 4 #[.string a, .string b, .string c] w fun e w' => e = .returned (.bool true) ∧ w' = w := by
  have hZ := zzb8 a b c w ha hb hc false (decide_eq_false hbig)
  clear ha hb hc
  go_enter Try.func4, Try.ntmps4
  go_wp2_with fail
  refine hZ.mono ?_
  rintro e w1 ⟨rfl, hw⟩
  replace hw := hw.symm
  subst hw
  clear hZ
  go_wp2
  go_ret
  exact ⟨rfl, rfl⟩

set_option maxHeartbeats 1000000 in
theorem nest_big (a b c : ByteArray) (w : World) (hsm : a.size + b.size + c.size ≤ 1048576) (hbig : 65536 < a.size ∨ 65536 < b.size ∨ 65536 < c.size) :
    Calls Try.prog 4 #[.string a, .string b, .string c] w fun e w' => e = .returned (.bool true) ∧ w' = w := by
  have hZ := zzb8 a b c w (by unfold maxLen; omega) (by unfold maxLen; omega) (by unfold maxLen; omega) true (decide_eq_true hsm)
  by_cases ga : 65536 < a.size
  · clear hbig
    go_enter Try.func4, Try.ntmps4
    go_wp2_with fail
    refine hZ.mono ?_
    rintro e w1 ⟨rfl, hw⟩
    replace hw := hw.symm
    subst hw
    clear hZ
    go_wp2
    go_ret
    exact ⟨rfl, rfl⟩
  · by_cases gb : 65536 < b.size
    · clear hbig
      go_enter Try.func4, Try.ntmps4
      go_wp2_with fail
      refine hZ.mono ?_
      rintro e w1 ⟨rfl, hw⟩
      replace hw := hw.symm
      subst hw
      clear hZ
      go_wp2
      go_ret
      exact ⟨rfl, rfl⟩
    · have gc : 65536 < c.size := by omega
      clear hbig
      go_enter Try.func4, Try.ntmps4
      go_wp2_with fail
      refine hZ.mono ?_
      rintro e w1 ⟨rfl, hw⟩
      replace hw := hw.symm
      subst hw
      clear hZ
      go_wp2
      go_ret
      exact ⟨rfl, rfl⟩

theorem joined_data (a b : ByteArray) : ((a ++ { data := #[45] }) ++ b).data.toList = a.data.toList ++ 45 :: b.data.toList := by
  have e : ∀ x y : ByteArray, (x ++ y).data.toList = x.data.toList ++ y.data.toList := fun x y => by simp
  rw [e, e]
  simp

set_option maxHeartbeats 1000000 in
theorem kept_main (a b c : ByteArray) (w : World) (ga : a.size ≤ 65536) (gb : b.size ≤ 65536) (gc : c.size ≤ 65536) :
    Calls Try.prog 3 #[.string a, .string b, .string c] w fun e w' => e = .returned (.bool true) ∧ w' = w := by
  have hZ := zzb6 a b c w (by unfold maxLen; omega) (by unfold maxLen; omega) (by unfold maxLen; omega) true (decide_eq_true (by omega))
  have hjs : ((a ++ { data := #[45] }) ++ b).size ≤ maxLen := by
    have := congrArg List.length (joined_data a b)
    have e : ((a ++ { data := #[45] }) ++ b).data.toList.length = ((a ++ { data := #[45] }) ++ b).size := rfl
    rw [e] at this
    rw [this]
    simp
    unfold maxLen
    omega
  have h1 := zz_any ((a ++ { data := #[45] }) ++ b) a w hjs (by unfold maxLen; omega) true (by rw [joined_data, fwL_append]; rfl)
  by_cases hc : c.size ≤ a.size
  · have h2 := zz_any ((a ++ { data := #[45] }) ++ b) c w hjs (by unfold maxLen; omega) (fwL a.data.toList c.data.toList) (by rw [joined_data, fwL_joined _ _ _ (by exact hc)])
    have h3 := zz_any a c w (by unfold maxLen; omega) (by unfold maxLen; omega) (fwL a.data.toList c.data.toList) rfl
    generalize fwL a.data.toList c.data.toList = r at *
    clear hjs
    go_enter Try.func3, Try.ntmps3
    go_wp2_with fail
    refine hZ.mono ?_
    rintro e w1 ⟨rfl, hw⟩
    replace hw := hw.symm
    subst hw
    clear hZ
    go_wp2_with fail
    refine h1.mono ?_
    rintro e w1 ⟨rfl, hw⟩
    replace hw := hw.symm
    subst hw
    clear h1
    go_wp2_with fail
    refine h2.mono ?_
    rintro e w1 ⟨rfl, hw⟩
    replace hw := hw.symm
    subst hw
    clear h2
    go_wp2_with fail
    refine h3.mono ?_
    rintro e w1 ⟨rfl, hw⟩
    replace hw := hw.symm
    subst hw
    clear h3
    go_wp2
    go_ret
    exact ⟨rfl, rfl⟩
  · clear hjs
    go_enter Try.func3, Try.ntmps3
    go_wp2_with fail
    refine hZ.mono ?_
    rintro e w1 ⟨rfl, hw⟩
    replace hw := hw.symm
    subst hw
    clear hZ
    go_wp2_with fail
    refine h1.mono ?_
    rintro e w1 ⟨rfl, hw⟩
    replace hw := hw.symm
    subst hw
    clear h1
    go_wp2
    go_ret
    exact ⟨rfl, rfl⟩

set_option maxHeartbeats 1000000 in
theorem nest_main (a b c : ByteArray) (w : World) (ga : a.size ≤ 65536) (gb : b.size ≤ 65536) (gc : c.size ≤ 65536) :
    Calls Try.prog 4 #[.string a, .string b, .string c] w fun e w' => e = .returned (.bool true) ∧ w' = w := by
  have hZ := zzb8 a b c w (by unfold maxLen; omega) (by unfold maxLen; omega) (by unfold maxLen; omega) true (decide_eq_true (by omega))
  have h1 := zz_any a a w (by unfold maxLen; omega) (by unfold maxLen; omega) true (fwL_self _)
  have h2 := zz_any a b w (by unfold maxLen; omega) (by unfold maxLen; omega) _ rfl
  have h3 := zz_any b a w (by unfold maxLen; omega) (by unfold maxLen; omega) _ rfl
  have h4 := zz_any b c w (by unfold maxLen; omega) (by unfold maxLen; omega) _ rfl
  have h5 := zz_any a c w (by unfold maxLen; omega) (by unfold maxLen; omega) _ rfl
  have t1 : fwL a.data.toList b.data.toList = true → fwL b.data.toList c.data.toList = true → fwL a.data.toList c.data.toList = true := fwL_trans
  have t2 : fwL a.data.toList b.data.toList = true → fwL b.data.toList a.data.toList = true → (a.toList == b.toList) = true := fun x y => by
    rw [Lib.toList_data, Lib.toList_data, fwL_antisymm x y]; simp
  generalize fwL a.data.toList b.data.toList = x1 at *
  generalize fwL b.data.toList a.data.toList = x2 at *
  generalize fwL b.data.toList c.data.toList = x3 at *
  generalize fwL a.data.toList c.data.toList = x4 at *
  have hb : (x1 = true ∧ x2 = true → (a.toList == b.toList) = true) ∧ (x1 = true ∧ x3 = true → x4 = true) := ⟨fun h => t2 h.1 h.2, fun h => t1 h.1 h.2⟩
  have H : Hid ((x1 = true ∧ x2 = true → (a.toList == b.toList) = true) ∧ (x1 = true ∧ x3 = true → x4 = true)) := hb
  clear t1 t2 hb
  cases x1 <;> cases x2 <;> cases x3 <;> cases x4
  all_goals first | (exact absurd (H.out.2 ⟨rfl, rfl⟩) (by decide)) | skip
  all_goals
    first
      | (have he := H.out.1 ⟨rfl, rfl⟩; have hq : (a.toList == b.toList) = true := he)
      | have hq : True := trivial
    clear H
    go_enter Try.func4, Try.ntmps4
    go_wp2_with fail
    refine hZ.mono ?_
    rintro e w1 ⟨rfl, hw⟩
    replace hw := hw.symm
    subst hw
    clear hZ
    go_wp2_with fail
    refine h1.mono ?_
    rintro e w1 ⟨rfl, hw⟩
    replace hw := hw.symm
    subst hw
    clear h1
    go_wp2_with fail
    refine h2.mono ?_
    rintro e w1 ⟨rfl, hw⟩
    replace hw := hw.symm
    subst hw
    clear h2
    go_wp2_with fail
    refine h3.mono ?_
    rintro e w1 ⟨rfl, hw⟩
    replace hw := hw.symm
    subst hw
    clear h3
    go_wp2_with fail
    refine h4.mono ?_
    rintro e w1 ⟨rfl, hw⟩
    replace hw := hw.symm
    subst hw
    clear h4
    go_wp2_with fail
    refine h5.mono ?_
    rintro e w1 ⟨rfl, hw⟩
    replace hw := hw.symm
    subst hw
    clear h5
    go_wp2
    go_ret
    exact ⟨rfl, rfl⟩

end Go.Proofs.Qxb6613073a

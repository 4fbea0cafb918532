/-
  THE TESTS ON SIZES OF FnKeyValueReadsBackAndKeeps.
-/
import Derived.Test.Qxb6612988aDoorRaw
namespace Go.Proofs.Qxb6612988aDoor
open Go.RowKit

set_option maxRecDepth 100000 in
set_option maxHeartbeats 8000000 in
theorem zzBytesV (pa ra la : Option Addr) (pn pc rn rc ln lc : Nat) (key : ByteArray) (b1 b2 b3 : Bool) (w : World) (hp : pn ≤ maxLen) (hk : key.size ≤ maxLen) (hr : rn ≤ maxLen) (hl : ln ≤ maxLen) :
    Calls Tryd.prog 18 #[.slice pa pn pc, .string key, .slice ra rn rc, .bool b1, .slice la ln lc, .bool b2, .bool b3] w fun e w' => Tells e (pn + key.size + rn + ln ≤ 1048576) ∧ w' = w := by
  unfold maxLen at hp hk hr hl
  by_cases h0 : pn + key.size + rn + ln ≤ 1048576
  · go_enter Tryd.func18, Tryd.ntmps18
    go_wp2
    go_ret
    exact ⟨tells_yes h0, rfl⟩
  · go_enter Tryd.func18, Tryd.ntmps18
    go_wp2
    all_goals first | (exfalso; omega) | (go_ret; exact ⟨tells_no _, rfl⟩)

set_option maxRecDepth 100000 in
set_option maxHeartbeats 8000000 in
theorem valueTooBig (pa ra la : Option Addr) (pn pc rn rc ln lc : Nat) (key : ByteArray) (w : World) (hp : pn ≤ 1048576) (hk : key.size ≤ 1048576) (hr : rn ≤ 1048576) (hl : ln ≤ 1048576) :
    Calls Tryd.prog 19 #[.slice pa pn pc, .string key, .slice ra rn rc, .slice la ln lc] w fun e w' => Answers e ∧ ∃ n, w' = w.drewN n := by
  by_cases h0 : rn ≤ 131072 ∧ ln ≤ 131072
  · obtain ⟨h1, h2⟩ := h0
    go_enter Tryd.func19, Tryd.ntmps19
    go_wp2
    all_goals first | (exfalso; omega) | (go_ret; exact ⟨answers _, 0, rfl⟩) | (go_ret; exact ⟨answers _, _, rfl⟩)
  · go_enter Tryd.func19, Tryd.ntmps19
    go_wp2
    all_goals first | (exfalso; omega) | (go_ret; exact ⟨answers _, 0, rfl⟩) | (go_ret; exact ⟨answers _, _, rfl⟩)

end Go.Proofs.Qxb6612988aDoor

/-
  THE ARGUMENTS OF FnKeyValueScriptStaysInStep AS THEY CAME IN; the tests on sizes.
-/
import Derived.Test.Qxb6612988aDoorRaw
namespace Go.Proofs.Qxb6612988aDoor
open Go.RowKit

structure RecV where
  key : ByteArray
  l : List Int
  keep : Bool

/-- A []Rec as it came in, whatever its size. -/
structure RecRaw (w : World) (v : Value) (rs : List RecV) : Prop where
  form : ∃ ao c, v = .slice ao rs.length c ∧ (ao = none → c = 0) ∧ rs.length ≤ maxLen ∧ (0 < rs.length → ∃ g o, ao = some ⟨g, o, none⟩ ∧ ∀ j (hj : j < rs.length), w.cell? ⟨g, o + j * 3, none⟩ = some (.string (rs[j]).key) ∧
    (∃ lv, w.cell? ⟨g, o + j * 3 + 1, none⟩ = some lv ∧ SeesI w lv (rs[j]).l) ∧ w.cell? ⟨g, o + j * 3 + 2, none⟩ = some (.bool (rs[j]).keep))
  ok : ∀ p ∈ rs, p.key.size ≤ maxLen ∧ p.l.length ≤ maxLen ∧ ∀ z ∈ p.l, I64 z

def sumR : List RecV → Nat
  | [] => 0
  | p :: r => p.key.size + p.l.length + sumR r
theorem sumR_append (a b : List RecV) : sumR (a ++ b) = sumR a + sumR b := by
  induction a with
  | nil => simp [sumR]
  | cons z r ih => simp only [List.cons_append, sumR, ih]; omega
theorem sumR_snoc (xs : List RecV) (k : Nat) (h : k < xs.length) : sumR (xs.take (k + 1)) = sumR (xs.take k) + ((xs[k]).key.size + (xs[k]).l.length) := by
  rw [List.take_succ_eq_append_getElem h, sumR_append]; simp [sumR]
theorem sumR_mem {xs : List RecV} {p : RecV} (h : p ∈ xs) : p.key.size + p.l.length ≤ sumR xs := by
  induction xs with
  | nil => cases h
  | cons z r ih =>
    rcases List.mem_cons.1 h with rfl | h
    · simp only [sumR]; omega
    · have := ih h; simp only [sumR]; omega

set_option maxRecDepth 100000 in
set_option maxHeartbeats 8000000 in
theorem zzBytesS (most : Int) (v : Value) (rs : List RecV) (w : World) (hK : RecRaw w v rs) :
    Calls Tryd.prog 29 #[.int .i64 most, v] w fun e w' => Tells e (rs.length + sumR rs ≤ 1048576) ∧ w' = w := by
  obtain ⟨ka, kc, rfl, _, hkl, hKX⟩ := hK.form
  have HKX : Hid (0 < rs.length → ∃ g o, ka = some ⟨g, o, none⟩ ∧ ∀ j (hj : j < rs.length), w.cell? ⟨g, o + j * 3, none⟩ = some (.string (rs[j]).key) ∧
    (∃ lv, w.cell? ⟨g, o + j * 3 + 1, none⟩ = some lv ∧ SeesI w lv (rs[j]).l) ∧ w.cell? ⟨g, o + j * 3 + 2, none⟩ = some (.bool (rs[j]).keep)) := hKX
  have kok := hK.ok
  unfold maxLen at hkl kok
  clear hKX hK
  by_cases h0 : rs.length ≤ 1048576
  · go_enter Tryd.func29, Tryd.ntmps29
    go_wp2
    go_loop [5, 6] (fun t i => ∃ k : Nat, k ≤ rs.length ∧ i = .int .i64 k ∧ t = .int .i64 ((rs.length + sumR (rs.take k) : Nat) : Int) ∧ rs.length + sumR (rs.take k) ≤ 1048576) (fun _ i => rs.length - (intOf i).toNat)
    case atStart => exact ⟨0, Nat.zero_le _, rfl, by simp [sumR], by simp [sumR]; exact h0⟩
    case round =>
      obtain ⟨k, hk, rfl, rfl, hs⟩ := hrel
      by_cases hlt : k < rs.length
      · obtain ⟨g, o, ha, hcell⟩ := HKX.out (by omega)
        obtain ⟨c1, ⟨lv, c2, hlv⟩, _⟩ := hcell k hlt
        obtain ⟨lao, lc, elv⟩ : ∃ a c, lv = .slice a (rs[k]).l.length c := by obtain ⟨a, c, e, _⟩ := hlv.form; exact ⟨a, c, e⟩
        have hsn := sumR_snoc rs k hlt
        have HSN : Hid (sumR (rs.take (k + 1)) = sumR (rs.take k) + ((rs[k]).key.size + (rs[k]).l.length)) := hsn
        obtain ⟨b1, b2, _⟩ := kok rs[k] (List.getElem_mem hlt)
        clear hcell hlv hsn
        subst ha
        subst elv
        generalize sumR (rs.take k) = s0 at *
        generalize (rs[k]).key = key at *
        generalize (rs[k]).l.length = m at *
        by_cases hfit : rs.length + s0 + key.size + m ≤ 1048576
        · go_wp2
          go_round
          case rel => exact ⟨k + 1, by omega, by go_num, by rw [HSN.out]; go_num, by rw [HSN.out]; omega⟩
          case measure => simp [intOf]; omega
        · go_wp2
          all_goals first | (exfalso; omega) | (go_ret; exact ⟨tells_no _, rfl⟩)
      · obtain rfl : k = rs.length := by omega
        rw [List.take_length] at hs
        go_wp2
        go_ret
        exact ⟨tells_yes trivial, rfl⟩
  · go_enter Tryd.func29, Tryd.ntmps29
    go_wp2
    all_goals first | (exfalso; omega) | (go_ret; exact ⟨tells_no _, rfl⟩)

set_option maxRecDepth 100000 in
set_option maxHeartbeats 8000000 in
theorem recsTooBig (v : Value) (rs : List RecV) (w : World) (hK : RecRaw w v rs) (h0 : rs.length ≤ 1048576) (hk2 : ∀ p ∈ rs, p.key.size ≤ 1048576 ∧ p.l.length ≤ 1048576) :
    Calls Tryd.prog 30 #[v] w fun e w' => Answers e ∧ ∃ n, w' = w.drewN n := by
  obtain ⟨ka, kc, rfl, _, hkl, hKX⟩ := hK.form
  have HKX : Hid (0 < rs.length → ∃ g o, ka = some ⟨g, o, none⟩ ∧ ∀ j (hj : j < rs.length), w.cell? ⟨g, o + j * 3, none⟩ = some (.string (rs[j]).key) ∧
    (∃ lv, w.cell? ⟨g, o + j * 3 + 1, none⟩ = some lv ∧ SeesI w lv (rs[j]).l) ∧ w.cell? ⟨g, o + j * 3 + 2, none⟩ = some (.bool (rs[j]).keep)) := hKX
  clear hKX hK hkl
  by_cases h1 : rs.length ≤ 21845
  · go_enter Tryd.func30, Tryd.ntmps30
    go_wp2
    go_loopw [3, 4] (fun t i wr => ∃ k q s : Nat, k ≤ rs.length ∧ i = .int .i64 k ∧ t = .int .i64 s ∧ s ≤ 2000000 ∧ wr = w.drewN q) (fun _ i _ => rs.length - (intOf i).toNat)
    case atStart => exact ⟨0, 0, 48 * rs.length, Nat.zero_le _, rfl, by go_num, by omega, rfl⟩
    case round =>
      obtain ⟨k, q, s, hkk, rfl, rfl, hs, rfl⟩ := hrel
      by_cases hlt : k < rs.length
      · obtain ⟨g, o, ha, hcell⟩ := HKX.out (by omega)
        obtain ⟨c1, ⟨lv, c2, hlv⟩, _⟩ := hcell k hlt
        obtain ⟨lao, lc, elv⟩ : ∃ a c, lv = .slice a (rs[k]).l.length c := by obtain ⟨a, c, e, _⟩ := hlv.form; exact ⟨a, c, e⟩
        obtain ⟨b1, b2⟩ := hk2 rs[k] (List.getElem_mem hlt)
        clear hcell hlv
        subst ha
        subst elv
        generalize (rs[k]).key = key at *
        generalize (rs[k]).l.length = m at *
        by_cases hm : m ≤ 131072
        · go_wp2_with fail
          go_quiet (fail)
          by_cases hfit : s + (key.size + 8 * m) ≤ 1048576
          · go_wp2
            go_roundw
            case rel => exact ⟨k + 1, _, s + (key.size + 8 * m), by omega, by go_num, by go_num, by omega, rfl⟩
            case measure => simp [intOf]; omega
          · go_wp2
            all_goals first | (exfalso; omega) | (go_ret; exact ⟨answers _, _, rfl⟩)
        · go_wp2
          all_goals first | (exfalso; omega) | (go_ret; exact ⟨answers _, _, rfl⟩)
      · go_wp2
        go_ret
        exact ⟨answers _, _, rfl⟩
  · go_enter Tryd.func30, Tryd.ntmps30
    go_wp2
    all_goals first | (exfalso; omega) | (go_ret; exact ⟨answers _, 0, rfl⟩)

end Go.Proofs.Qxb6612988aDoor

/-
  THE TEST ON SIZES OF FnKeyResultReadsBack.
-/
import Derived.Test.Qxb6612988aDoorDecRes
namespace Go.Proofs.Qxb6612988aDoor
open Go.RowKit

set_option maxRecDepth 100000 in
set_option maxHeartbeats 8000000 in
theorem zzBytesR (pa : Option Addr) (pn pc : Nat) (most : Int) (kv ov rv : Value) (items : List (ByteArray × List Int)) (ops : List OpV) (zss : List (List Int)) (w : World) (hpn : pn ≤ maxLen) (hK : KLRaw w kv items) (hO : OpRaw w ov ops) (hR : RowRaw w rv zss) :
    Calls Tryd.prog 33 #[.slice pa pn pc, .int .i64 most, kv, ov, rv] w fun e w' => Tells e (pn + items.length + sumK items + ops.length + sumO ops + zss.length + total zss ≤ 1048576) ∧ w' = w := by
  obtain ⟨ka, kc, rfl, _, hkl, hKX⟩ := hK.form
  obtain ⟨oa, oc, rfl, _, hol, hOX⟩ := hO.form
  obtain ⟨ra, rc, rfl, _, hrl, hRX⟩ := hR.form
  have HKX : Hid (0 < items.length → ∃ g o, ka = some ⟨g, o, none⟩ ∧ ∀ j (hj : j < items.length), w.cell? ⟨g, o + j * 2, none⟩ = some (.string (items[j]).1) ∧ ∃ lv, w.cell? ⟨g, o + j * 2 + 1, none⟩ = some lv ∧ SeesI w lv (items[j]).2) := hKX
  have HOX : Hid (0 < ops.length → ∃ g o, oa = some ⟨g, o, none⟩ ∧ ∀ j (hj : j < ops.length), w.cell? ⟨g, o + j * 3, none⟩ = some (.int .u8 (ops[j]).kind) ∧ w.cell? ⟨g, o + j * 3 + 1, none⟩ = some (.string (ops[j]).key) ∧ w.cell? ⟨g, o + j * 3 + 2, none⟩ = some (.int .i64 (ops[j]).val)) := hOX
  have HRX : Hid (0 < zss.length → ∃ g o, ra = some ⟨g, o, none⟩ ∧ ∀ j (hj : j < zss.length), ∃ lv, w.cell? ⟨g, o + j, none⟩ = some lv ∧ SeesI w lv zss[j]) := hRX
  have kok := hK.ok
  have ook := hO.ok
  have rok := hR.ok
  unfold maxLen at hpn hkl hol hrl kok ook rok
  clear hKX hOX hRX hK hO hR
  by_cases h0 : pn + items.length ≤ 1048576
  · go_enter Tryd.func33, Tryd.ntmps33
    go_wp2
    go_loop [11, 12] (fun t i => ∃ k : Nat, k ≤ items.length ∧ i = .int .i64 k ∧ t = .int .i64 ((pn + items.length + sumK (items.take k) : Nat) : Int) ∧ pn + items.length + sumK (items.take k) ≤ 1048576) (fun _ i => items.length - (intOf i).toNat)
    case atStart => exact ⟨0, Nat.zero_le _, rfl, by simp [sumK], by simp [sumK]; exact h0⟩
    case round =>
      obtain ⟨k, hk, rfl, rfl, hs⟩ := hrel
      by_cases hlt : k < items.length
      · obtain ⟨g, o, ha, hcell⟩ := HKX.out (by omega)
        obtain ⟨c1, lv, c2, hlv⟩ := hcell k hlt
        obtain ⟨lao, lc, elv⟩ : ∃ a c, lv = .slice a (items[k]).2.length c := by obtain ⟨a, c, e, _⟩ := hlv.form; exact ⟨a, c, e⟩
        have hsn := sumK_snoc items k hlt
        have HSN : Hid (sumK (items.take (k + 1)) = sumK (items.take k) + ((items[k]).1.size + (items[k]).2.length)) := hsn
        obtain ⟨b1, b2, _⟩ := kok items[k] (List.getElem_mem hlt)
        clear hcell hlv hsn
        subst ha
        subst elv
        generalize sumK (items.take k) = s0 at *
        generalize (items[k]).1 = key at *
        generalize (items[k]).2.length = m at *
        by_cases hfit : pn + items.length + s0 + key.size + m ≤ 1048576
        · go_wp2
          go_round
          case rel => exact ⟨k + 1, by omega, by go_num, by rw [HSN.out]; go_num, by rw [HSN.out]; omega⟩
          case measure => simp [intOf]; omega
        · go_wp2
          all_goals first | (exfalso; omega) | (go_ret; exact ⟨tells_no _, rfl⟩)
      · obtain rfl : k = items.length := by omega
        rw [List.take_length] at hs ⊢
        obtain ⟨s1, e1⟩ : ∃ s1, sumK items = s1 := ⟨_, rfl⟩
        rw [e1] at hs ⊢
        have E1 : Hid (sumK items = s1) := e1
        clear e1
        by_cases h1 : pn + items.length + s1 + ops.length ≤ 1048576
        · go_wp2
          go_loop [11, 13] (fun t i => ∃ k : Nat, k ≤ ops.length ∧ i = .int .i64 k ∧ t = .int .i64 ((pn + items.length + s1 + ops.length + sumO (ops.take k) : Nat) : Int) ∧ pn + items.length + s1 + ops.length + sumO (ops.take k) ≤ 1048576) (fun _ i => ops.length - (intOf i).toNat)
          case atStart => exact ⟨0, Nat.zero_le _, rfl, by simp [sumO], by simp [sumO]; exact h1⟩
          case round =>
            obtain ⟨k, hk, rfl, rfl, hs⟩ := hrel
            by_cases hlt : k < ops.length
            · obtain ⟨g, o, ha, hcell⟩ := HOX.out (by omega)
              obtain ⟨_, c1, _⟩ := hcell k hlt
              have hsn := sumO_snoc ops k hlt
              have HSN : Hid (sumO (ops.take (k + 1)) = sumO (ops.take k) + (ops[k]).key.size) := hsn
              have b1 := ook ops[k] (List.getElem_mem hlt)
              clear hcell hsn
              subst ha
              generalize sumO (ops.take k) = s0 at *
              generalize (ops[k]).key = key at *
              by_cases hfit : pn + items.length + s1 + ops.length + s0 + key.size ≤ 1048576
              · go_wp2
                go_round
                case rel => exact ⟨k + 1, by omega, by go_num, by rw [HSN.out]; go_num, by rw [HSN.out]; omega⟩
                case measure => simp [intOf]; omega
              · go_wp2
                all_goals first | (exfalso; omega) | (go_ret; exact ⟨tells_no _, rfl⟩)
            · obtain rfl : k = ops.length := by omega
              rw [List.take_length] at hs ⊢
              obtain ⟨s2, e2⟩ : ∃ s2, sumO ops = s2 := ⟨_, rfl⟩
              rw [e2] at hs ⊢
              have E2 : Hid (sumO ops = s2) := e2
              clear e2
              by_cases h2 : pn + items.length + s1 + ops.length + s2 + zss.length ≤ 1048576
              · go_wp2
                go_loop [11, 14] (fun t i => ∃ k : Nat, k ≤ zss.length ∧ i = .int .i64 k ∧ t = .int .i64 ((pn + items.length + s1 + ops.length + s2 + zss.length + total (zss.take k) : Nat) : Int) ∧ pn + items.length + s1 + ops.length + s2 + zss.length + total (zss.take k) ≤ 1048576) (fun _ i => zss.length - (intOf i).toNat)
                case atStart => exact ⟨0, Nat.zero_le _, rfl, by simp [total], by simp [total]; exact h2⟩
                case round =>
                  obtain ⟨k, hk, rfl, rfl, hs⟩ := hrel
                  by_cases hlt : k < zss.length
                  · obtain ⟨g, o, ha, hcell⟩ := HRX.out (by omega)
                    obtain ⟨lv, c1, hlv⟩ := hcell k hlt
                    obtain ⟨lao, lc, elv⟩ : ∃ a c, lv = .slice a (zss[k]).length c := by obtain ⟨a, c, e, _⟩ := hlv.form; exact ⟨a, c, e⟩
                    have hsn := total_snoc zss k hlt
                    have HSN : Hid (total (zss.take (k + 1)) = total (zss.take k) + (zss[k]).length) := hsn
                    obtain ⟨b1, _⟩ := rok zss[k] (List.getElem_mem hlt)
                    clear hcell hsn hlv
                    subst ha
                    subst elv
                    generalize total (zss.take k) = s0 at *
                    generalize (zss[k]).length = m at *
                    by_cases hfit : pn + items.length + s1 + ops.length + s2 + zss.length + s0 + m ≤ 1048576
                    · go_wp2
                      go_round
                      case rel => exact ⟨k + 1, by omega, by go_num, by rw [HSN.out]; go_num, by rw [HSN.out]; omega⟩
                      case measure => simp [intOf]; omega
                    · go_wp2
                      all_goals first | (exfalso; omega) | (go_ret; exact ⟨tells_no _, rfl⟩)
                  · obtain rfl : k = zss.length := by omega
                    rw [List.take_length] at hs
                    go_wp2
                    go_ret
                    exact ⟨tells_yes (by rw [E1.out, E2.out]; exact hs), rfl⟩
              · go_wp2
                all_goals first | (exfalso; omega) | (go_ret; exact ⟨tells_no _, rfl⟩)
        · go_wp2
          all_goals first | (exfalso; omega) | (go_ret; exact ⟨tells_no _, rfl⟩)
  · go_enter Tryd.func33, Tryd.ntmps33
    go_wp2
    all_goals first | (exfalso; omega) | (go_ret; exact ⟨tells_no _, rfl⟩)

end Go.Proofs.Qxb6612988aDoor

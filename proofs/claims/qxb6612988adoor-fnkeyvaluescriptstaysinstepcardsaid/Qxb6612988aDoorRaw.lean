/-
  THE ARGUMENTS AS THEY CAME IN; zzResultTooBig.
-/
import Derived.Test.Qxb6612988aDoorMakeRows
namespace Go.Proofs.Qxb6612988aDoor
open Go.RowKit

/-- A []KL as it came in, whatever its size. -/
structure KLRaw (w : World) (v : Value) (items : List (ByteArray × List Int)) : Prop where
  form : ∃ ao c, v = .slice ao items.length c ∧ (ao = none → c = 0) ∧ items.length ≤ maxLen ∧ (0 < items.length → ∃ g o, ao = some ⟨g, o, none⟩ ∧ ∀ j (hj : j < items.length), w.cell? ⟨g, o + j * 2, none⟩ = some (.string (items[j]).1) ∧
    ∃ lv, w.cell? ⟨g, o + j * 2 + 1, none⟩ = some lv ∧ SeesI w lv (items[j]).2)
  ok : ∀ p ∈ items, p.1.size ≤ maxLen ∧ p.2.length ≤ maxLen ∧ ∀ z ∈ p.2, I64 z
structure OpRaw (w : World) (v : Value) (ops : List OpV) : Prop where
  form : ∃ ao c, v = .slice ao ops.length c ∧ (ao = none → c = 0) ∧ ops.length ≤ maxLen ∧ (0 < ops.length → ∃ g o, ao = some ⟨g, o, none⟩ ∧ ∀ j (hj : j < ops.length), w.cell? ⟨g, o + j * 3, none⟩ = some (.int .u8 (ops[j]).kind) ∧ w.cell? ⟨g, o + j * 3 + 1, none⟩ = some (.string (ops[j]).key) ∧ w.cell? ⟨g, o + j * 3 + 2, none⟩ = some (.int .i64 (ops[j]).val))
  ok : ∀ p ∈ ops, p.key.size ≤ maxLen
structure RowRaw (w : World) (v : Value) (zss : List (List Int)) : Prop where
  form : ∃ ao c, v = .slice ao zss.length c ∧ (ao = none → c = 0) ∧ zss.length ≤ maxLen ∧ (0 < zss.length → ∃ g o, ao = some ⟨g, o, none⟩ ∧ ∀ j (hj : j < zss.length), ∃ lv, w.cell? ⟨g, o + j, none⟩ = some lv ∧ SeesI w lv zss[j])
  ok : ∀ z ∈ zss, z.length ≤ maxLen ∧ ∀ y ∈ z, I64 y

def sumK : List (ByteArray × List Int) → Nat
  | [] => 0
  | p :: r => p.1.size + p.2.length + sumK r
def sumO : List OpV → Nat
  | [] => 0
  | p :: r => p.key.size + sumO r
theorem sumK_append (a b : List (ByteArray × List Int)) : sumK (a ++ b) = sumK a + sumK b := by
  induction a with
  | nil => simp [sumK]
  | cons z r ih => simp only [List.cons_append, sumK, ih]; omega
theorem sumO_append (a b : List OpV) : sumO (a ++ b) = sumO a + sumO b := by
  induction a with
  | nil => simp [sumO]
  | cons z r ih => simp only [List.cons_append, sumO, ih]; omega
theorem sumK_snoc (xs : List (ByteArray × List Int)) (k : Nat) (h : k < xs.length) : sumK (xs.take (k + 1)) = sumK (xs.take k) + ((xs[k]).1.size + (xs[k]).2.length) := by
  rw [List.take_succ_eq_append_getElem h, sumK_append]; simp [sumK]
theorem sumO_snoc (xs : List OpV) (k : Nat) (h : k < xs.length) : sumO (xs.take (k + 1)) = sumO (xs.take k) + (xs[k]).key.size := by
  rw [List.take_succ_eq_append_getElem h, sumO_append]; simp [sumO]
theorem total_snoc (xs : List (List Int)) (k : Nat) (h : k < xs.length) : total (xs.take (k + 1)) = total (xs.take k) + (xs[k]).length := by
  rw [List.take_succ_eq_append_getElem h, total_append]; simp [total]
theorem sumK_mem {xs : List (ByteArray × List Int)} {p : ByteArray × List Int} (h : p ∈ xs) : p.2.length ≤ sumK xs := by
  induction xs with
  | nil => cases h
  | cons z r ih =>
    rcases List.mem_cons.1 h with rfl | h
    · simp only [sumK]; omega
    · have := ih h; simp only [sumK]; omega
theorem total_mem {xs : List (List Int)} {p : List Int} (h : p ∈ xs) : p.length ≤ total xs := by
  induction xs with
  | nil => cases h
  | cons z r ih =>
    rcases List.mem_cons.1 h with rfl | h
    · simp only [total]; omega
    · have := ih h; simp only [total]; omega

/-- It answers a bool; yes says B. -/
def Tells (e : Ending) (B : Prop) : Prop := ∃ b, e = .returned (.bool b) ∧ (b = true → B)
theorem tells_no (B : Prop) : Tells (.returned (.bool false)) B := ⟨false, rfl, fun h => by cases h⟩
theorem tells_yes {B : Prop} (h : B) : Tells (.returned (.bool true)) B := ⟨true, rfl, fun _ => h⟩

/-- It answers a bool, whatever it be. -/
def Answers (e : Ending) : Prop := ∃ b, e = .returned (.bool b)
theorem answers (b : Bool) : Answers (.returned (.bool b)) := ⟨b, rfl⟩

set_option maxRecDepth 100000 in
set_option maxHeartbeats 16000000 in
theorem resultTooBig (pa : Option Addr) (pn pc : Nat) (kv ov rv : Value) (items : List (ByteArray × List Int)) (ops : List OpV) (zss : List (List Int)) (w : World) (hK : KLRaw w kv items) (hO : OpRaw w ov ops) (hR : RowRaw w rv zss)
    (hp : pn ≤ 1048576) (hk : items.length ≤ 1048576) (ho : ops.length ≤ 1048576) (hr : zss.length ≤ 1048576) (hk2 : ∀ p ∈ items, p.1.size ≤ 1048576 ∧ p.2.length ≤ 1048576) (ho2 : ∀ p ∈ ops, p.key.size ≤ 1048576) (hr2 : ∀ z ∈ zss, z.length ≤ 1048576) :
    Calls Tryd.prog 34 #[.slice pa pn pc, kv, ov, rv] w fun e w' => Answers e ∧ ∃ n, w' = w.drewN n := by
  obtain ⟨ka, kc, rfl, _, hkl, hKX⟩ := hK.form
  obtain ⟨oa, oc, rfl, _, hol, hOX⟩ := hO.form
  obtain ⟨ra, rc, rfl, _, hrl, hRX⟩ := hR.form
  have HKX : Hid (0 < items.length → ∃ g o, ka = some ⟨g, o, none⟩ ∧ ∀ j (hj : j < items.length), w.cell? ⟨g, o + j * 2, none⟩ = some (.string (items[j]).1) ∧ ∃ lv, w.cell? ⟨g, o + j * 2 + 1, none⟩ = some lv ∧ SeesI w lv (items[j]).2) := hKX
  have HOX : Hid (0 < ops.length → ∃ g o, oa = some ⟨g, o, none⟩ ∧ ∀ j (hj : j < ops.length), w.cell? ⟨g, o + j * 3, none⟩ = some (.int .u8 (ops[j]).kind) ∧ w.cell? ⟨g, o + j * 3 + 1, none⟩ = some (.string (ops[j]).key) ∧ w.cell? ⟨g, o + j * 3 + 2, none⟩ = some (.int .i64 (ops[j]).val)) := hOX
  have HRX : Hid (0 < zss.length → ∃ g o, ra = some ⟨g, o, none⟩ ∧ ∀ j (hj : j < zss.length), ∃ lv, w.cell? ⟨g, o + j, none⟩ = some lv ∧ SeesI w lv zss[j]) := hRX
  clear hKX hOX hRX hK hO hR hkl hol hrl
  by_cases h0 : items.length ≤ 21845 ∧ ops.length ≤ 26214 ∧ zss.length ≤ 43690 ∧ pn + 48 * items.length + 40 * ops.length + 24 * zss.length ≤ 1048576
  · obtain ⟨g1, g2, g3, g4⟩ := h0
    go_enter Tryd.func34, Tryd.ntmps34
    go_wp2
    go_loopw [9, 10] (fun t i wr => ∃ k q s : Nat, k ≤ items.length ∧ i = .int .i64 k ∧ t = .int .i64 s ∧ s ≤ 1048576 ∧ wr = w.drewN q) (fun _ i _ => items.length - (intOf i).toNat)
    case atStart => exact ⟨0, 0, pn + 48 * items.length + 40 * ops.length + 24 * zss.length, Nat.zero_le _, rfl, by go_num, g4, rfl⟩
    case round =>
      obtain ⟨k, q, s, hkk, rfl, rfl, hs, rfl⟩ := hrel
      by_cases hlt : k < items.length
      · obtain ⟨g, o, ha, hcell⟩ := HKX.out (by omega)
        obtain ⟨c1, lv, c2, hlv⟩ := hcell k hlt
        obtain ⟨lao, lc, elv⟩ : ∃ a c, lv = .slice a (items[k]).2.length c := by obtain ⟨a, c, e, _⟩ := hlv.form; exact ⟨a, c, e⟩
        obtain ⟨b1, b2⟩ := hk2 items[k] (List.getElem_mem hlt)
        clear hcell hlv
        subst ha
        subst elv
        generalize (items[k]).1 = key at *
        generalize (items[k]).2.length = m at *
        by_cases hm : m ≤ 131072
        · go_wp2_with fail
          go_quiet (fail)
          by_cases hfit : s + (key.size + 8 * m) ≤ 1048576
          · go_wp2
            go_roundw
            case rel => exact ⟨k + 1, _, s + (key.size + 8 * m), by omega, by go_num, by go_num, hfit, rfl⟩
            case measure => simp [intOf]; omega
          · go_wp2
            all_goals first | (exfalso; omega) | (go_ret; exact ⟨answers _, _, rfl⟩)
        · go_wp2
          all_goals first | (exfalso; omega) | (go_ret; exact ⟨answers _, _, rfl⟩)
      · clear hkk
        go_wp2
        go_loopw [9, 11] (fun t i wr => ∃ k q s : Nat, k ≤ ops.length ∧ i = .int .i64 k ∧ t = .int .i64 s ∧ s ≤ 1048576 ∧ wr = w.drewN q) (fun _ i _ => ops.length - (intOf i).toNat)
        case atStart => exact ⟨0, _, _, Nat.zero_le _, rfl, rfl, hs, rfl⟩
        case round =>
          clear hs
          obtain ⟨k, q, s, hkk, rfl, rfl, hs, rfl⟩ := hrel
          by_cases hlt : k < ops.length
          · obtain ⟨g, o, ha, hcell⟩ := HOX.out (by omega)
            obtain ⟨_, c1, _⟩ := hcell k hlt
            have b1 := ho2 ops[k] (List.getElem_mem hlt)
            clear hcell
            subst ha
            generalize (ops[k]).key = key at *
            by_cases hfit : s + key.size ≤ 1048576
            · go_wp2
              go_roundw
              case rel => exact ⟨k + 1, _, s + key.size, by omega, by go_num, by go_num, hfit, rfl⟩
              case measure => simp [intOf]; omega
            · go_wp2
              all_goals first | (exfalso; omega) | (go_ret; exact ⟨answers _, _, rfl⟩)
          · clear hkk
            go_wp2
            go_loopw [9, 12] (fun t i wr => ∃ k q s : Nat, k ≤ zss.length ∧ i = .int .i64 k ∧ t = .int .i64 s ∧ s ≤ 1048576 ∧ wr = w.drewN q) (fun _ i _ => zss.length - (intOf i).toNat)
            case atStart => exact ⟨0, _, _, Nat.zero_le _, rfl, rfl, hs, rfl⟩
            case round =>
              clear hs
              obtain ⟨k, q, s, hkk, rfl, rfl, hs, rfl⟩ := hrel
              by_cases hlt : k < zss.length
              · obtain ⟨g, o, ha, hcell⟩ := HRX.out (by omega)
                obtain ⟨lv, c1, hlv⟩ := hcell k hlt
                obtain ⟨lao, lc, elv⟩ : ∃ a c, lv = .slice a (zss[k]).length c := by obtain ⟨a, c, e, _⟩ := hlv.form; exact ⟨a, c, e⟩
                have b1 := hr2 zss[k] (List.getElem_mem hlt)
                clear hcell hlv
                subst ha
                subst elv
                generalize (zss[k]).length = m at *
                by_cases hfit : m ≤ 131072 ∧ s + 8 * m ≤ 1048576
                · obtain ⟨f1, f2⟩ := hfit
                  go_wp2
                  go_roundw
                  case rel => exact ⟨k + 1, _, s + 8 * m, by omega, by go_num, by go_num, f2, rfl⟩
                  case measure => simp [intOf]; omega
                · go_wp2
                  all_goals first | (exfalso; omega) | (go_ret; exact ⟨answers _, _, rfl⟩)
              · go_wp2
                go_ret
                exact ⟨answers _, _, rfl⟩
  · go_enter Tryd.func34, Tryd.ntmps34
    go_wp2
    all_goals first | (exfalso; omega) | (go_ret; exact ⟨answers _, 0, rfl⟩)

end Go.Proofs.Qxb6612988aDoor

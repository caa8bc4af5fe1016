import Derived.Test.Qxb6600486aBase
import Derived.BigRegion
namespace Go.Proofs.Qxb6600486a
set_option linter.unusedVariables false
open Go.RowKit

set_option maxRecDepth 100000 in
set_option maxHeartbeats 800000 in
theorem less_yes (x y : Int) (w : World) (h : x < y) : Calls Try.prog 37 #[.int .i64 x, .int .i64 y] w fun e w' => e = .returned (.bool true) ∧ w = w' := by
  go_enter Try.func37, Try.ntmps37
  go_wp2
  go_ret
  exact ⟨by simp, rfl⟩

set_option maxRecDepth 100000 in
set_option maxHeartbeats 800000 in
theorem less_no (x y : Int) (w : World) (h : y ≤ x) : Calls Try.prog 37 #[.int .i64 x, .int .i64 y] w fun e w' => e = .returned (.bool false) ∧ w = w' := by
  go_enter Try.func37, Try.ntmps37
  go_wp2
  go_ret
  exact ⟨by simp; omega, rfl⟩

theorem nan_any (x : Int) (w : World) : Calls Try.prog 38 #[.int .i64 x] w fun e w' => e = .returned (.bool false) ∧ w = w' := by
  go_enter Try.func38, Try.ntmps38
  go_wp2
  go_ret
  exact ⟨by simp, rfl⟩

set_option maxRecDepth 100000 in
set_option maxHeartbeats 1600000 in
theorem search_yes (cb m cc : Nat) (c : Nat → Int) (x : Int) (w : World) (hm : m ≤ 1000000) (hc : ∀ i, i < m → w.cell? ⟨cb, i, none⟩ = some (.int .i64 (c i))) (hs : ∀ i j, i < j → j < m → c i < c j) (k0 : Nat) (hk0 : k0 < m) (hx : c k0 = x) :
    Calls Try.prog 32 #[.slice (some ⟨cb, 0, none⟩) m cc, .int .i64 x] w fun e w' => ∃ q : Int, e = .returned (.tuple #[.int .i64 q, .bool true]) ∧ w = w' := by
  have HS := hide hs
  clear hs
  go_enter Try.func32, Try.ntmps32
  go_wp2_with fail
  go_loop [7, 8] (fun i j => ∃ a b : Nat, a ≤ b ∧ b ≤ m ∧ i = .int .i64 a ∧ j = .int .i64 b ∧ Hid ((∀ k, k < a → c k < x) ∧ (∀ k, b ≤ k → k < m → x ≤ c k))) (fun i j => (intOf j).toNat - (intOf i).toNat)
  case atStart => exact ⟨0, m, Nat.zero_le _, Nat.le_refl _, rfl, rfl, fun k hk => by omega, fun k h1 h2 => by omega⟩
  case round =>
    obtain ⟨a, b, hab, hbm, rfl, rfl, HB⟩ := hrel
    by_cases hlt : a < b
    · have hcm : w.cell? ⟨cb, (a + b) / 2, none⟩ = some (.int .i64 (c ((a + b) / 2))) := hc _ (by omega)
      clear hc
      by_cases hcx : c ((a + b) / 2) < x
      · go_wp2_with fail
        refine (less_yes _ _ _ hcx).mono ?_
        rintro e w' ⟨rfl, rfl⟩
        go_wp2_with fail
        go_round
        case rel =>
          refine ⟨(a + b) / 2 + 1, b, by omega, hbm, by go_num, rfl, fun k hk => ?_, HB.2⟩
          by_cases e : k = (a + b) / 2
          · rw [e]; exact hcx
          · have := unhide HS k ((a + b) / 2) (by omega) (by omega); omega
        case measure => simp [intOf]; omega
      · go_wp2_with fail
        refine (less_no _ _ _ (by omega)).mono ?_
        rintro e w' ⟨rfl, rfl⟩
        go_wp2_with fail
        go_round
        case rel =>
          refine ⟨a, (a + b) / 2, by omega, by omega, rfl, by go_num, HB.1, fun k h1 h2 => ?_⟩
          by_cases e : k = (a + b) / 2
          · rw [e]; omega
          · have := unhide HS ((a + b) / 2) k (by omega) h2; omega
        case measure => simp [intOf]; omega
    · obtain rfl : a = b := by omega
      have e0 : a = k0 := by
        rcases Nat.lt_trichotomy a k0 with h | h | h
        · have h1 := HB.2 a (Nat.le_refl _) (by omega)
          have h2 := unhide HS a k0 h hk0
          omega
        · exact h
        · have := HB.1 k0 h; omega
      subst e0
      have hca := hc a hk0
      have hq : (c a == x) = true := by simp [hx]
      clear hc HB
      go_wp2_with fail
      go_ret2
      first | exact ⟨_, rfl, rfl⟩ | exact ⟨⟨_, rfl⟩, rfl⟩
set_option maxRecDepth 100000 in
set_option maxHeartbeats 1600000 in
theorem search_no (cb m cc : Nat) (c : Nat → Int) (x : Int) (w : World) (hm : m ≤ 1000000) (hc : ∀ i, i < m → w.cell? ⟨cb, i, none⟩ = some (.int .i64 (c i))) (hs : ∀ i j, i < j → j < m → c i < c j) (hx : ∀ k, k < m → c k ≠ x) :
    Calls Try.prog 32 #[.slice (some ⟨cb, 0, none⟩) m cc, .int .i64 x] w fun e w' => ∃ q : Int, e = .returned (.tuple #[.int .i64 q, .bool false]) ∧ w = w' := by
  have HS := hide hs
  clear hs
  go_enter Try.func32, Try.ntmps32
  go_wp2_with fail
  go_loop [7, 8] (fun i j => ∃ a b : Nat, a ≤ b ∧ b ≤ m ∧ i = .int .i64 a ∧ j = .int .i64 b ∧ Hid ((∀ k, k < a → c k < x) ∧ (∀ k, b ≤ k → k < m → x ≤ c k))) (fun i j => (intOf j).toNat - (intOf i).toNat)
  case atStart => exact ⟨0, m, Nat.zero_le _, Nat.le_refl _, rfl, rfl, fun k hk => by omega, fun k h1 h2 => by omega⟩
  case round =>
    obtain ⟨a, b, hab, hbm, rfl, rfl, HB⟩ := hrel
    by_cases hlt : a < b
    · have hcm : w.cell? ⟨cb, (a + b) / 2, none⟩ = some (.int .i64 (c ((a + b) / 2))) := hc _ (by omega)
      clear hc
      by_cases hcx : c ((a + b) / 2) < x
      · go_wp2_with fail
        refine (less_yes _ _ _ hcx).mono ?_
        rintro e w' ⟨rfl, rfl⟩
        go_wp2_with fail
        go_round
        case rel =>
          refine ⟨(a + b) / 2 + 1, b, by omega, hbm, by go_num, rfl, fun k hk => ?_, HB.2⟩
          by_cases e : k = (a + b) / 2
          · rw [e]; exact hcx
          · have := unhide HS k ((a + b) / 2) (by omega) (by omega); omega
        case measure => simp [intOf]; omega
      · go_wp2_with fail
        refine (less_no _ _ _ (by omega)).mono ?_
        rintro e w' ⟨rfl, rfl⟩
        go_wp2_with fail
        go_round
        case rel =>
          refine ⟨a, (a + b) / 2, by omega, by omega, rfl, by go_num, HB.1, fun k h1 h2 => ?_⟩
          by_cases e : k = (a + b) / 2
          · rw [e]; omega
          · have := unhide HS ((a + b) / 2) k (by omega) h2; omega
        case measure => simp [intOf]; omega
    · obtain rfl : a = b := by omega
      by_cases ham : a < m
      · have hca := hc a ham
        have hq : (c a == x) = false := by simp [hx a ham]
        clear hc HB hx
        go_wp2_with fail
        refine (nan_any _ _).mono ?_
        rintro e w' ⟨rfl, rfl⟩
        go_wp2_with fail
        go_ret2
        first | exact ⟨_, rfl, rfl⟩ | exact ⟨⟨_, rfl⟩, rfl⟩
      · clear hc HB hx
        go_wp2_with fail
        go_ret2
        first | exact ⟨_, rfl, rfl⟩ | exact ⟨⟨_, rfl⟩, rfl⟩
end Go.Proofs.Qxb6600486a

import Derived.Test.Qxb6603867aBase
import Derived.Test.Qxb6603867aModel
namespace Go.Proofs.Qxb6603867a
set_option linter.unusedVariables false
open Go.RowKit

def OutD (e : Ending) (n n3 m m' : Nat) (u : Nat → Int) : Prop :=
  e = .returned (.bool false) ∨ (e = .returned (.bool true) ∧ m' = m ∧ n + 1 ≤ n3 ∧ Pl.Dom n m u)

set_option maxRecDepth 100000 in
set_option maxHeartbeats 1600000 in
theorem domain_any (n : Nat) (a3 a4 a5 : Option Addr) (n3 m m' c3 c4 c5 : Nat) (u : Nat → Int) (w : World) (hn : n ≤ 1048576) (hm : m ≤ 1048576) (hn3 : n3 ≤ 1048576) (hm' : m' ≤ 1048576) (h : Read w a5 m' c5 (fun i => .int .i32 (u i))) (hu : I32 m' u) :
    Calls Try.prog 23 #[.int .i64 n, .slice a3 n3 c3, .slice a4 m c4, .slice a5 m' c5] w fun e w' => OutD e n n3 m m' u ∧ w = w' := by
  by_cases e1 : m' = m
  · subst e1
    by_cases e2 : n3 < n + 1
    · go_enter Try.func23, Try.ntmps23
      go_wp2_with fail
      go_ret
      exact ⟨.inl rfl, rfl⟩
    · have hd : decide ((n3 : Int) < (n : Int) + 1) = false := by simp; omega
      go_enter Try.func23, Try.ntmps23
      go_wp2_with fail
      go_loop [10] (fun j => ∃ t : Nat, t ≤ m' ∧ j = .int .i64 t ∧ Hid (∀ x, x < t → (0 ≤ u x ∧ u x < m') ∨ (u x < 0 ∧ -1 - u x < n))) (fun j => m' - (intOf j).toNat)
      case atStart => exact ⟨0, Nat.zero_le _, rfl, fun x h => by omega⟩
      case round =>
        obtain ⟨t, ht, rfl, HD⟩ := hrel
        by_cases hlt : t < m'
        · obtain ⟨x, rfl, hc⟩ : ∃ x, a5 = some x ∧ ∀ i, i < m' → w.cell? (x.add i) = some (.int .i32 (u i)) := by
            rcases h with ⟨_, h, _⟩ | h
            · omega
            · exact h
          have hct := hc t hlt
          obtain ⟨hu1, hu2⟩ := hu t hlt
          have hx := xor32 (u t) hu1 hu2
          clear h hc hu
          by_cases h0 : 0 ≤ u t
          · by_cases h1 : (m' : Int) ≤ u t
            · go_wp2_with fail
              go_ret
              exact ⟨.inl rfl, rfl⟩
            · go_wp2_with fail
              go_round
              case rel =>
                refine ⟨t + 1, by omega, by go_num, fun x hx => ?_⟩
                by_cases e : x = t
                · rw [e]; omega
                · exact HD x (by omega)
              case measure => simp [intOf]; omega
          · by_cases h1 : (n : Int) ≤ -1 - u t
            · go_wp2_with fail
              go_ret
              exact ⟨.inl rfl, rfl⟩
            · go_wp2_with fail
              go_round
              case rel =>
                refine ⟨t + 1, by omega, by go_num, fun x hx => ?_⟩
                by_cases e : x = t
                · rw [e]; omega
                · exact HD x (by omega)
              case measure => simp [intOf]; omega
        · go_wp2_with fail
          go_ret
          exact ⟨.inr ⟨rfl, rfl, by omega, fun x hx => HD x (by omega)⟩, rfl⟩
  · go_enter Try.func23, Try.ntmps23
    go_wp2_with fail
    go_ret
    exact ⟨.inl rfl, rfl⟩
end Go.Proofs.Qxb6603867a

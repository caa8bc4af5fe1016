import Derived.Test.Qxb6603867aBase
import Derived.Test.Qxb6603867aModel
namespace Go.Proofs.Qxb6603867a
set_option linter.unusedVariables false
open Go.RowKit

def OutB (e : Ending) (f : Nat → ByteArray) (l0 l1 l2 l3 l4 l5 : Nat) : Prop :=
  e = .returned (.bool false) ∨ (e = .returned (.bool true) ∧ l0 ≤ 1048576 ∧ l1 ≤ 1048576 ∧ l2 ≤ 1048576 ∧ l3 ≤ 1048576 ∧ l4 ≤ 1048576 ∧ l5 ≤ 1048576 ∧ ∀ i, i < l0 → (f i).size ≤ 1048576)

set_option maxRecDepth 100000 in
set_option maxHeartbeats 1600000 in
theorem bytes_any (a : Option Addr) (n c : Nat) (f : Nat → ByteArray) (a1 a2 a3 a4 a5 : Option Addr) (n1 n2 n3 n4 n5 c1 c2 c3 c4 c5 : Nat) (w : World) (h : Read w a n c (fun i => .string (f i))) :
    Calls Try.prog 22 #[.slice a n c, .slice a1 n1 c1, .slice a2 n2 c2, .slice a3 n3 c3, .slice a4 n4 c4, .slice a5 n5 c5] w fun e w' => OutB e f n n1 n2 n3 n4 n5 ∧ w = w' := by
  by_cases hn : 1048576 < n
  · go_enter Try.func22, Try.ntmps22
    go_wp2_with fail
    go_ret
    exact ⟨.inl rfl, rfl⟩
  · have hd : decide (1048576 < (n : Int)) = false := by simp; omega
    go_enter Try.func22, Try.ntmps22
    go_wp2_with fail
    go_loop [13, 14] (fun z j => ∃ t y : Nat, t ≤ n ∧ y ≤ 1048576 ∧ j = .int .i64 t ∧ z = .int .i64 y ∧ Hid (∀ i, i < t → (f i).size ≤ 1048576)) (fun _ j => n - (intOf j).toNat)
    case atStart => exact ⟨0, n, Nat.zero_le _, by omega, rfl, rfl, fun i h => (by omega)⟩
    case round =>
      obtain ⟨t, y, ht, hy, rfl, rfl, HB⟩ := hrel
      by_cases hlt : t < n
      · obtain ⟨x, rfl, hc⟩ : ∃ x, a = some x ∧ ∀ i, i < n → w.cell? (x.add i) = some (.string (f i)) := by
          rcases h with ⟨_, h, _⟩ | h
          · omega
          · exact h
        have hct := hc t hlt
        clear h hc
        generalize hfs : f t = s at hct
        have HFS := hide hfs
        clear hfs
        by_cases h1 : 1048576 < s.size
        · go_wp2_with fail
          go_ret
          exact ⟨.inl rfl, rfl⟩
        · by_cases h2 : 1048576 < y + s.size
          · go_wp2_with fail
            go_ret
            exact ⟨.inl rfl, rfl⟩
          · go_wp2_with fail
            go_round
            case rel =>
              refine ⟨t + 1, y + s.size, by omega, by omega, by go_num, by go_num, fun i hi => ?_⟩
              by_cases e : i = t
              · rw [e, unhide HFS]; omega
              · exact HB i (by omega)
            case measure => simp [intOf]; omega
      · clear h
        by_cases e1 : 1048576 < n1
        · go_wp2_with fail
          go_ret
          exact ⟨.inl rfl, rfl⟩
        by_cases e1' : 1048576 < y + n1
        · go_wp2_with fail
          go_ret
          exact ⟨.inl rfl, rfl⟩
        by_cases e2 : 1048576 < n2
        · go_wp2_with fail
          go_ret
          exact ⟨.inl rfl, rfl⟩
        by_cases e2' : 1048576 < y + n1 + n2
        · go_wp2_with fail
          go_ret
          exact ⟨.inl rfl, rfl⟩
        by_cases e3 : 1048576 < n3
        · go_wp2_with fail
          go_ret
          exact ⟨.inl rfl, rfl⟩
        by_cases e3' : 1048576 < y + n1 + n2 + n3
        · go_wp2_with fail
          go_ret
          exact ⟨.inl rfl, rfl⟩
        by_cases e4 : 1048576 < n4
        · go_wp2_with fail
          go_ret
          exact ⟨.inl rfl, rfl⟩
        by_cases e4' : 1048576 < y + n1 + n2 + n3 + n4
        · go_wp2_with fail
          go_ret
          exact ⟨.inl rfl, rfl⟩
        by_cases e5 : 1048576 < n5
        · go_wp2_with fail
          go_ret
          exact ⟨.inl rfl, rfl⟩
        by_cases e5' : 1048576 < y + n1 + n2 + n3 + n4 + n5
        · go_wp2_with fail
          go_ret
          exact ⟨.inl rfl, rfl⟩
        go_wp2_with fail
        go_ret
        exact ⟨.inr ⟨rfl, by omega, by omega, by omega, by omega, by omega, by omega, fun i hi => HB i (by omega)⟩, rfl⟩
end Go.Proofs.Qxb6603867a

import Derived.Test.Qxb6600486aRingPlain
namespace Go.Proofs.Qxb6600486a
set_option linter.unusedVariables false
open Go.RowKit

set_option maxRecDepth 100000 in
set_option maxHeartbeats 800000 in
theorem zzcycle_any (n M m l fb sb cb cc : Nat) (F : Nat → Nat) (s c : Nat → Int) (N : Nat → Nat) (w : World) (hR : Ring n M m l F s c N) (hn : n ≤ 65536) (hM : M ≤ 100000) (hm : m ≤ 1000000)
    (hF : w.rowIs fb 3 (n + 1) (fun v => .int .i64 (F v))) (hS : w.rowIs sb 3 M (fun e => .int .i64 (s e))) (hC : ∀ i, i < m → w.cell? ⟨cb, i, none⟩ = some (.int .i64 (c i))) (hcb : cb < w.heap.size) :
    Calls Try.prog 17 #[.slice (some ⟨fb, 0, none⟩) (n + 1) (n + 1), .slice (some ⟨sb, 0, none⟩) M M, .slice (some ⟨cb, 0, none⟩) m cc] w fun e w' => ∃ g cp, e = .returned (.slice (some ⟨g, 0, none⟩) l cp) ∧ OwnF w' w.heap.size (some ⟨g, 0, none⟩) l cp (fun i => (N i : Int)) ∧ Below w.heap.size w w' := by
  have HC : Hid (∀ i, i < m → (w.alloc (.cells #[.slice (some ⟨fb, 0, none⟩) (n + 1) (n + 1), .slice (some ⟨sb, 0, none⟩) M M] 47)).cell? ⟨cb, i, none⟩ = some (.int .i64 (c i))) := fun i hi => by
    rw [World.cell?_alloc_past _ _ _ hcb]; exact hC i hi
  clear hC
  go_enter Try.func17, Try.ntmps17
  go_wp2_with fail
  refine (cycle_any n M m l w.heap.size fb sb cb cc F s c N _ hR hn hM hm (heap_alloc_new _ _) (hF.alloc _) (hS.alloc _) (unhide HC) (by simp; omega)).mono ?_
  rintro e w1 ⟨g, cp, rfl, h1, h2⟩
  go_wp2_with fail
  go_ret
  exact ⟨g, cp, rfl, h1.base (by simp), ((Below.refl _ _).alloc (Nat.le_refl _) _).trans (h2.mono (by simp))⟩

theorem bytesC_big (a0 a3 : Int) (a1 a2 : Option Addr) (len1 cap1 len2 cap2 : Nat) (w : World) (hl1 : len1 ≤ 4611686018427387904) (hl2 : len2 ≤ 4611686018427387904) (h : 1048576 < len1 + len2) :
    Calls Try.prog 19 #[.int .i64 a0, .slice a1 len1 cap1, .slice a2 len2 cap2, .int .i64 a3] w fun e w' => e = .returned (.bool false) ∧ w = w' := by
  by_cases h1 : 1048576 < len1
  · go_enter Try.func19, Try.ntmps19
    go_wp2
    go_ret
    exact ⟨rfl, rfl⟩
  · by_cases h2 : 1048576 < len2
    · go_enter Try.func19, Try.ntmps19
      go_wp2
      go_ret
      exact ⟨rfl, rfl⟩
    · go_enter Try.func19, Try.ntmps19
      go_wp2
      go_ret
      exact ⟨rfl, rfl⟩

theorem bytesC_ok (a0 a3 : Int) (a1 a2 : Option Addr) (len1 cap1 len2 cap2 : Nat) (w : World) (h : len1 + len2 ≤ 1048576) :
    Calls Try.prog 19 #[.int .i64 a0, .slice a1 len1 cap1, .slice a2 len2 cap2, .int .i64 a3] w fun e w' => e = .returned (.bool true) ∧ w = w' := by
  go_enter Try.func19, Try.ntmps19
  go_wp2
  go_ret
  exact ⟨rfl, rfl⟩
end Go.Proofs.Qxb6600486a

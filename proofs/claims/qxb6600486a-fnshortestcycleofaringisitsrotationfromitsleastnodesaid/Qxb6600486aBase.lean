import Derived.Test.Qxb6600486aProg
import Derived.WalkKit
import Derived.WalkSpells
import Derived.Deep.OwnRows
import Derived.Deep.QuietTactic
import Derived.BigQuiet
namespace Go.Proofs.Qxb6600486a
set_option linter.unusedVariables false
open Go.RowKit

theorem Try.info3 : (Try.prog.info? 3).map (fun i => (i.zero, i.size, i.bytes)) = some (some (.int .i64 0), 1, 8) := by kernel_rfl

theorem hide {p : Prop} (h : p) : Hid p := h
theorem unhide {p : Prop} (h : Hid p) : p := h
theorem below_drewN {B : Nat} {a w : World} (h : Below B a w) (n : Nat) : Below B a (w.drewN n) := h.trans ⟨rfl, rfl, rfl, Nat.le_refl _, fun _ _ => rfl⟩

/-- A slice of ints that the call owns: nil, or a row of its own block. -/
def Ints (w : World) (a : Option Addr) (n c : Nat) (f : Nat → Int) : Prop :=
  (a = none ∧ n = 0 ∧ c = 0) ∨ ∃ b, a = some ⟨b, 0, none⟩ ∧ c = n ∧ w.rowIs b 3 n (fun i => .int .i64 (f i))

/-- A slice of ints that can be read. -/
def Read (w : World) (a : Option Addr) (n c : Nat) (f : Nat → Int) : Prop :=
  (a = none ∧ n = 0 ∧ c = 0) ∨ ∃ x, a = some x ∧ ∀ i, i < n → w.cell? (x.add i) = some (.int .i64 (f i))

theorem add_none (b o i : Nat) : (⟨b, o, none⟩ : Addr).add i = ⟨b, o + i, none⟩ := by unfold Addr.add; split <;> simp_all

theorem Ints.read {w : World} {a : Option Addr} {n c : Nat} {f : Nat → Int} (h : Ints w a n c f) : Read w a n c f := by
  rcases h with h | ⟨b, rfl, rfl, h⟩
  · exact .inl h
  · exact .inr ⟨_, rfl, fun i hi => by rw [add_none, Nat.zero_add]; exact h.cell hi⟩

theorem Ints.kept {w w' : World} {a : Option Addr} {n c : Nat} {f : Nat → Int} (h : Ints w a n c f) (e : ∀ b, a = some ⟨b, 0, none⟩ → w.rowIs b 3 n (fun i => .int .i64 (f i)) → w'.heap[b]? = w.heap[b]?) : Ints w' a n c f := by
  rcases h with h | ⟨b, rfl, rfl, h⟩
  · exact .inl h
  · exact .inr ⟨b, rfl, rfl, h.of_block (e b rfl h)⟩

theorem Ints.below {w w' : World} {a : Option Addr} {n c : Nat} {f : Nat → Int} (h : Ints w a n c f) (hb : Below w.heap.size w w') : Ints w' a n c f :=
  h.kept fun b _ hr => hb.block b hr.lt

set_option maxHeartbeats 400000 in
theorem clone_nil (w : World) :
    Calls Try.prog 21 #[.slice none 0 0] w fun e w' => e = .returned (.slice none 0 0) ∧ w' = w := by
  have q22 : ∀ (w : World) (a : Option Addr) (n c n' c' : Nat), (binOp .eql 22 (.slice a n c) (.slice none n' c')).run Try.prog w = .ok (.bool a.isNone) w := fun w a n c n' c' => Lib.run_eql_slice_nil w _ _ a n c n' c' Try.underlying22
  go_enter Try.func21, Try.ntmps21
  go_wp2
  go_ret
  exact ⟨rfl, rfl⟩

set_option maxHeartbeats 400000 in
theorem clone_some (x : Addr) (len cap : Nat) (f : Nat → Int) (w : World) (hl : len ≤ 1048576)
    (hc : ∀ i, i < len → w.cell? (x.add i) = some (.int .i64 (f i))) :
    Calls Try.prog 21 #[.slice (some x) len cap] w fun e w' => e = .returned (.slice (some ⟨w.heap.size, 0, none⟩) len len) ∧ w'.rowIs w.heap.size 3 len (fun i => .int .i64 (f i)) ∧ Below w.heap.size w w' ∧ w'.heap.size = w.heap.size + 1 := by
  have q22 : ∀ (w : World) (a : Option Addr) (n c n' c' : Nat), (binOp .eql 22 (.slice a n c) (.slice none n' c')).run Try.prog w = .ok (.bool a.isNone) w := fun w a n c n' c' => Lib.run_eql_slice_nil w _ _ a n c n' c' Try.underlying22
  have hmk := run_make_row' (P := Try.prog) 22 3 (.int .i64 0) 8 Try.underlying22 Try.info3 rfl .i64 .i64 len (by omega) (by omega)
  go_enter Try.func21, Try.ntmps21
  go_wp2
  go_loopw [4] (fun i wr => ∃ k : Nat, k ≤ len ∧ i = .int .i64 k ∧ wr.rowIs w.heap.size 3 len (fun j => .int .i64 (if j < k then f j else 0)) ∧ Below w.heap.size w wr ∧ wr.heap.size = w.heap.size + 1)
    (fun i _ => len - (intOf i).toNat)
  case atStart =>
    exact ⟨0, Nat.zero_le _, rfl, by simpa using World.rowIs_made w (.int .i64 0) len 3, (Below.refl _ _).alloc (Nat.le_refl _) _, by simp⟩
  case round =>
    obtain ⟨k, hk, rfl, hrow, hbel, hsz⟩ := hrel
    by_cases hlt : k < len
    · have hcx : wr.cell? (x.add k) = some (.int .i64 (f k)) := (hbel.cell (World.block_lt_of_cell? w _ (hc k hlt))).trans (hc k hlt)
      have hcy : wr.cell? ⟨w.heap.size, k, none⟩ = some (.int .i64 (if k < k then f k else 0)) := hrow.cell hlt
      have hfy : wr.frozen? ⟨w.heap.size, k, none⟩ = false := hrow.frozen k
      go_wp2
      go_roundw
      case rel =>
        exact ⟨k + 1, by omega, by go_num, (hrow.set k (.int .i64 (f k))).congr (fun j hj => by
          by_cases e : j = k
          · subst e; simp
          · simp only [if_neg e]; congr 1; by_cases h : j < k
            · rw [if_pos h, if_pos (by omega)]
            · rw [if_neg h, if_neg (by omega)]), hbel.setCell (Nat.le_refl _) _, by simp [hsz]⟩
      case measure => simp [intOf]; omega
    · go_wp2
      go_ret
      exact ⟨rfl, hrow.congr (fun j hj => by rw [if_pos (by omega)]), hbel, hsz⟩

theorem clone_any (a : Option Addr) (n c : Nat) (f : Nat → Int) (w : World) (hn : n ≤ 1048576) (h : Read w a n c f) :
    Calls Try.prog 21 #[.slice a n c] w fun e w' => ∃ a' c', e = .returned (.slice a' n c') ∧ Ints w' a' n c' f ∧ a'.isNone = a.isNone ∧ Below w.heap.size w w' := by
  rcases h with ⟨rfl, rfl, rfl⟩ | ⟨x, rfl, hc⟩
  · refine (clone_nil w).mono ?_
    rintro e w' ⟨rfl, rfl⟩
    exact ⟨none, 0, rfl, .inl ⟨rfl, rfl, rfl⟩, rfl, Below.refl _ _⟩
  · refine (clone_some x n c f w hn hc).mono ?_
    rintro e w' ⟨rfl, hr, hb, _⟩
    exact ⟨some ⟨w.heap.size, 0, none⟩, n, rfl, .inr ⟨_, rfl, rfl, hr⟩, rfl, hb⟩

theorem bytesR_big (a0 a1 a2 a3 a4 a5 : Int) (b : Bool) (a : Option Addr) (len cap : Nat) (w : World) (h : 1048576 < len) :
    Calls Try.prog 20 #[.int .i64 a0, .int .i64 a1, .int .i64 a2, .int .i64 a3, .int .i64 a4, .int .i64 a5, .bool b, .slice a len cap] w fun e w' => e = .returned (.bool false) ∧ w = w' := by
  go_enter Try.func20, Try.ntmps20
  go_wp2
  go_ret
  exact ⟨rfl, rfl⟩

theorem bytesR_ok (a0 a1 a2 a3 a4 a5 : Int) (b : Bool) (a : Option Addr) (len cap : Nat) (w : World) (h : len ≤ 1048576) :
    Calls Try.prog 20 #[.int .i64 a0, .int .i64 a1, .int .i64 a2, .int .i64 a3, .int .i64 a4, .int .i64 a5, .bool b, .slice a len cap] w fun e w' => e = .returned (.bool true) ∧ w = w' := by
  go_enter Try.func20, Try.ntmps20
  go_wp2
  go_ret
  exact ⟨rfl, rfl⟩

set_option maxHeartbeats 400000 in
theorem same_nil (w : World) :
    Calls Try.prog 23 #[.slice none 0 0, .slice none 0 0] w fun e w' => e = .returned (.bool true) ∧ Below w.heap.size w w' := by
  have q22 : ∀ (w : World) (a : Option Addr) (n c n' c' : Nat), (binOp .eql 22 (.slice a n c) (.slice none n' c')).run Try.prog w = .ok (.bool a.isNone) w := fun w a n c n' c' => Lib.run_eql_slice_nil w _ _ a n c n' c' Try.underlying22
  go_enter Try.func23, Try.ntmps23
  go_wp2
  go_loopw [5] (fun i wr => i = .int .i64 0 ∧ Below w.heap.size w wr) (fun i _ => 0 - (intOf i).toNat)
  case atStart => exact ⟨rfl, Below.refl _ _⟩
  case round =>
    obtain ⟨rfl, hbel⟩ := hrel
    go_wp2
    go_ret
    exact ⟨rfl, hbel⟩

set_option maxHeartbeats 400000 in
theorem same_rows (b1 b2 n : Nat) (f : Nat → Int) (w : World) (hn : n ≤ 1048576) (h1 : w.rowIs b1 3 n (fun i => .int .i64 (f i))) (h2 : w.rowIs b2 3 n (fun i => .int .i64 (f i))) :
    Calls Try.prog 23 #[.slice (some ⟨b1, 0, none⟩) n n, .slice (some ⟨b2, 0, none⟩) n n] w fun e w' => e = .returned (.bool true) ∧ Below w.heap.size w w' := by
  have q22 : ∀ (w : World) (a : Option Addr) (n c n' c' : Nat), (binOp .eql 22 (.slice a n c) (.slice none n' c')).run Try.prog w = .ok (.bool a.isNone) w := fun w a n c n' c' => Lib.run_eql_slice_nil w _ _ a n c n' c' Try.underlying22
  go_enter Try.func23, Try.ntmps23
  go_wp2
  go_loopw [5] (fun i wr => ∃ k : Nat, k ≤ n ∧ i = .int .i64 k ∧ Below w.heap.size w wr) (fun i _ => n - (intOf i).toNat)
  case atStart => exact ⟨0, Nat.zero_le _, rfl, Below.refl _ _⟩
  case round =>
    obtain ⟨k, hk, rfl, hbel⟩ := hrel
    by_cases hlt : k < n
    · have hc1 : wr.cell? ⟨b1, k, none⟩ = some (.int .i64 (f k)) := (hbel.cell h1.lt).trans (h1.cell hlt)
      have hc2 : wr.cell? ⟨b2, k, none⟩ = some (.int .i64 (f k)) := (hbel.cell h2.lt).trans (h2.cell hlt)
      have g0 : (0 : Int) ≤ (k : Int) := by omega
      have g1 : (k : Int) < (n : Int) := by omega
      go_wp2
      go_quiet (fail)
      go_wp2
      go_roundw
      case rel => exact ⟨k + 1, by omega, by go_num, by first | exact hbel | exact below_drewN hbel _⟩
      case measure => simp [intOf]; omega
    · go_wp2
      go_ret
      exact ⟨rfl, hbel⟩

theorem same_any (a a' : Option Addr) (n c c' : Nat) (f : Nat → Int) (w : World) (hn : n ≤ 1048576) (h : Ints w a n c f) (h' : Ints w a' n c' f) (e : a'.isNone = a.isNone) :
    Calls Try.prog 23 #[.slice a' n c', .slice a n c] w fun e w' => e = .returned (.bool true) ∧ Below w.heap.size w w' := by
  rcases h with ⟨rfl, rfl, rfl⟩ | ⟨b, rfl, rfl, hc⟩
  · rcases h' with ⟨rfl, _, rfl⟩ | ⟨b, rfl, rfl, hc⟩
    · exact same_nil w
    · simp at e
  · rcases h' with ⟨rfl, _, rfl⟩ | ⟨b', rfl, rfl, hc'⟩
    · simp at e
    · exact same_rows b' b _ f w hn hc' hc

end Go.Proofs.Qxb6600486a

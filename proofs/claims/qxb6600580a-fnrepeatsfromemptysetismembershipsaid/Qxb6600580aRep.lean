import Derived.Test.Qxb6600580aProg
import Derived.WalkKit
import Derived.WalkSpells
import Derived.Deep.OwnRows
import Derived.Deep.QuietTactic
import Derived.BigQuiet
import Derived.BigRegion
import Derived.Deep.LoopGhost
import Derived.Deep.DeepCutAuto
import Derived.Deep.AppendLies
import Derived.Maps.OwnSet
import Derived.Maps.OwnOps
namespace Go.Proofs.Qxb6600580a.Rep
set_option linter.unusedVariables false
open Go.RowKit Go.Maps

theorem hide {p : Prop} (h : p) : Hid p := h
theorem unhide {p : Prop} (h : Hid p) : p := h
theorem below_drewN {B : Nat} {a w : World} (h : Below B a w) (n : Nat) : Below B a (w.drewN n) := h.trans ⟨rfl, rfl, rfl, Nat.le_refl _, fun _ _ => rfl⟩
theorem add_none (b o i : Nat) : (⟨b, o, none⟩ : Addr).add i = ⟨b, o + i, none⟩ := by unfold Addr.add; split <;> simp_all

theorem info9 : (Try.prog.info? 9).map (fun i => (i.zero, i.size, i.bytes)) = some (some (.string ByteArray.empty), 1, 16) := by kernel_rfl

/-- A slice of strings that can be read. -/
def Read (w : World) (a : Option Addr) (n c : Nat) (f : Nat → ByteArray) : Prop :=
  (a = none ∧ n = 0 ∧ c = 0) ∨ ∃ x, a = some x ∧ ∀ i, i < n → w.cell? (x.add i) = some (.string (f i))

/-- A slice of strings that the call owns. -/
def Strs (w : World) (a : Option Addr) (n c : Nat) (f : Nat → ByteArray) : Prop :=
  (a = none ∧ n = 0 ∧ c = 0) ∨ ∃ b, a = some ⟨b, 0, none⟩ ∧ c = n ∧ w.rowIs b 9 n (fun i => .string (f i))

theorem Strs.form {w : World} {a : Option Addr} {n c : Nat} {f : Nat → ByteArray} (h : Strs w a n c f) (hn : 0 < n) : ∃ b, a = some ⟨b, 0, none⟩ ∧ w.rowIs b 9 n (fun i => .string (f i)) := by
  rcases h with ⟨_, h, _⟩ | ⟨b, rfl, rfl, h⟩
  · omega
  · exact ⟨b, rfl, h⟩

theorem Strs.kept {w w' : World} {a : Option Addr} {n c : Nat} {f : Nat → ByteArray} (h : Strs w a n c f) (e : ∀ b, w.rowIs b 9 n (fun i => .string (f i)) → w'.heap[b]? = w.heap[b]?) : Strs w' a n c f := by
  rcases h with h | ⟨b, rfl, rfl, h⟩
  · exact .inl h
  · exact .inr ⟨b, rfl, rfl, h.of_block (e b h)⟩

set_option maxHeartbeats 400000 in
theorem clone_nil (w : World) :
    Calls Try.prog 22 #[.slice none 0 0] w fun e w' => e = .returned (.slice none 0 0) ∧ w' = w := by
  have q31 : ∀ (w : World) (a : Option Addr) (n c n' c' : Nat), (binOp .eql 31 (.slice a n c) (.slice none n' c')).run Try.prog w = .ok (.bool a.isNone) w := fun w a n c n' c' => Lib.run_eql_slice_nil w _ _ a n c n' c' Try.underlying31
  go_enter Try.func22, Try.ntmps22
  go_wp2
  go_ret
  exact ⟨rfl, rfl⟩

set_option maxHeartbeats 400000 in
theorem clone_some (x : Addr) (len cap : Nat) (f : Nat → ByteArray) (w : World) (hl : len ≤ 1048576)
    (hc : ∀ i, i < len → w.cell? (x.add i) = some (.string (f i))) :
    Calls Try.prog 22 #[.slice (some x) len cap] w fun e w' => e = .returned (.slice (some ⟨w.heap.size, 0, none⟩) len len) ∧ w'.rowIs w.heap.size 9 len (fun i => .string (f i)) ∧ Below w.heap.size w w' ∧ w'.heap.size = w.heap.size + 1 := by
  have q31 : ∀ (w : World) (a : Option Addr) (n c n' c' : Nat), (binOp .eql 31 (.slice a n c) (.slice none n' c')).run Try.prog w = .ok (.bool a.isNone) w := fun w a n c n' c' => Lib.run_eql_slice_nil w _ _ a n c n' c' Try.underlying31
  have hmk := run_make_row' (P := Try.prog) 31 9 (.string ByteArray.empty) 16 Try.underlying31 info9 rfl .i64 .i64 len (by omega) (by omega)
  go_enter Try.func22, Try.ntmps22
  go_wp2
  go_loopw [4] (fun i wr => ∃ k : Nat, k ≤ len ∧ i = .int .i64 k ∧ wr.rowIs w.heap.size 9 len (fun j => .string (if j < k then f j else ByteArray.empty)) ∧ Below w.heap.size w wr ∧ wr.heap.size = w.heap.size + 1)
    (fun i _ => len - (intOf i).toNat)
  case atStart =>
    exact ⟨0, Nat.zero_le _, rfl, by simpa using World.rowIs_made w (.string ByteArray.empty) len 9, (Below.refl _ _).alloc (Nat.le_refl _) _, by simp⟩
  case round =>
    obtain ⟨k, hk, rfl, hrow, hbel, hsz⟩ := hrel
    by_cases hlt : k < len
    · have hcx : wr.cell? (x.add k) = some (.string (f k)) := (hbel.cell (World.block_lt_of_cell? w _ (hc k hlt))).trans (hc k hlt)
      have hcy : wr.cell? ⟨w.heap.size, k, none⟩ = some (.string (if k < k then f k else ByteArray.empty)) := hrow.cell hlt
      have hfy : wr.frozen? ⟨w.heap.size, k, none⟩ = false := hrow.frozen k
      go_wp2
      go_roundw
      case rel =>
        exact ⟨k + 1, by omega, by go_num, (hrow.set k (.string (f k))).congr (fun j hj => by
          by_cases e : j = k
          · subst e; simp
          · simp only [if_neg e]; congr 1; by_cases h : j < k
            · rw [if_pos h, if_pos (by omega)]
            · rw [if_neg h, if_neg (by omega)]), hbel.setCell (Nat.le_refl _) _, by simp [hsz]⟩
      case measure => simp [intOf]; omega
    · go_wp2
      go_ret
      exact ⟨rfl, hrow.congr (fun j hj => by rw [if_pos (by omega)]), hbel, hsz⟩

theorem clone_any (a : Option Addr) (n c : Nat) (f : Nat → ByteArray) (w : World) (hn : n ≤ 1048576) (h : Read w a n c f) :
    Calls Try.prog 22 #[.slice a n c] w fun e w' => ∃ a' c', e = .returned (.slice a' n c') ∧ Strs w' a' n c' f ∧ Below w.heap.size w w' := by
  rcases h with ⟨rfl, rfl, rfl⟩ | ⟨x, rfl, hc⟩
  · refine (clone_nil w).mono ?_
    rintro e w' ⟨rfl, rfl⟩
    exact ⟨none, 0, rfl, .inl ⟨rfl, rfl, rfl⟩, Below.refl _ _⟩
  · refine (clone_some x n c f w hn hc).mono ?_
    rintro e w' ⟨rfl, hr, hb, _⟩
    exact ⟨some ⟨w.heap.size, 0, none⟩, n, rfl, .inr ⟨_, rfl, rfl, hr⟩, hb⟩

/-- 'Occurs before': yes. -/
theorem occ_yes (a : Option Addr) (n c i : Nat) (f : Nat → ByteArray) (x : ByteArray) (w : World) (hn : n ≤ 1048576) (hi : i ≤ n) (h : Strs w a n c f) (j0 : Nat) (hj0 : j0 < i) (hx : (f j0).toList = x.toList) :
    Calls Try.prog 24 #[.slice a n c, .int .i64 i, .string x] w fun e w' => e = .returned (.bool true) ∧ w = w' := by
  obtain ⟨b, rfl, hr⟩ := h.form (by omega)
  have HX := hide hx
  clear hx
  go_enter Try.func24, Try.ntmps24
  go_wp2_with fail
  go_loop [7] (fun j => ∃ t : Nat, t ≤ i ∧ j = .int .i64 t ∧ Hid (∀ k, k < t → (f k).toList ≠ x.toList)) (fun j => i - (intOf j).toNat)
  case atStart => exact ⟨0, Nat.zero_le _, rfl, fun k h => by omega⟩
  case round =>
    obtain ⟨t, ht, rfl, HN⟩ := hrel
    by_cases hlt : t < i
    · have hc := hr.cell (i := t) (by omega)
      cases hb : ((f t).toList == x.toList) with
      | true =>
        go_wp2_with fail
        go_ret
        exact ⟨rfl, rfl⟩
      | false =>
        have HB := hide hb
        go_wp2_with fail
        go_round
        case rel =>
          refine ⟨t + 1, by omega, by go_num, fun k hk => ?_⟩
          by_cases e : k = t
          · rw [e]; exact beq_eq_false_iff_ne.1 (unhide HB)
          · exact HN k (by omega)
        case measure => simp [intOf]; omega
    · exact absurd (unhide HX) (HN j0 (by omega))

theorem occ_no (a : Option Addr) (n c i : Nat) (f : Nat → ByteArray) (x : ByteArray) (w : World) (hn : n ≤ 1048576) (hi : i ≤ n) (h : Strs w a n c f) (hx : ∀ k, k < i → (f k).toList ≠ x.toList) :
    Calls Try.prog 24 #[.slice a n c, .int .i64 i, .string x] w fun e w' => e = .returned (.bool false) ∧ w = w' := by
  have HX := hide hx
  clear hx
  go_enter Try.func24, Try.ntmps24
  go_wp2_with fail
  go_loop [7] (fun j => ∃ t : Nat, t ≤ i ∧ j = .int .i64 t) (fun j => i - (intOf j).toNat)
  case atStart => exact ⟨0, Nat.zero_le _, rfl⟩
  case round =>
    obtain ⟨t, ht, rfl⟩ := hrel
    by_cases hlt : t < i
    · obtain ⟨b, rfl, hr⟩ := h.form (by omega)
      have hc := hr.cell (i := t) (by omega)
      have hb : ((f t).toList == x.toList) = false := beq_eq_false_iff_ne.2 (unhide HX t hlt)
      go_wp2_with fail
      go_round
      case rel => exact ⟨t + 1, by omega, by go_num⟩
      case measure => simp [intOf]; omega
    · go_wp2_with fail
      go_ret
      exact ⟨rfl, rfl⟩

def OutT (e : Ending) (n : Nat) : Prop := e = .returned (.bool false) ∨ (e = .returned (.bool true) ∧ n ≤ 1048576)
def OutF (e : Ending) (n : Nat) : Prop := e = .returned (.bool true) ∨ (e = .returned (.bool false) ∧ n ≤ 4096)

set_option maxRecDepth 100000 in
set_option maxHeartbeats 800000 in
theorem bytes8 (a : Option Addr) (n c : Nat) (f : Nat → ByteArray) (w : World) (h : Read w a n c f) :
    Calls Try.prog 20 #[.slice a n c] w fun e w' => OutT e n ∧ w = w' := by
  by_cases hn : 1048576 < n
  · go_enter Try.func20, Try.ntmps20
    go_wp2_with fail
    go_ret
    exact ⟨.inl rfl, rfl⟩
  · have hd : decide (1048576 < (n : Int)) = false := by simp; omega
    go_enter Try.func20, Try.ntmps20
    go_wp2_with fail
    go_loop [3, 4] (fun z j => ∃ t y : Nat, t ≤ n ∧ y ≤ 1048576 ∧ j = .int .i64 t ∧ z = .int .i64 y) (fun _ j => n - (intOf j).toNat)
    case atStart => exact ⟨0, n, Nat.zero_le _, by omega, rfl, rfl⟩
    case round =>
      obtain ⟨t, y, ht, hy, rfl, rfl⟩ := hrel
      by_cases hlt : t < n
      · obtain ⟨x, rfl, hc⟩ : ∃ x, a = some x ∧ ∀ i, i < n → w.cell? (x.add i) = some (.string (f i)) := by
          rcases h with ⟨_, h, _⟩ | h
          · omega
          · exact h
        have hct := hc t hlt
        clear h hc
        generalize f t = s at hct
        by_cases h1 : 1048576 < s.size
        · go_wp2_with fail
          go_ret
          exact ⟨.inl rfl, rfl⟩
        · by_cases h2 : 1048576 < y + s.size
          · go_wp2_with fail
            go_ret
            exact ⟨.inl rfl, rfl⟩
          · go_wp2_with fail
            go_round
            case rel => exact ⟨t + 1, y + s.size, by omega, by omega, by go_num, by go_num⟩
            case measure => simp [intOf]; omega
      · go_wp2_with fail
        go_ret
        exact ⟨.inr ⟨rfl, by omega⟩, rfl⟩

set_option maxRecDepth 100000 in
set_option maxHeartbeats 800000 in
theorem toobig (a : Option Addr) (n c : Nat) (f : Nat → ByteArray) (nm : ByteArray) (w : World) (hn : n ≤ 1048576) (h : Read w a n c f) :
    Calls Try.prog 21 #[.slice a n c, .string nm] w fun e w' => OutF e n ∧ w = w' := by
  by_cases hn1 : 4096 < n
  · go_enter Try.func21, Try.ntmps21
    go_wp2_with fail
    go_ret
    exact ⟨.inl rfl, rfl⟩
  · by_cases hn2 : 1048576 < nm.size
    · go_enter Try.func21, Try.ntmps21
      go_wp2_with fail
      go_ret
      exact ⟨.inl rfl, rfl⟩
    · have hd : decide (4096 < (n : Int)) = false := by simp; omega
      have hd2 : decide (1048576 < (nm.size : Int)) = false := by simp; omega
      go_enter Try.func21, Try.ntmps21
      go_wp2_with fail
      go_loop [5, 6] (fun z j => ∃ t y : Nat, t ≤ n ∧ y ≤ 1048576 ∧ j = .int .i64 t ∧ z = .int .i64 y) (fun _ j => n - (intOf j).toNat)
      case atStart => exact ⟨0, nm.size, Nat.zero_le _, by omega, rfl, rfl⟩
      case round =>
        obtain ⟨t, y, ht, hy, rfl, rfl⟩ := hrel
        by_cases hlt : t < n
        · obtain ⟨x, rfl, hc⟩ : ∃ x, a = some x ∧ ∀ i, i < n → w.cell? (x.add i) = some (.string (f i)) := by
            rcases h with ⟨_, h, _⟩ | h
            · omega
            · exact h
          have hct := hc t hlt
          clear h hc
          generalize f t = s at hct
          by_cases h1 : 1048576 < s.size
          · go_wp2_with fail
            go_ret
            exact ⟨.inl rfl, rfl⟩
          · by_cases h2 : 1048576 < y + (16 + s.size)
            · go_wp2_with fail
              go_ret
              exact ⟨.inl rfl, rfl⟩
            · go_wp2_with fail
              go_round
              case rel => exact ⟨t + 1, y + (16 + s.size), by omega, by omega, by go_num, by go_num⟩
              case measure => simp [intOf]; omega
        · go_wp2_with fail
          go_ret
          exact ⟨.inr ⟨rfl, by omega⟩, rfl⟩
end Go.Proofs.Qxb6600580a.Rep

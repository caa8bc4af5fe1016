import Derived.Test.Qxb6600580aProg
import Derived.WalkKit
import Derived.WalkSpells
import Derived.Deep.OwnRows
import Derived.Deep.QuietTactic
import Derived.BigQuiet
import Derived.Deep.LoopGhost
namespace Go.Proofs.Qxb6600580a
set_option linter.unusedVariables false
open Go.RowKit

theorem hide {p : Prop} (h : p) : Hid p := h
theorem unhide {p : Prop} (h : Hid p) : p := h
theorem below_drewN {B : Nat} {a w : World} (h : Below B a w) (n : Nat) : Below B a (w.drewN n) := h.trans ⟨rfl, rfl, rfl, Nat.le_refl _, fun _ _ => rfl⟩
theorem add_none (b o i : Nat) : (⟨b, o, none⟩ : Addr).add i = ⟨b, o + i, none⟩ := by unfold Addr.add; split <;> simp_all

theorem Try.info5 : (Try.prog.info? 5).map (fun i => (i.zero, i.size, i.bytes)) = some (some (.int .u8 0), 1, 1) := by kernel_rfl

/-- A slice of bytes that the call owns: nil, or a row of its own block. -/
def Byts (w : World) (a : Option Addr) (n c : Nat) (f : Nat → Int) : Prop :=
  (a = none ∧ n = 0 ∧ c = 0) ∨ ∃ b, a = some ⟨b, 0, none⟩ ∧ c = n ∧ w.rowIs b 5 n (fun i => .int .u8 (f i))

/-- A slice of bytes that can be read. -/
def Read (w : World) (a : Option Addr) (n c : Nat) (f : Nat → Int) : Prop :=
  (a = none ∧ n = 0 ∧ c = 0) ∨ ∃ x, a = some x ∧ ∀ i, i < n → w.cell? (x.add i) = some (.int .u8 (f i))

theorem Byts.below {w w' : World} {a : Option Addr} {n c : Nat} {f : Nat → Int} (h : Byts w a n c f) (hb : Below w.heap.size w w') : Byts w' a n c f := by
  rcases h with h | ⟨b, rfl, rfl, h⟩
  · exact .inl h
  · exact .inr ⟨b, rfl, rfl, h.of_block (hb.block b h.lt)⟩

theorem Byts.form {w : World} {a : Option Addr} {n c : Nat} {f : Nat → Int} (h : Byts w a n c f) (hn : 0 < n) : ∃ b, a = some ⟨b, 0, none⟩ ∧ w.rowIs b 5 n (fun i => .int .u8 (f i)) := by
  rcases h with ⟨_, h, _⟩ | ⟨b, rfl, rfl, h⟩
  · omega
  · exact ⟨b, rfl, h⟩

set_option maxHeartbeats 400000 in
theorem clone_nil (w : World) :
    Calls Try.prog 11 #[.slice none 0 0] w fun e w' => e = .returned (.slice none 0 0) ∧ w' = w := by
  have q22 : ∀ (w : World) (a : Option Addr) (n c n' c' : Nat), (binOp .eql 22 (.slice a n c) (.slice none n' c')).run Try.prog w = .ok (.bool a.isNone) w := fun w a n c n' c' => Lib.run_eql_slice_nil w _ _ a n c n' c' Try.underlying22
  go_enter Try.func11, Try.ntmps11
  go_wp2
  go_ret
  exact ⟨rfl, rfl⟩

set_option maxHeartbeats 400000 in
theorem clone_some (x : Addr) (len cap : Nat) (f : Nat → Int) (w : World) (hl : len ≤ 1048576)
    (hc : ∀ i, i < len → w.cell? (x.add i) = some (.int .u8 (f i))) :
    Calls Try.prog 11 #[.slice (some x) len cap] w fun e w' => e = .returned (.slice (some ⟨w.heap.size, 0, none⟩) len len) ∧ w'.rowIs w.heap.size 5 len (fun i => .int .u8 (f i)) ∧ Below w.heap.size w w' ∧ w'.heap.size = w.heap.size + 1 := by
  have q22 : ∀ (w : World) (a : Option Addr) (n c n' c' : Nat), (binOp .eql 22 (.slice a n c) (.slice none n' c')).run Try.prog w = .ok (.bool a.isNone) w := fun w a n c n' c' => Lib.run_eql_slice_nil w _ _ a n c n' c' Try.underlying22
  have hmk := run_make_row' (P := Try.prog) 22 5 (.int .u8 0) 1 Try.underlying22 Try.info5 rfl .i64 .i64 len (by omega) (by omega)
  go_enter Try.func11, Try.ntmps11
  go_wp2
  go_loopw [4] (fun i wr => ∃ k : Nat, k ≤ len ∧ i = .int .i64 k ∧ wr.rowIs w.heap.size 5 len (fun j => .int .u8 (if j < k then f j else 0)) ∧ Below w.heap.size w wr ∧ wr.heap.size = w.heap.size + 1)
    (fun i _ => len - (intOf i).toNat)
  case atStart =>
    exact ⟨0, Nat.zero_le _, rfl, by simpa using World.rowIs_made w (.int .u8 0) len 5, (Below.refl _ _).alloc (Nat.le_refl _) _, by simp⟩
  case round =>
    obtain ⟨k, hk, rfl, hrow, hbel, hsz⟩ := hrel
    by_cases hlt : k < len
    · have hcx : wr.cell? (x.add k) = some (.int .u8 (f k)) := (hbel.cell (World.block_lt_of_cell? w _ (hc k hlt))).trans (hc k hlt)
      have hcy : wr.cell? ⟨w.heap.size, k, none⟩ = some (.int .u8 (if k < k then f k else 0)) := hrow.cell hlt
      have hfy : wr.frozen? ⟨w.heap.size, k, none⟩ = false := hrow.frozen k
      go_wp2
      go_roundw
      case rel =>
        exact ⟨k + 1, by omega, by go_num, (hrow.set k (.int .u8 (f k))).congr (fun j hj => by
          by_cases e : j = k
          · subst e; simp
          · simp only [if_neg e]; congr 1; by_cases h : j < k
            · rw [if_pos h, if_pos (by omega)]
            · rw [if_neg h, if_neg (by omega)]), hbel.setCell (Nat.le_refl _) _, by simp [hsz]⟩
      case measure => simp [intOf]; omega
    · go_wp2
      go_ret
      exact ⟨rfl, hrow.congr (fun j hj => by rw [if_pos (by omega)]), hbel, hsz⟩

theorem clone_any (a : Option Addr) (n c : Nat) (f : Nat → Int) (w : World) (hn : n ≤ 1048576) (h : Read w a n c f) :
    Calls Try.prog 11 #[.slice a n c] w fun e w' => ∃ a' c', e = .returned (.slice a' n c') ∧ Byts w' a' n c' f ∧ Below w.heap.size w w' := by
  rcases h with ⟨rfl, rfl, rfl⟩ | ⟨x, rfl, hc⟩
  · refine (clone_nil w).mono ?_
    rintro e w' ⟨rfl, rfl⟩
    exact ⟨none, 0, rfl, .inl ⟨rfl, rfl, rfl⟩, Below.refl _ _⟩
  · refine (clone_some x n c f w hn hc).mono ?_
    rintro e w' ⟨rfl, hr, hb, _⟩
    exact ⟨some ⟨w.heap.size, 0, none⟩, n, rfl, .inr ⟨_, rfl, rfl, hr⟩, hb⟩

/-- The parser's cells: in, pos, out, dup. -/
def parserAt (w : World) (P : Nat) (a : Option Addr) (n c : Nat) (pos : Int) : Prop :=
  w.heap[P]? = some (.cells #[.slice a n c, .int .i64 pos, .slice none 0 0, .pointer none] 47 (0, 0))

theorem parserAt.set {w : World} {P n c : Nat} {a : Option Addr} {pos : Int} (h : parserAt w P a n c pos) (q : Int) : parserAt (w.setCell ⟨P, 1, none⟩ (.int .i64 q)) P a n c q := by
  unfold parserAt at *
  simp [World.setCell, Array.getElem?_modify, h]

def isSp (c : Int) : Prop := c = 32 ∨ c = 9 ∨ c = 10 ∨ c = 13

set_option maxRecDepth 100000 in
set_option maxHeartbeats 800000 in
theorem skip_past (P : Nat) (a : Option Addr) (n c : Nat) (pos : Int) (w : World) (hn : n ≤ 1048576) (hp : (n : Int) ≤ pos) (h : parserAt w P a n c pos) :
    Calls Try.prog 26 #[.pointer (some ⟨P, 0, none⟩)] w fun e w' => e = .returned (.tuple #[]) ∧ ∃ k, w' = w.drewN k := by
  have c0 : w.cell? ⟨P, 0, none⟩ = some (.slice a n c) := by simp [World.cell?, show w.heap[P]? = _ from h]
  have c1 : w.cell? ⟨P, 1, none⟩ = some (.int .i64 pos) := by simp [World.cell?, show w.heap[P]? = _ from h]
  have hd : decide (pos < (n : Int)) = false := by simp; omega
  go_enter Try.func26, Try.ntmps26
  go_wp2_with fail
  refine wp_loop_rounds 1 ?_
  rw [rounds_succ]
  go_wp2_with fail
  go_quiet (fail)
  go_wp2_with fail
  go_end0
  exact ⟨rfl, _, rfl⟩

set_option maxRecDepth 100000 in
set_option maxHeartbeats 1600000 in
theorem skip_any (P b n c p B : Nat) (f : Nat → Int) (w : World) (hn : n ≤ 1048576) (hp : p < n) (h : parserAt w P (some ⟨b, 0, none⟩) n c p) (hr : w.rowIs b 5 n (fun i => .int .u8 (f i))) (hB : B ≤ P) (hb : b < B) :
    Calls Try.prog 26 #[.pointer (some ⟨P, 0, none⟩)] w fun e w' => e = .returned (.tuple #[]) ∧ ∃ q : Nat, p ≤ q ∧ q ≤ n ∧ (∀ i, p ≤ i → i < q → isSp (f i)) ∧ (q = n ∨ ¬ isSp (f q)) ∧ parserAt w' P (some ⟨b, 0, none⟩) n c q ∧ Below B w w' := by
  go_enter Try.func26, Try.ntmps26
  go_wp2_with fail
  go_loopg [] (n - p) (fun gk wr => ∃ k : Nat, p ≤ k ∧ k ≤ n ∧ gk = n - k ∧ Hid (∀ i, p ≤ i → i < k → isSp (f i)) ∧ parserAt wr P (some ⟨b, 0, none⟩) n c k ∧ Below B w wr)
  case atStart => exact ⟨p, Nat.le_refl _, by omega, rfl, fun i h1 h2 => by omega, h, Below.refl _ _⟩
  case round =>
    obtain ⟨k, hpk, hkn, rfl, HS, hpar, hbel⟩ := hrel
    have HP := hide hpar
    have c0 : wr.cell? ⟨P, 0, none⟩ = some (.slice (some ⟨b, 0, none⟩) n c) := by simp [World.cell?, show wr.heap[P]? = _ from hpar]
    have c1 : wr.cell? ⟨P, 1, none⟩ = some (.int .i64 k) := by simp [World.cell?, show wr.heap[P]? = _ from hpar]
    have f1 : wr.frozen? ⟨P, 1, none⟩ = false := by simp [World.frozen?, show wr.heap[P]? = _ from hpar]
    clear hpar h
    by_cases hlt : k < n
    · have cb := (hbel.cell (p := ⟨b, k, none⟩) hb).trans (hr.cell hlt)
      have g1 : (k : Int) < (n : Int) := by omega
      have g0 : (0 : Int) ≤ (k : Int) := by omega
      by_cases hsp : isSp (f k)
      · have HSP := hide hsp
        rcases hsp with e | e | e | e
        all_goals
          rw [e] at cb
          clear e
          go_wp2_with fail
          go_quiet (fail)
          go_wp2_with fail
          go_quiet (fail)
          go_wp2_with fail
          go_roundg (n - (k + 1))
          case measure => omega
          case rel =>
            refine ⟨k + 1, by omega, by omega, rfl, fun i h1 h2 => ?_, by rw [show ((k + 1 : Nat) : Int) = (k : Int) + 1 by omega]; exact parserAt.set (w := wr.drewN _) (unhide HP) _, (below_drewN hbel _).setCell hB _⟩
            by_cases e : i = k
            · rw [e]; exact unhide HSP
            · exact HS i h1 (by omega)
      · have e1 : (f k == 32) = false := by rw [beq_eq_false_iff_ne]; exact fun e => hsp (.inl e)
        have e2 : (f k == 9) = false := by rw [beq_eq_false_iff_ne]; exact fun e => hsp (.inr (.inl e))
        have e3 : (f k == 10) = false := by rw [beq_eq_false_iff_ne]; exact fun e => hsp (.inr (.inr (.inl e)))
        have e4 : (f k == 13) = false := by rw [beq_eq_false_iff_ne]; exact fun e => hsp (.inr (.inr (.inr e)))
        have HSP := hide hsp
        clear hsp
        go_wp2_with fail
        go_quiet (fail)
        go_wp2_with fail
        go_quiet (fail)
        go_wp2_with fail
        refine bodyPost_ret (results_none rfl _ _ _) rfl ?_
        exact ⟨rfl, k, hpk, hkn, HS, .inr (unhide HSP), unhide HP, below_drewN hbel _⟩
    · have hd : decide ((k : Int) < (n : Int)) = false := by simp; omega
      go_wp2_with fail
      go_quiet (fail)
      go_wp2_with fail
      go_end0
      exact ⟨rfl, k, hpk, hkn, HS, .inl (by omega), unhide HP, below_drewN hbel _⟩
end Go.Proofs.Qxb6600580a

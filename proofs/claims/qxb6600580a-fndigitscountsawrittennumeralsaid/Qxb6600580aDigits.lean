import Derived.Test.Qxb6600580aSkip
namespace Go.Proofs.Qxb6600580a
set_option linter.unusedVariables false
open Go.RowKit

def isDg (c : Int) : Prop := 48 ≤ c ∧ c ≤ 57

theorem digit_yes (c : Int) (w : World) (h : isDg c) : Calls Try.prog 18 #[.int .u8 c] w fun e w' => e = .returned (.bool true) ∧ w = w' := by
  obtain ⟨h1, h2⟩ := h
  go_enter Try.func18, Try.ntmps18
  go_wp2
  go_ret
  exact ⟨rfl, rfl⟩

theorem digit_no (c : Int) (w : World) (h : ¬ isDg c) : Calls Try.prog 18 #[.int .u8 c] w fun e w' => e = .returned (.bool false) ∧ w = w' := by
  by_cases h1 : 48 ≤ c
  · have h2 : ¬ c ≤ 57 := fun h2 => h ⟨h1, h2⟩
    clear h
    go_enter Try.func18, Try.ntmps18
    go_wp2
    go_ret
    exact ⟨rfl, rfl⟩
  · clear h
    go_enter Try.func18, Try.ntmps18
    go_wp2
    go_ret
    exact ⟨rfl, rfl⟩

set_option maxRecDepth 100000 in
set_option maxHeartbeats 800000 in
theorem dig_past (P : Nat) (a : Option Addr) (n c : Nat) (pos : Int) (w : World) (hn : n ≤ 1048576) (hp : (n : Int) ≤ pos) (h : parserAt w P a n c pos) :
    Calls Try.prog 27 #[.pointer (some ⟨P, 0, none⟩)] w fun e w' => e = .returned (.int .i64 0) ∧ ∃ k, w' = w.drewN k := by
  have c0 : w.cell? ⟨P, 0, none⟩ = some (.slice a n c) := by simp [World.cell?, show w.heap[P]? = _ from h]
  have c1 : w.cell? ⟨P, 1, none⟩ = some (.int .i64 pos) := by simp [World.cell?, show w.heap[P]? = _ from h]
  have hd : decide (pos < (n : Int)) = false := by simp; omega
  clear h
  go_enter Try.func27, Try.ntmps27
  go_wp2_with fail
  refine wp_loop_rounds 1 ?_
  rw [rounds_succ]
  go_wp2_with fail
  go_quiet (fail)
  go_wp2_with fail
  go_ret
  exact ⟨rfl, _, rfl⟩

set_option maxRecDepth 100000 in
set_option maxHeartbeats 3200000 in
theorem dig_any (P b n c p B : Nat) (f : Nat → Int) (w : World) (hn : n ≤ 1048576) (hp : p < n) (h : parserAt w P (some ⟨b, 0, none⟩) n c p) (hr : w.rowIs b 5 n (fun i => .int .u8 (f i))) (hB : B ≤ P) (hb : b < B) :
    Calls Try.prog 27 #[.pointer (some ⟨P, 0, none⟩)] w fun e w' => ∃ q : Nat, e = .returned (.int .i64 ((q : Int) - p)) ∧ p ≤ q ∧ q ≤ n ∧ (∀ i, p ≤ i → i < q → isDg (f i)) ∧ (q = n ∨ ¬ isDg (f q)) ∧ parserAt w' P (some ⟨b, 0, none⟩) n c q ∧ Below B w w' := by
  go_enter Try.func27, Try.ntmps27
  go_wp2_with fail
  go_loopg [3] (n - p) (fun gk cn wr => ∃ k : Nat, p ≤ k ∧ k ≤ n ∧ gk = n - k ∧ cn = .int .i64 ((k : Int) - p) ∧ Hid (∀ i, p ≤ i → i < k → isDg (f i)) ∧ parserAt wr P (some ⟨b, 0, none⟩) n c k ∧ Below B w wr)
  case atStart => exact ⟨p, Nat.le_refl _, by omega, rfl, by go_num, fun i h1 h2 => by omega, h, Below.refl _ _⟩
  case round =>
    obtain ⟨k, hpk, hkn, rfl, rfl, HS, hpar, hbel⟩ := hrel
    have HP := hide hpar
    have c0 : wr.cell? ⟨P, 0, none⟩ = some (.slice (some ⟨b, 0, none⟩) n c) := by simp [World.cell?, show wr.heap[P]? = _ from hpar]
    have c1 : wr.cell? ⟨P, 1, none⟩ = some (.int .i64 k) := by simp [World.cell?, show wr.heap[P]? = _ from hpar]
    have f1 : wr.frozen? ⟨P, 1, none⟩ = false := by simp [World.frozen?, show wr.heap[P]? = _ from hpar]
    clear hpar h
    by_cases hlt : k < n
    · have cb := (hbel.cell (p := ⟨b, k, none⟩) hb).trans (hr.cell hlt)
      have g1 : (k : Int) < (n : Int) := by omega
      have g0 : (0 : Int) ≤ (k : Int) := by omega
      by_cases hd1 : 48 ≤ f k
      · by_cases hd2 : f k ≤ 57
        · go_wp2_with fail
          go_quiet (fail)
          go_wp2_with fail
          go_roundg (n - (k + 1))
          case measure => omega
          case rel =>
            refine ⟨k + 1, by omega, by omega, rfl, by go_num, fun i h1 h2 => ?_, by rw [show ((k + 1 : Nat) : Int) = (k : Int) + 1 by omega]; exact parserAt.set (w := wr.drewN _) (unhide HP) _, (below_drewN hbel _).setCell hB _⟩
            by_cases e : i = k
            · rw [e]; exact ⟨hd1, hd2⟩
            · exact HS i h1 (by omega)
        · have e1 : decide (f k ≤ 57) = false := by simp; omega
          go_wp2_with fail
          go_quiet (fail)
          go_wp2_with fail
          go_ret
          exact ⟨k, rfl, hpk, hkn, HS, .inr (fun h => by have := h.2; omega), unhide HP, below_drewN hbel _⟩
      · have e1 : decide (48 ≤ f k) = false := by simp; omega
        go_wp2_with fail
        go_quiet (fail)
        go_wp2_with fail
        go_ret
        exact ⟨k, rfl, hpk, hkn, HS, .inr (fun h => by have := h.1; omega), unhide HP, below_drewN hbel _⟩
    · have hd : decide ((k : Int) < (n : Int)) = false := by simp; omega
      go_wp2_with fail
      go_quiet (fail)
      go_wp2_with fail
      go_ret
      exact ⟨k, rfl, hpk, hkn, HS, .inl (by omega), unhide HP, below_drewN hbel _⟩

set_option maxRecDepth 100000 in
set_option maxHeartbeats 800000 in
theorem zzdig_past (a : Option Addr) (n c : Nat) (pos : Int) (w : World) (hn : n ≤ 1048576) (hp : (n : Int) ≤ pos) :
    Calls Try.prog 17 #[.slice a n c, .int .i64 pos] w fun e w' => e = .returned (.tuple #[.int .i64 0, .int .i64 pos]) ∧ Below w.heap.size w w' := by
  go_enter Try.func17, Try.ntmps17
  go_wp2_with fail
  refine (dig_past w.heap.size a n c pos _ hn hp (new_parser _ _ _ _ _)).mono ?_
  rintro e w1 ⟨rfl, k, rfl⟩
  go_wp2_with fail
  go_quiet (fail)
  go_wp2_with fail
  go_ret2
  exact ⟨rfl, below_drewN (below_drewN ((Below.refl _ _).alloc (Nat.le_refl _) _) _) _⟩

set_option maxRecDepth 100000 in
set_option maxHeartbeats 800000 in
theorem zzdig_any (b n c p : Nat) (f : Nat → Int) (w : World) (hn : n ≤ 1048576) (hp : p < n) (hr : w.rowIs b 5 n (fun i => .int .u8 (f i))) :
    Calls Try.prog 17 #[.slice (some ⟨b, 0, none⟩) n c, .int .i64 p] w fun e w' => ∃ q : Nat, e = .returned (.tuple #[.int .i64 ((q : Int) - p), .int .i64 q]) ∧ p ≤ q ∧ q ≤ n ∧ (∀ i, p ≤ i → i < q → isDg (f i)) ∧ (q = n ∨ ¬ isDg (f q)) ∧ Below w.heap.size w w' := by
  have hb := hr.lt
  go_enter Try.func17, Try.ntmps17
  go_wp2_with fail
  refine (dig_any w.heap.size b n c p w.heap.size f _ hn hp (new_parser _ _ _ _ _) (hr.alloc _) (Nat.le_refl _) hb).mono ?_
  rintro e w1 ⟨q, rfl, h1, h2, h3, h4, h5, h6⟩
  have c1 : w1.cell? ⟨w.heap.size, 1, none⟩ = some (.int .i64 q) := by simp [World.cell?, show w1.heap[w.heap.size]? = _ from h5]
  have H3 := hide h3
  have H4 := hide h4
  clear h3 h4 h5
  go_wp2_with fail
  go_quiet (fail)
  go_wp2_with fail
  go_ret2
  exact ⟨q, rfl, h1, h2, unhide H3, unhide H4, below_drewN (((Below.refl _ _).alloc (Nat.le_refl _) _).trans h6) _⟩

theorem bytesD_big (a : Option Addr) (len cap : Nat) (p : Int) (w : World) (h : 1048576 < len) :
    Calls Try.prog 16 #[.slice a len cap, .int .i64 p] w fun e w' => e = .returned (.bool false) ∧ w = w' := by
  go_enter Try.func16, Try.ntmps16
  go_wp2
  go_ret
  exact ⟨rfl, rfl⟩

theorem bytesD_ok (a : Option Addr) (len cap : Nat) (p : Int) (w : World) (h : len ≤ 1048576) :
    Calls Try.prog 16 #[.slice a len cap, .int .i64 p] w fun e w' => e = .returned (.bool true) ∧ w = w' := by
  go_enter Try.func16, Try.ntmps16
  go_wp2
  go_ret
  exact ⟨rfl, rfl⟩
end Go.Proofs.Qxb6600580a

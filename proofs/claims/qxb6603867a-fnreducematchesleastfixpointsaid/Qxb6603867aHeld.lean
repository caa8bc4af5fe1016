import Derived.Test.Qxb6603867aBase
import Derived.Test.Qxb6603867aModel
namespace Go.Proofs.Qxb6603867a
set_option linter.unusedVariables false
open Go.RowKit

theorem cc_hit (u : Nat → Int) (H : Nat → Bool) (t j z : Nat) (hH : H t = true) (hz : u t = (z : Int)) : (if j = z then (.int .i64 ((Pl.cc u H z t : Nat) + 1 : Int) : Value) else .int .i64 (Pl.cc u H j t : Nat)) = .int .i64 (Pl.cc u H j (t + 1) : Nat) := by
  by_cases e : j = z
  · subst e; rw [if_pos rfl, Pl.cc, if_pos ⟨hH, hz⟩]; rfl
  · rw [if_neg e, Pl.cc, if_neg (fun h => e (by have := h.2; omega))]; rfl

theorem cc_miss (u : Nat → Int) (H : Nat → Bool) (t j : Nat) (h : ¬ (H t = true ∧ 0 ≤ u t)) : (.int .i64 (Pl.cc u H j t : Nat) : Value) = .int .i64 (Pl.cc u H j (t + 1) : Nat) := by
  rw [Pl.cc, if_neg (fun h' => h ⟨h'.1, by omega⟩)]; rfl

set_option maxRecDepth 100000 in
set_option maxHeartbeats 1600000 in
theorem held_any (n m : Nat) (a5 : Option Addr) (c5 hb : Nat) (u : Nat → Int) (H : Nat → Bool) (w : World) (hm : m ≤ 1048576) (h : Own 21 w a5 m c5 (fun i => .int .i32 (u i))) (hu : I32 m u) (hd : Pl.Dom n m u)
    (hh : w.rowIs hb 4 m (fun x => .bool (H x))) :
    Calls Try.prog 26 #[.int .i64 m, .slice a5 m c5, .slice (some ⟨hb, 0, none⟩) m m] w fun e w' => e = .returned (.slice (some ⟨w.heap.size, 0, none⟩) m m) ∧ w'.rowIs w.heap.size 3 m (fun x => .int .i64 (Pl.cc u H x m : Nat)) ∧ Below w.heap.size w w' := by
  have hmk := run_make_row' (P := Try.prog) 31 3 (.int .i64 0) 8 Try.underlying31 info3 rfl .i64 .i64 m (by omega) (by omega)
  go_enter Try.func26, Try.ntmps26
  go_wp2_with fail
  go_loopw [8] (fun i wr => ∃ t : Nat, t ≤ m ∧ i = .int .i64 t ∧ wr.rowIs w.heap.size 3 m (fun x => .int .i64 (Pl.cc u H x t : Nat)) ∧ Below w.heap.size w wr)
    (fun i _ => m - (intOf i).toNat)
  case atStart => exact ⟨0, Nat.zero_le _, rfl, World.rowIs_made w (.int .i64 0) m 3, (Below.refl _ _).alloc (Nat.le_refl _) _⟩
  case round =>
    obtain ⟨t, ht, rfl, hrow, hbel⟩ := hrel
    by_cases hlt : t < m
    · obtain ⟨ub, rfl, hr⟩ := h.form (by omega)
      have hcu := (hbel.cell (p := ⟨ub, t, none⟩) hr.lt).trans (hr.cell hlt)
      have hch := (hbel.cell (p := ⟨hb, t, none⟩) hh.lt).trans (hh.cell hlt)
      obtain ⟨hu1, hu2⟩ := hu t hlt
      have hdt := hd t hlt
      clear h hu hd
      by_cases h1 : H t = true
      · rw [h1] at hch
        by_cases h2 : 0 ≤ u t
        · obtain ⟨z, hz⟩ : ∃ z : Nat, u t = (z : Int) := ⟨(u t).toNat, by omega⟩
          have hzm : z < m := by omega
          have HZ := hide hz
          have H1 := hide h1
          rw [hz] at hcu
          clear hz h2 h1 hdt hu1 hu2
          have hcc := hrow.cell hzm
          have hf := hrow.frozen z
          have hle := Pl.cc_le u H z t
          go_wp2_with fail
          go_roundw
          case rel => exact ⟨t + 1, by omega, by go_num, (hrow.set z _).congr (fun j hj => cc_hit u H t j z (unhide H1) (unhide HZ)), hbel.setCell (Nat.le_refl _) _⟩
          case measure => simp [intOf]; omega
        · go_wp2_with fail
          go_roundw
          case rel => exact ⟨t + 1, by omega, by go_num, hrow.congr (fun j hj => cc_miss u H t j (by omega)), hbel⟩
          case measure => simp [intOf]; omega
      · have h1' : H t = false := by simpa using h1
        rw [h1'] at hch
        go_wp2_with fail
        go_roundw
        case rel => exact ⟨t + 1, by omega, by go_num, hrow.congr (fun j hj => cc_miss u H t j (fun h => h1 h.1)), hbel⟩
        case measure => simp [intOf]; omega
    · obtain rfl : m = t := by omega
      go_wp2_with fail
      go_ret
      exact ⟨rfl, hrow, hbel⟩

/-- What the Snapshot's block holds. -/
def snapAt (w : World) (Sb : Nat) (s0 s1 s2 s3 s4 : Value) : Prop := w.heap[Sb]? = some (.cells #[s0, s1, s2, s3, s4] 61 (0, 0))

theorem len_any (Sb : Nat) (a : Option Addr) (n c : Nat) (s0 s2 s3 s4 : Value) (w : World) (h : snapAt w Sb s0 (.slice a n c) s2 s3 s4) :
    Calls Try.prog 31 #[.pointer (some ⟨Sb, 0, none⟩)] w fun e w' => e = .returned (.int .i64 n) ∧ w = w' := by
  have c1 : w.cell? ⟨Sb, 1, none⟩ = some (.slice a n c) := by simp [World.cell?, show w.heap[Sb]? = _ from h]
  go_enter Try.func31, Try.ntmps31
  go_wp2_with fail
  go_ret
  exact ⟨rfl, rfl⟩

set_option maxRecDepth 100000 in
set_option maxHeartbeats 800000 in
theorem active_any (Sb : Nat) (sb n3 c3 p : Nat) (st : Nat → Int) (s0 s1 s2 s4 : Value) (w : World) (hn : n3 ≤ 1048576) (hp : p + 1 < n3) (h : snapAt w Sb s0 s1 s2 (.slice (some ⟨sb, 0, none⟩) n3 c3) s4) (hr : w.rowIs sb 21 n3 (fun i => .int .i32 (st i))) :
    Calls Try.prog 33 #[.pointer (some ⟨Sb, 0, none⟩), .int .i64 p] w fun e w' => e = .returned (.bool (decide (st p = st (p + 1)))) ∧ ∃ k, w' = w.drewN k := by
  have c3 : w.cell? ⟨Sb, 3, none⟩ = some (.slice (some ⟨sb, 0, none⟩) n3 c3) := by simp [World.cell?, show w.heap[Sb]? = _ from h]
  have e1 := hr.cell (i := p) (by omega)
  have e2 := hr.cell (i := p + 1) (by omega)
  have g0 : (0 : Int) ≤ (p : Int) := by omega
  have g1 : (p : Int) < (n3 : Int) := by omega
  have g2 : (p : Int) + 1 < (n3 : Int) := by omega
  have g3 : (0 : Int) ≤ (p : Int) + 1 := by omega
  go_enter Try.func33, Try.ntmps33
  go_wp2_with fail
  go_quiet (fail)
  go_wp2_with fail
  go_ret
  exact ⟨rfl, _, rfl⟩
end Go.Proofs.Qxb6603867a

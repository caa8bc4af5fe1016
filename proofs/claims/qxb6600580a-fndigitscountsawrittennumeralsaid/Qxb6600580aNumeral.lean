import Derived.Test.Qxb6600580aDigits
namespace Go.Proofs.Qxb6600580a
set_option linter.unusedVariables false
open Go.RowKit

/-- The text that is written: the head, the digits, the tail. -/
def txt (l0 l1 : Nat) (f0 f1 f2 : Nat → Int) (j : Nat) : Int := if j < l0 then f0 j else if j < l0 + l1 then 48 + f1 (j - l0) % 10 else f2 (j - l0 - l1)

theorem txt_step (k : Nat) (v : Int) (g : Nat → Int) (h : g k = v) (j : Nat) : (if j = k then (.int .u8 v : Value) else .int .u8 (if j < k then g j else 0)) = .int .u8 (if j < k + 1 then g j else 0) := by
  by_cases e : j = k
  · subst e; rw [if_pos rfl, if_pos (by omega), h]
  · rw [if_neg e]
    by_cases h2 : j < k
    · rw [if_pos h2, if_pos (by omega)]
    · rw [if_neg h2, if_neg (by omega)]

theorem bytesN_big (a0 a1 a2 : Option Addr) (l0 c0 l1 c1 l2 c2 : Nat) (w : World) (h : 1048576 < l0 + l1 + l2) :
    Calls Try.prog 19 #[.slice a0 l0 c0, .slice a1 l1 c1, .slice a2 l2 c2] w fun e w' => e = .returned (.bool false) ∧ w = w' := by
  by_cases h1 : 1048576 < l0
  · go_enter Try.func19, Try.ntmps19
    go_wp2
    go_ret
    exact ⟨rfl, rfl⟩
  by_cases h2 : 1048576 < l1
  · go_enter Try.func19, Try.ntmps19
    go_wp2
    go_ret
    exact ⟨rfl, rfl⟩
  by_cases h3 : 1048576 < l0 + l1
  · go_enter Try.func19, Try.ntmps19
    go_wp2
    go_ret
    exact ⟨rfl, rfl⟩
  by_cases h4 : 1048576 < l2
  · go_enter Try.func19, Try.ntmps19
    go_wp2
    go_ret
    exact ⟨rfl, rfl⟩
  · go_enter Try.func19, Try.ntmps19
    go_wp2
    go_ret
    exact ⟨rfl, rfl⟩

theorem bytesN_ok (a0 a1 a2 : Option Addr) (l0 c0 l1 c1 l2 c2 : Nat) (w : World) (h : l0 + l1 + l2 ≤ 1048576) :
    Calls Try.prog 19 #[.slice a0 l0 c0, .slice a1 l1 c1, .slice a2 l2 c2] w fun e w' => e = .returned (.bool true) ∧ w = w' := by
  go_enter Try.func19, Try.ntmps19
  go_wp2
  go_ret
  exact ⟨rfl, rfl⟩

theorem numeral_end {l0 l1 l2 q : Nat} {f0 f1 f2 : Nat → Int} (hb : ∀ i, i < l1 → 0 ≤ f1 i ∧ f1 i ≤ 255) (hnd : l2 = 0 ∨ ¬ isDg (f2 0)) (h1 : l0 ≤ q) (h2 : q ≤ l0 + l1 + l2)
    (h3 : ∀ i, l0 ≤ i → i < q → isDg (txt l0 l1 f0 f1 f2 i)) (h4 : q = l0 + l1 + l2 ∨ ¬ isDg (txt l0 l1 f0 f1 f2 q)) : q = l0 + l1 := by
  rcases Nat.lt_trichotomy q (l0 + l1) with h | h | h
  · rcases h4 with e | e
    · omega
    · refine absurd ?_ e
      unfold txt isDg
      rw [if_neg (by omega), if_pos h]
      have := hb (q - l0) (by omega)
      omega
  · exact h
  · have := h3 (l0 + l1) (by omega) h
    unfold txt at this
    rw [if_neg (by omega), if_neg (by omega), show l0 + l1 - l0 - l1 = 0 by omega] at this
    rcases hnd with e | e
    · omega
    · exact absurd this e

theorem Read.below {w w' : World} {a : Option Addr} {n c : Nat} {f : Nat → Int} (h : Read w a n c f) (hb : Below w.heap.size w w') : Read w' a n c f := by
  rcases h with h | ⟨x, rfl, h⟩
  · exact .inl h
  · exact .inr ⟨x, rfl, fun i hi => (hb.cell (World.block_lt_of_cell? w _ (h i hi))).trans (h i hi)⟩

set_option maxRecDepth 100000 in
set_option maxHeartbeats 3200000 in
theorem numeral_main (a0 a1 a2 : Option Addr) (l0 c0 l1 c1 l2 c2 : Nat) (f0 f1 f2 : Nat → Int) (w : World) (hl : l0 + l1 + l2 ≤ 1048576)
    (h0 : Read w a0 l0 c0 f0) (h1 : Read w a1 l1 c1 f1) (h2 : Read w a2 l2 c2 f2) (hb1 : ∀ i, i < l1 → 0 ≤ f1 i ∧ f1 i ≤ 255)
    (ht : l2 = 0 ∨ (∃ b o, a2 = some ⟨b, o, none⟩ ∧ w.cell? ⟨b, o, none⟩ = some (.int .u8 (f2 0))) ∧ ¬ isDg (f2 0)) :
    Calls Try.prog 7 #[.slice a0 l0 c0, .slice a1 l1 c1, .slice a2 l2 c2] w fun e w' => e = .returned (.bool true) ∧ Below w.heap.size w w' := by
  have hmk := run_make_row' (P := Try.prog) 22 5 (.int .u8 0) 1 Try.underlying22 Try.info5 rfl .i64 .i64 (l0 + l1 + l2) (by omega) (by omega)
  rw [show ((l0 + l1 + l2 : Nat) : Int) = (l0 : Int) + l1 + l2 by omega] at hmk
  have HB1 := hide hb1
  have HT := hide ht
  clear hb1 ht
  go_enter Try.func7, Try.ntmps7
  go_wp2_with fail
  refine (bytesN_ok _ _ _ _ _ _ _ _ _ _ hl).mono ?_
  rintro e w' ⟨rfl, rfl⟩
  go_upto_region 7 with fail
  go_cut [49] (fun v wx => v = .bool false ∧ wx = w)
  case first =>
    rcases unhide HT with h | ⟨⟨b, o, rfl, hc⟩, hnd⟩
    · subst h
      go_wp2_with fail
      go_meet
      case rel => exact ⟨rfl, rfl⟩
    · by_cases hz : l2 = 0
      · subst hz
        go_wp2_with fail
        go_meet
        case rel => exact ⟨rfl, rfl⟩
      · have hz1 : 0 < l2 := by omega
        have hz2 : (0 : Int) < (l2 : Int) := by omega
        have HND := hide hnd
        clear hnd
        go_wp2_with fail
        refine (digit_no _ _ (unhide HND)).mono ?_
        rintro e w' ⟨rfl, rfl⟩
        go_wp2_with fail
        go_meet
        case rel => exact ⟨rfl, rfl⟩
  case rest =>
    obtain ⟨rfl, hw⟩ := hcut
    subst hw
    have HND : Hid (l2 = 0 ∨ ¬ isDg (f2 0)) := Or.elim (unhide HT) (fun h => Or.inl h) (fun h => Or.inr h.2)
    clear HT
    go_wp2_with fail
    refine (clone_any a0 l0 c0 f0 _ (by omega) h0).mono ?_
    rintro e w1 ⟨a3, c3, rfl, hB0, hbel1⟩
    have h1' : Read w1 a1 l1 c1 f1 := Read.below h1 hbel1
    have h2' : Read w1 a2 l2 c2 f2 := Read.below h2 hbel1
    clear h0 h1 h2
    go_wp2_with fail
    refine (clone_any a1 l1 c1 f1 _ (by omega) h1').mono ?_
    rintro e w2 ⟨a4, c4, rfl, hB1, hbel2⟩
    have h2'' : Read w2 a2 l2 c2 f2 := Read.below h2' hbel2
    have hB0' := hB0.below hbel2
    have hbel3 := hbel1.trans (hbel2.mono hbel1.size)
    clear h1' h2' hB0 hbel1 hbel2
    go_wp2_with fail
    refine (clone_any a2 l2 c2 f2 _ (by omega) h2'').mono ?_
    rintro e w3 ⟨a5, c5, rfl, hB2, hbel2⟩
    have hC0 := hB0'.below hbel2
    have hC1 := hB1.below hbel2
    have hbel := hbel3.trans (hbel2.mono hbel3.size)
    clear h2'' hB0' hB1 hbel3 hbel2
    go_upto_region 13 with fail
    go_cut [8] (fun v wx => v = .int .i64 0 ∧ wx = w3.alloc (.cells (madeCells #[.int .u8 0] (l0 + l1 + l2)) 5))
    case first =>
      go_wp2_with fail
      go_meet
      case rel => exact ⟨rfl, rfl⟩
    case rest =>
    obtain ⟨rfl, rfl⟩ := hcut
    go_wp2_with fail
    go_loopw [8, 9] (fun k i wr => ∃ t : Nat, t ≤ l0 ∧ k = .int .i64 t ∧ i = .int .i64 t ∧ wr.rowIs w3.heap.size 5 (l0 + l1 + l2) (fun j => .int .u8 (if j < t then txt l0 l1 f0 f1 f2 j else 0)) ∧ Below w3.heap.size w3 wr)
      (fun _ i _ => l0 - (intOf i).toNat)
    case atStart => exact ⟨0, Nat.zero_le _, rfl, rfl, by simpa using World.rowIs_made w3 (.int .u8 0) (l0 + l1 + l2) 5, (Below.refl _ _).alloc (Nat.le_refl _) _⟩
    case round =>
      obtain ⟨t, ht, rfl, rfl, hrow, hbr⟩ := hrel
      by_cases hlt : t < l0
      · obtain ⟨b, rfl, hrb⟩ := hC0.form (by omega)
        have q1 := (hbr.cell (p := ⟨b, t, none⟩) hrb.lt).trans (hrb.cell hlt)
        have q2 := hrow.cell (i := t) (by omega)
        have q3 := hrow.frozen t
        go_wp2_with fail
        go_roundw
        case rel => exact ⟨t + 1, by omega, by go_num, by go_num, (hrow.set t _).congr (fun j hj => txt_step t _ _ (by unfold txt; rw [if_pos hlt]) j), hbr.setCell (Nat.le_refl _) _⟩
        case measure => simp [intOf]; omega
      · obtain rfl : l0 = t := by omega
        go_wp2_with fail
        go_loopw [8, 10] (fun k i wr => ∃ t : Nat, t ≤ l1 ∧ k = .int .i64 ((l0 : Int) + t) ∧ i = .int .i64 t ∧ wr.rowIs w3.heap.size 5 (l0 + l1 + l2) (fun j => .int .u8 (if j < l0 + t then txt l0 l1 f0 f1 f2 j else 0)) ∧ Below w3.heap.size w3 wr)
          (fun _ i _ => l1 - (intOf i).toNat)
        case atStart => exact ⟨0, Nat.zero_le _, by go_num, rfl, hrow, hbr⟩
        case round =>
          clear hrow hbr
          obtain ⟨t, ht, rfl, rfl, hrow, hbr⟩ := hrel
          by_cases hlt : t < l1
          · obtain ⟨b, rfl, hrb⟩ := hC1.form (by omega)
            have hbb := unhide HB1 t hlt
            have q1 := (hbr.cell (p := ⟨b, t, none⟩) hrb.lt).trans (hrb.cell hlt)
            have q2 := hrow.cell (i := l0 + t) (by omega)
            have q3 := hrow.frozen (l0 + t)
            obtain ⟨x, hx⟩ : ∃ x, x = f1 t := ⟨_, rfl⟩
            rw [← hx] at q1 hbb
            have HX := hide hx
            clear hx
            go_wp2_with fail
            go_roundw
            case rel => exact ⟨t + 1, by omega, by go_num, by go_num, (hrow.set (l0 + t) _).congr (fun j hj => txt_step (l0 + t) _ _ (by unfold txt; rw [if_neg (by omega), if_pos (by omega), Nat.add_sub_cancel_left, ← unhide HX]) j), hbr.setCell (Nat.le_refl _) _⟩
            case measure => simp [intOf]; omega
          · obtain rfl : l1 = t := by omega
            go_wp2_with fail
            go_loopw [8, 11] (fun k i wr => ∃ t : Nat, t ≤ l2 ∧ k = .int .i64 ((l0 : Int) + l1 + t) ∧ i = .int .i64 t ∧ wr.rowIs w3.heap.size 5 (l0 + l1 + l2) (fun j => .int .u8 (if j < l0 + l1 + t then txt l0 l1 f0 f1 f2 j else 0)) ∧ Below w3.heap.size w3 wr)
              (fun _ i _ => l2 - (intOf i).toNat)
            case atStart => exact ⟨0, Nat.zero_le _, by go_num, rfl, hrow, hbr⟩
            case round =>
              clear hrow hbr
              obtain ⟨t, ht, rfl, rfl, hrow, hbr⟩ := hrel
              by_cases hlt : t < l2
              · obtain ⟨b, rfl, hrb⟩ := hB2.form (by omega)
                have q1 := (hbr.cell (p := ⟨b, t, none⟩) hrb.lt).trans (hrb.cell hlt)
                have q2 := hrow.cell (i := l0 + l1 + t) (by omega)
                have q3 := hrow.frozen (l0 + l1 + t)
                go_wp2_with fail
                go_roundw
                case rel => exact ⟨t + 1, by omega, by go_num, by go_num, (hrow.set (l0 + l1 + t) _).congr (fun j hj => txt_step (l0 + l1 + t) _ _ (by unfold txt; rw [if_neg (by omega), if_neg (by omega), show l0 + l1 + t - l0 - l1 = t by omega]) j), hbr.setCell (Nat.le_refl _) _⟩
                case measure => simp [intOf]; omega
              · obtain rfl : l2 = t := by omega
                have hrow2 := hrow.congr (g := fun j => .int .u8 (txt l0 l1 f0 f1 f2 j)) (fun j hj => by rw [if_pos hj])
                clear hrow
                by_cases hin : l0 < l0 + l1 + l2
                · go_wp2_with fail
                  refine (zzdig_any w3.heap.size (l0 + l1 + l2) (l0 + l1 + l2) l0 (txt l0 l1 f0 f1 f2) _ hl hin hrow2).mono ?_
                  rintro e w9 ⟨q, rfl, g1, g2, g3, g4, hb9⟩
                  have hq : q = l0 + l1 := numeral_end (unhide HB1) (unhide HND) g1 g2 g3 g4
                  clear g3 g4
                  subst hq
                  go_wp2_with fail
                  go_ret
                  exact ⟨by simp, (hbel.trans (hbr.mono hbel.size)).trans (hb9.mono (by have := hbel.size; have := hbr.size; omega))⟩
                · obtain rfl : l1 = 0 := by omega
                  obtain rfl : l2 = 0 := by omega
                  go_wp2_with fail
                  refine (zzdig_past _ _ _ _ _ (by omega) (by omega)).mono ?_
                  rintro e w9 ⟨rfl, hb9⟩
                  go_wp2_with fail
                  go_ret
                  exact ⟨by simp, (hbel.trans (hbr.mono hbel.size)).trans (hb9.mono (by have := hbel.size; have := hbr.size; omega))⟩
end Go.Proofs.Qxb6600580a

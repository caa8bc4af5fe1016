import Derived.Test.Qxb6600486aBase
import Derived.Test.Qxb6600486aPlain
import Derived.BigRegion
namespace Go.Proofs.Qxb6600486a
set_option linter.unusedVariables false
open Go.RowKit Csr

/-- 'first' after t rounds of the first loop. -/
def f1 (src : Nat → Nat) (t j : Nat) : Nat := if j = 0 then 0 else cnt src (j - 1) t
theorem f1_zero (src : Nat → Nat) (j : Nat) : f1 src 0 j = 0 := by unfold f1; split <;> rfl
theorem f1_le (src : Nat → Nat) (t j : Nat) : f1 src t j ≤ t := by unfold f1; split; · omega
                                                                   · exact cnt_le _ _ _
theorem f1_step (src : Nat → Nat) (t j : Nat) : (if j = src t + 1 then (.int .i64 ((f1 src t (src t + 1) : Nat) + 1 : Int) : Value) else .int .i64 (f1 src t j : Nat)) = .int .i64 (f1 src (t + 1) j : Nat) := by
  unfold f1
  by_cases h : j = src t + 1
  · subst h; simp [cnt]
  · rw [if_neg h]
    by_cases h0 : j = 0
    · simp [h0]
    · rw [if_neg h0, if_neg h0, cnt, if_neg (by omega)]; simp

/-- 'first' after v rounds of the second loop. -/
def f2 (src : Nat → Nat) (M v j : Nat) : Nat := if j ≤ v then fs src j M else f1 src M j
theorem f2_zero (src : Nat → Nat) (M j : Nat) : f2 src M 0 j = f1 src M j := by
  unfold f2
  by_cases h : j = 0
  · subst h; rw [if_pos (Nat.le_refl _), fs_zero]; rfl
  · rw [if_neg (by omega)]
theorem f2_le (src : Nat → Nat) (M v j : Nat) : f2 src M v j ≤ M := by
  unfold f2; split
  · exact fs_le _ _ _
  · exact f1_le _ _ _
theorem f2_step (src : Nat → Nat) (M v j : Nat) : (if j = v + 1 then (.int .i64 ((f2 src M v (v + 1) : Nat) + (f2 src M v v : Nat) : Int) : Value) else .int .i64 (f2 src M v j : Nat)) = .int .i64 (f2 src M (v + 1) j : Nat) := by
  by_cases h : j = v + 1
  · subst h
    rw [if_pos rfl]
    congr 1
    unfold f2
    rw [if_neg (by omega), if_pos (Nat.le_refl _), if_pos (Nat.le_refl _), fs_succ]
    unfold f1
    simp; omega
  · rw [if_neg h]
    congr 2
    unfold f2
    by_cases h2 : j ≤ v
    · rw [if_pos h2, if_pos (by omega)]
    · rw [if_neg h2, if_neg (by omega)]

theorem pos_step (src : Nat → Nat) (M v j : Nat) : (if j = v then (.int .i64 (fs src v M : Nat) : Value) else .int .i64 (if j < v then fs src j M else 0 : Nat)) = .int .i64 (if j < v + 1 then fs src j M else 0 : Nat) := by
  by_cases h : j = v
  · subst h; rw [if_pos rfl, if_pos (by omega)]
  · rw [if_neg h]
    by_cases h2 : j < v
    · rw [if_pos h2, if_pos (by omega)]
    · rw [if_neg h2, if_neg (by omega)]

theorem cnt_step (src : Nat → Nat) (M t j : Nat) : (if j = src t then (.int .i64 ((place src M t : Nat) + 1 : Int) : Value) else .int .i64 (fs src j M + cnt src j t : Nat)) = .int .i64 (fs src j M + cnt src j (t + 1) : Nat) := by
  by_cases h : j = src t
  · subst h; rw [if_pos rfl, cnt, if_pos rfl]; congr 1
  · rw [if_neg h, cnt, if_neg (Ne.symm h)]; rfl

theorem succ_step (src : Nat → Nat) (dst s : Nat → Int) (M t j : Nat) : (if j = place src M t then (.int .i64 (dst t) : Value) else .int .i64 (s j)) = .int .i64 (if j = place src M t then dst t else s j) := by
  split <;> rfl

set_option maxRecDepth 100000 in
set_option maxHeartbeats 1600000 in
theorem csr_any (n M eb ec : Nat) (src : Nat → Nat) (dst : Nat → Int) (w : World) (hn : n ≤ 65536) (hM : M ≤ 100000) (hsrc : ∀ t, t < M → src t < n)
    (he0 : ∀ t, t < M → w.cell? ⟨eb, 2 * t, none⟩ = some (.int .i64 (src t))) (he1 : ∀ t, t < M → w.cell? ⟨eb, 2 * t + 1, none⟩ = some (.int .i64 (dst t))) (hlt : eb < w.heap.size) :
    Calls Try.prog 10 #[.int .i64 n, .slice (some ⟨eb, 0, none⟩) (2 * M) ec, .bool false] w fun e w' => ∃ fb sb s, e = .returned (.tuple #[.slice (some ⟨fb, 0, none⟩) (n + 1) (n + 1), .slice (some ⟨sb, 0, none⟩) M M]) ∧
      w'.rowIs fb 3 (n + 1) (fun v => .int .i64 (fs src v M)) ∧ w'.rowIs sb 3 M (fun e => .int .i64 (s e)) ∧ Laid src dst M M s ∧ Below w.heap.size w w' ∧ w'.heap.size = w.heap.size + 3 := by
  have hmk1 := run_make_row' (P := Try.prog) 22 3 (.int .i64 0) 8 Try.underlying22 Try.info3 rfl .i64 .i64 (n + 1) (by omega) (by omega)
  rw [show ((n + 1 : Nat) : Int) = (n : Int) + 1 by omega] at hmk1
  have hmk2 := run_make_row' (P := Try.prog) 22 3 (.int .i64 0) 8 Try.underlying22 Try.info3 rfl .i64 .i64 n (by omega) (by omega)
  have hmk3 := run_make_row' (P := Try.prog) 22 3 (.int .i64 0) 8 Try.underlying22 Try.info3 rfl .i64 .i64 M (by omega) (by omega)
  go_enter Try.func10, Try.ntmps10
  go_wp2
  go_loopw [10] (fun i wr => ∃ t : Nat, t ≤ M ∧ i = .int .i64 t ∧ wr.rowIs w.heap.size 3 (n + 1) (fun j => .int .i64 (f1 src t j)) ∧ Below w.heap.size w wr ∧ wr.heap.size = w.heap.size + 1)
    (fun i _ => M - (intOf i).toNat)
  case atStart =>
    exact ⟨0, Nat.zero_le _, rfl, (World.rowIs_made w (.int .i64 0) (n + 1) 3).congr (fun j _ => by rw [f1_zero]; rfl), (Below.refl _ _).alloc (Nat.le_refl _) _, by simp⟩
  case round =>
    obtain ⟨t, ht, rfl, hrow, hbel, hsz⟩ := hrel
    by_cases hlt1 : t < M
    · have hu := hsrc t hlt1
      have hcx : wr.cell? ⟨eb, 2 * t, none⟩ = some (.int .i64 (src t)) := (hbel.cell hlt).trans (he0 t hlt1)
      have hcy : wr.cell? ⟨w.heap.size, src t + 1, none⟩ = some (.int .i64 (f1 src t (src t + 1))) := hrow.cell (by omega)
      have hfy : wr.frozen? ⟨w.heap.size, src t + 1, none⟩ = false := hrow.frozen _
      have hb1 := f1_le src t (src t + 1)
      go_wp2
      go_roundw
      case rel =>
        exact ⟨t + 1, by omega, by go_num, (hrow.set (src t + 1) _).congr (fun j hj => f1_step src t j), hbel.setCell (Nat.le_refl _) _, by simp [hsz]⟩
      case measure => simp [intOf]; omega
    · obtain rfl : M = t := by omega
      go_wp2
      go_loopw [12] (fun i wr => ∃ v : Nat, v ≤ n ∧ i = .int .i64 v ∧ wr.rowIs w.heap.size 3 (n + 1) (fun j => .int .i64 (f2 src M v j)) ∧ Below w.heap.size w wr ∧ wr.heap.size = w.heap.size + 1)
        (fun i _ => n - (intOf i).toNat)
      case atStart => exact ⟨0, Nat.zero_le _, rfl, hrow.congr (fun j _ => by rw [f2_zero]), hbel, hsz⟩
      case round =>
        clear hrow hbel hsz
        obtain ⟨v, hv, rfl, hrow, hbel, hsz⟩ := hrel
        by_cases hlt1 : v < n
        · have hc1 : wr.cell? ⟨w.heap.size, v + 1, none⟩ = some (.int .i64 (f2 src M v (v + 1))) := hrow.cell (by omega)
          have hc0 : wr.cell? ⟨w.heap.size, v, none⟩ = some (.int .i64 (f2 src M v v)) := hrow.cell (by omega)
          have hfy : wr.frozen? ⟨w.heap.size, v + 1, none⟩ = false := hrow.frozen _
          have hb0 := f2_le src M v v
          have hb1 := f2_le src M v (v + 1)
          have g0 : (0 : Int) ≤ (v : Int) := by omega
          have g1 : (v : Int) < (n : Int) + 1 := by omega
          have g2 : (v : Int) + 1 < (n : Int) + 1 := by omega
          go_wp2
          go_region
          all_goals
            go_wp2
            go_roundw
            case rel =>
              exact ⟨v + 1, by omega, by go_num, (hrow.set (v + 1) _).congr (fun j hj => f2_step src M v j), (hbel.setCell (Nat.le_refl _) _).drew, by simp [hsz]⟩
            case measure => simp [intOf]; omega
        · obtain rfl : n = v := by omega
          go_wp2
          have hrow1 := (hrow.congr (g := fun j => .int .i64 (fs src j M)) (fun j hj => by unfold f2; rw [if_pos (by omega)])).alloc (.cells (madeCells #[.int .i64 0] n) 3)
          have hpos1 := World.rowIs_made wr (.int .i64 0) n 3
          have hbel1 := hbel.alloc (show w.heap.size ≤ wr.heap.size by omega) (.cells (madeCells #[.int .i64 0] n) 3)
          have hsz1 : (wr.alloc (.cells (madeCells #[.int .i64 0] n) 3)).heap.size = w.heap.size + 2 := by simp [hsz]
          rw [hsz] at hpos1
          clear hrow hbel hsz
          go_loopw [14] (fun i wr => ∃ v : Nat, v ≤ n ∧ i = .int .i64 v ∧ wr.rowIs w.heap.size 3 (n + 1) (fun j => .int .i64 (fs src j M)) ∧ wr.rowIs (w.heap.size + 1) 3 n (fun j => .int .i64 (if j < v then fs src j M else 0 : Nat)) ∧ Below w.heap.size w wr ∧ wr.heap.size = w.heap.size + 2)
            (fun i _ => n - (intOf i).toNat)
          case atStart => exact ⟨0, Nat.zero_le _, rfl, hrow1, hpos1.congr (fun j _ => by simp), hbel1, hsz1⟩
          case round =>
            clear hrow1 hpos1 hbel1 hsz1
            obtain ⟨v, hv, rfl, hrow, hpos, hbel, hsz⟩ := hrel
            by_cases hlt1 : v < n
            · have hc0 : wr.cell? ⟨w.heap.size, v, none⟩ = some (.int .i64 (fs src v M)) := hrow.cell (by omega)
              have hc1 : wr.cell? ⟨w.heap.size + 1, v, none⟩ = some (.int .i64 (if v < v then fs src v M else 0 : Nat)) := hpos.cell hlt1
              have hfy : wr.frozen? ⟨w.heap.size + 1, v, none⟩ = false := hpos.frozen _
              go_wp2
              go_roundw
              case rel =>
                exact ⟨v + 1, by omega, by go_num, hrow.setOther (by simp) _, (hpos.set v _).congr (fun j hj => pos_step src M v j), hbel.setCell (by simp) _, by simp [hsz]⟩
              case measure => simp [intOf]; omega
            · obtain rfl : n = v := by omega
              go_wp2
              have hrow1 := hrow.alloc (.cells (madeCells #[.int .i64 0] M) 3)
              have hpos1 := hpos.alloc (.cells (madeCells #[.int .i64 0] M) 3)
              have hsu1 := World.rowIs_made wr (.int .i64 0) M 3
              have hbel1 := hbel.alloc (show w.heap.size ≤ wr.heap.size by omega) (.cells (madeCells #[.int .i64 0] M) 3)
              have hsz1 : (wr.alloc (.cells (madeCells #[.int .i64 0] M) 3)).heap.size = w.heap.size + 3 := by simp [hsz]
              rw [hsz] at hsu1
              clear hrow hpos hbel hsz
              go_loopw [16] (fun i wr => ∃ (t : Nat) (s : Nat → Int), t ≤ M ∧ i = .int .i64 t ∧ wr.rowIs w.heap.size 3 (n + 1) (fun j => .int .i64 (fs src j M)) ∧ wr.rowIs (w.heap.size + 1) 3 n (fun j => .int .i64 (fs src j M + cnt src j t : Nat)) ∧ wr.rowIs (w.heap.size + 2) 3 M (fun j => .int .i64 (s j)) ∧ Laid src dst M t s ∧ Below w.heap.size w wr ∧ wr.heap.size = w.heap.size + 3)
                (fun i _ => M - (intOf i).toNat)
              case atStart => exact ⟨0, fun _ => 0, Nat.zero_le _, rfl, hrow1, hpos1.congr (fun j hj => by rw [if_pos hj]; rfl), hsu1, Laid.zero _ _ _ _, hbel1, hsz1⟩
              case round =>
                clear hrow1 hpos1 hsu1 hbel1 hsz1
                obtain ⟨t, s, ht, rfl, hrow, hpos, hsu, hlaid, hbel, hsz⟩ := hrel
                by_cases hlt1 : t < M
                · have hu := hsrc t hlt1
                  have hp := place_lt_M src M t hlt1
                  have hcx : wr.cell? ⟨eb, 2 * t, none⟩ = some (.int .i64 (src t)) := (hbel.cell hlt).trans (he0 t hlt1)
                  have hcy : wr.cell? ⟨eb, 2 * t + 1, none⟩ = some (.int .i64 (dst t)) := (hbel.cell hlt).trans (he1 t hlt1)
                  have hc1 : wr.cell? ⟨w.heap.size + 1, src t, none⟩ = some (.int .i64 (place src M t)) := hpos.cell hu
                  have hc2 : wr.cell? ⟨w.heap.size + 2, place src M t, none⟩ = some (.int .i64 (s (place src M t))) := hsu.cell hp
                  have hf1 : wr.frozen? ⟨w.heap.size + 1, src t, none⟩ = false := hpos.frozen _
                  have hf2 : wr.frozen? ⟨w.heap.size + 2, place src M t, none⟩ = false := hsu.frozen _
                  go_wp2
                  go_roundw
                  case rel =>
                    exact ⟨t + 1, _, by omega, by go_num, (hrow.setOther (by simp) _).setOther (by simp) _, ((hpos.setOther (by simp) _).set (src t) _).congr (fun j hj => cnt_step src M t j),
                      ((hsu.set (place src M t) _).setOther (by simp) _).congr (fun j hj => succ_step src dst s M t j), hlaid.step hlt1, (hbel.setCell (by simp) _).setCell (by simp) _, by simp [hsz]⟩
                  case measure => simp [intOf]; omega
                · obtain rfl : M = t := by omega
                  go_wp2
                  go_ret2
                  exact ⟨_, _, s, rfl, hrow, hsu, hlaid, hbel, hsz⟩
end Go.Proofs.Qxb6600486a

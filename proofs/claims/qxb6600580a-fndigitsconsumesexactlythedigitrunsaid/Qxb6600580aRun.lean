import Derived.Test.Qxb6600580aDigits
namespace Go.Proofs.Qxb6600580a
set_option linter.unusedVariables false
open Go.RowKit

set_option maxRecDepth 100000 in
set_option maxHeartbeats 800000 in
theorem run_past (a : Option Addr) (n c : Nat) (f : Nat → Int) (pos : Int) (w : World) (hn : n ≤ 1048576) (hp : (n : Int) ≤ pos) (h : Read w a n c f) :
    Calls Try.prog 6 #[.slice a n c, .int .i64 pos] w fun e w' => e = .returned (.bool true) ∧ Below w.heap.size w w' := by
  have hp0 : 0 ≤ pos := by omega
  go_enter Try.func6, Try.ntmps6
  go_wp2_with fail
  refine (bytesD_ok _ _ _ _ _ hn).mono ?_
  rintro e w' ⟨rfl, rfl⟩
  go_wp2_with fail
  refine (clone_any a n c f _ hn h).mono ?_
  rintro e w1 ⟨a1, c1, rfl, hb1, hbel1⟩
  go_wp2_with fail
  refine (zzdig_past _ _ _ _ _ hn hp).mono ?_
  rintro e w2 ⟨rfl, hbel2⟩
  go_wp2_with fail
  go_ret
  exact ⟨by simp, hbel1.trans (hbel2.mono hbel1.size)⟩

set_option maxRecDepth 100000 in
set_option maxHeartbeats 1600000 in
theorem run_in (a : Option Addr) (n c p : Nat) (f : Nat → Int) (w : World) (hn : n ≤ 1048576) (hp : p < n) (h : Read w a n c f) :
    Calls Try.prog 6 #[.slice a n c, .int .i64 p] w fun e w' => e = .returned (.bool true) ∧ Below w.heap.size w w' := by
  go_enter Try.func6, Try.ntmps6
  go_wp2_with fail
  refine (bytesD_ok _ _ _ _ _ hn).mono ?_
  rintro e w' ⟨rfl, rfl⟩
  go_wp2_with fail
  refine (clone_any a n c f _ hn h).mono ?_
  rintro e w1 ⟨a1, c1, rfl, hb1, hbel1⟩
  obtain ⟨b, rfl, hr⟩ := hb1.form (by omega)
  clear hb1
  go_wp2_with fail
  refine (zzdig_any b n c1 p f _ hn hp hr).mono ?_
  rintro e w2 ⟨q, rfl, h1, h2, h3, h4, hbel2⟩
  have H3 := hide h3
  have H4 := hide h4
  have hr2 := hr.of_block (hbel2.block b hr.lt)
  have hbel3 := hbel1.trans (hbel2.mono hbel1.size)
  clear h3 h4 hr hbel1 hbel2
  go_upto_region 13 with fail
  go_cut [7] (fun i wx => i = .int .i64 p ∧ wx = w2)
  case first =>
    go_wp2_with fail
    go_meet
    case rel => exact ⟨rfl, rfl⟩
  case rest =>
  obtain ⟨rfl, hw⟩ := hcut
  subst hw
  go_wp2_with fail
  go_loop [7] (fun i => ∃ t : Nat, p ≤ t ∧ t ≤ q ∧ i = .int .i64 t) (fun i => q - (intOf i).toNat)
  case atStart => exact ⟨p, Nat.le_refl _, h1, rfl⟩
  case round =>
    obtain ⟨t, ht1, ht2, rfl⟩ := hrel
    by_cases hlt : t < q
    · have hc := hr2.cell (i := t) (by omega)
      go_wp2_with fail
      refine (digit_yes _ _ (unhide H3 t ht1 hlt)).mono ?_
      rintro e w' ⟨rfl, rfl⟩
      go_wp2_with fail
      go_round
      case rel => exact ⟨t + 1, by omega, by omega, by go_num⟩
      case measure => simp [intOf]; omega
    · obtain rfl : q = t := by omega
      by_cases hqn : q < n
      · have hc := hr2.cell (i := q) hqn
        have hns : ¬ isDg (f q) := by
          rcases unhide H4 with h | h
          · omega
          · exact h
        have HNS := hide hns
        clear hns H4 H3
        have hqb : ((q : Int) == (n : Int)) = false := by rw [beq_eq_false_iff_ne]; omega
        go_wp2_with fail
        refine (digit_no _ _ (unhide HNS)).mono ?_
        rintro e w' ⟨rfl, rfl⟩
        go_wp2_with fail
        go_ret
        exact ⟨rfl, hbel3⟩
      · have hqb : ((q : Int) == (n : Int)) = true := by rw [beq_iff_eq]; omega
        go_wp2_with fail
        go_ret
        exact ⟨rfl, hbel3⟩
end Go.Proofs.Qxb6600580a

import Derived.Test.Qxb6600580aBase
import Derived.Deep.DeepCutAuto
namespace Go.Proofs.Qxb6600580a
set_option linter.unusedVariables false
open Go.RowKit

theorem space_yes (c : Int) (w : World) (h : isSp c) : Calls Try.prog 13 #[.int .u8 c] w fun e w' => e = .returned (.bool true) ∧ w = w' := by
  rcases h with rfl | rfl | rfl | rfl
  all_goals
    go_enter Try.func13, Try.ntmps13
    go_wp2
    go_ret
    exact ⟨rfl, rfl⟩

theorem space_no (c : Int) (w : World) (h : ¬ isSp c) : Calls Try.prog 13 #[.int .u8 c] w fun e w' => e = .returned (.bool false) ∧ w = w' := by
  have e1 : (c == 32) = false := by rw [beq_eq_false_iff_ne]; exact fun e => h (.inl e)
  have e2 : (c == 9) = false := by rw [beq_eq_false_iff_ne]; exact fun e => h (.inr (.inl e))
  have e3 : (c == 10) = false := by rw [beq_eq_false_iff_ne]; exact fun e => h (.inr (.inr (.inl e)))
  have e4 : (c == 13) = false := by rw [beq_eq_false_iff_ne]; exact fun e => h (.inr (.inr (.inr e)))
  clear h
  go_enter Try.func13, Try.ntmps13
  go_wp2
  go_ret
  exact ⟨rfl, rfl⟩

theorem bytesS_big (a : Option Addr) (len cap : Nat) (p : Int) (w : World) (h : 1048576 < len) :
    Calls Try.prog 10 #[.slice a len cap, .int .i64 p] w fun e w' => e = .returned (.bool false) ∧ w = w' := by
  go_enter Try.func10, Try.ntmps10
  go_wp2
  go_ret
  exact ⟨rfl, rfl⟩

theorem bytesS_ok (a : Option Addr) (len cap : Nat) (p : Int) (w : World) (h : len ≤ 1048576) :
    Calls Try.prog 10 #[.slice a len cap, .int .i64 p] w fun e w' => e = .returned (.bool true) ∧ w = w' := by
  go_enter Try.func10, Try.ntmps10
  go_wp2
  go_ret
  exact ⟨rfl, rfl⟩

theorem new_parser (w : World) (a : Option Addr) (n c : Nat) (pos : Int) : parserAt (w.alloc (.cells #[.slice a n c, .int .i64 pos, .slice none 0 0, .pointer none] 47)) w.heap.size a n c pos := heap_alloc_new w _

set_option maxRecDepth 100000 in
set_option maxHeartbeats 800000 in
theorem zzskip_past (a : Option Addr) (n c : Nat) (pos : Int) (w : World) (hn : n ≤ 1048576) (hp : (n : Int) ≤ pos) :
    Calls Try.prog 12 #[.slice a n c, .int .i64 pos] w fun e w' => e = .returned (.int .i64 pos) ∧ Below w.heap.size w w' := by
  go_enter Try.func12, Try.ntmps12
  go_wp2_with fail
  refine (skip_past w.heap.size a n c pos _ hn hp (new_parser _ _ _ _ _)).mono ?_
  rintro e w1 ⟨rfl, k, rfl⟩
  go_wp2_with fail
  go_ret
  exact ⟨rfl, below_drewN ((Below.refl _ _).alloc (Nat.le_refl _) _) _⟩

set_option maxRecDepth 100000 in
set_option maxHeartbeats 800000 in
theorem zzskip_any (b n c p : Nat) (f : Nat → Int) (w : World) (hn : n ≤ 1048576) (hp : p < n) (hr : w.rowIs b 5 n (fun i => .int .u8 (f i))) :
    Calls Try.prog 12 #[.slice (some ⟨b, 0, none⟩) n c, .int .i64 p] w fun e w' => ∃ q : Nat, e = .returned (.int .i64 q) ∧ p ≤ q ∧ q ≤ n ∧ (∀ i, p ≤ i → i < q → isSp (f i)) ∧ (q = n ∨ ¬ isSp (f q)) ∧ Below w.heap.size w w' := by
  have hb := hr.lt
  go_enter Try.func12, Try.ntmps12
  go_wp2_with fail
  refine (skip_any w.heap.size b n c p w.heap.size f _ hn hp (new_parser _ _ _ _ _) (hr.alloc _) (Nat.le_refl _) hb).mono ?_
  rintro e w1 ⟨rfl, q, h1, h2, h3, h4, h5, h6⟩
  have c1 : w1.cell? ⟨w.heap.size, 1, none⟩ = some (.int .i64 q) := by simp [World.cell?, show w1.heap[w.heap.size]? = _ from h5]
  have H3 := hide h3
  have H4 := hide h4
  clear h3 h4 h5
  go_wp2_with fail
  go_ret
  exact ⟨q, rfl, h1, h2, unhide H3, unhide H4, ((Below.refl _ _).alloc (Nat.le_refl _) _).trans h6⟩

set_option maxRecDepth 100000 in
set_option maxHeartbeats 800000 in
theorem law_past (a : Option Addr) (n c : Nat) (f : Nat → Int) (pos : Int) (w : World) (hn : n ≤ 1048576) (hp : (n : Int) ≤ pos) (h : Read w a n c f) :
    Calls Try.prog 3 #[.slice a n c, .int .i64 pos] w fun e w' => e = .returned (.bool true) ∧ Below w.heap.size w w' := by
  have hp0 : 0 ≤ pos := by omega
  go_enter Try.func3, Try.ntmps3
  go_wp2_with fail
  refine (bytesS_ok _ _ _ _ _ hn).mono ?_
  rintro e w' ⟨rfl, rfl⟩
  go_wp2_with fail
  refine (clone_any a n c f _ hn h).mono ?_
  rintro e w1 ⟨a1, c1, rfl, hb1, hbel1⟩
  go_wp2_with fail
  refine (zzskip_past _ _ _ _ _ hn hp).mono ?_
  rintro e w2 ⟨rfl, hbel2⟩
  go_wp2_with fail
  go_ret
  exact ⟨by simp, hbel1.trans (hbel2.mono hbel1.size)⟩

set_option maxRecDepth 100000 in
set_option maxHeartbeats 1600000 in
theorem law_in (a : Option Addr) (n c p : Nat) (f : Nat → Int) (w : World) (hn : n ≤ 1048576) (hp : p < n) (h : Read w a n c f) :
    Calls Try.prog 3 #[.slice a n c, .int .i64 p] w fun e w' => e = .returned (.bool true) ∧ Below w.heap.size w w' := by
  go_enter Try.func3, Try.ntmps3
  go_wp2_with fail
  refine (bytesS_ok _ _ _ _ _ hn).mono ?_
  rintro e w' ⟨rfl, rfl⟩
  go_wp2_with fail
  refine (clone_any a n c f _ hn h).mono ?_
  rintro e w1 ⟨a1, c1, rfl, hb1, hbel1⟩
  obtain ⟨b, rfl, hr⟩ := hb1.form (by omega)
  clear hb1
  go_wp2_with fail
  refine (zzskip_any b n c1 p f _ hn hp hr).mono ?_
  rintro e w2 ⟨q, rfl, h1, h2, h3, h4, hbel2⟩
  have H3 := hide h3
  have H4 := hide h4
  have hr2 := hr.of_block (hbel2.block b hr.lt)
  have hbel3 := hbel1.trans (hbel2.mono hbel1.size)
  clear h3 h4 hr hbel1 hbel2
  go_upto_region 13 with fail
  go_cut [6] (fun i wx => i = .int .i64 p ∧ wx = w2)
  case first =>
    go_wp2_with fail
    go_meet
    case rel => exact ⟨rfl, rfl⟩
  case rest =>
  obtain ⟨rfl, hw⟩ := hcut
  subst hw
  go_wp2_with fail
  go_loop [6] (fun i => ∃ t : Nat, p ≤ t ∧ t ≤ q ∧ i = .int .i64 t) (fun i => q - (intOf i).toNat)
  case atStart => exact ⟨p, Nat.le_refl _, h1, rfl⟩
  case round =>
    obtain ⟨t, ht1, ht2, rfl⟩ := hrel
    by_cases hlt : t < q
    · have hc := hr2.cell (i := t) (by omega)
      go_wp2_with fail
      refine (space_yes _ _ (unhide H3 t ht1 hlt)).mono ?_
      rintro e w' ⟨rfl, rfl⟩
      go_wp2_with fail
      go_round
      case rel => exact ⟨t + 1, by omega, by omega, by go_num⟩
      case measure => simp [intOf]; omega
    · obtain rfl : q = t := by omega
      by_cases hqn : q < n
      · have hc := hr2.cell (i := q) hqn
        have hns : ¬ isSp (f q) := by
          rcases unhide H4 with h | h
          · omega
          · exact h
        have HNS := hide hns
        clear hns H4 H3
        have hqb : ((q : Int) == (n : Int)) = false := by rw [beq_eq_false_iff_ne]; omega
        go_wp2_with fail
        refine (space_no _ _ (unhide HNS)).mono ?_
        rintro e w' ⟨rfl, rfl⟩
        go_wp2_with fail
        go_ret
        exact ⟨rfl, hbel3⟩
      · have hqb : ((q : Int) == (n : Int)) = true := by rw [beq_iff_eq]; omega
        go_wp2_with fail
        go_ret
        exact ⟨rfl, hbel3⟩
end Go.Proofs.Qxb6600580a

import Derived.Test.Qxb6603867aReduce
namespace Go.Proofs.Qxb6603867a
set_option linter.unusedVariables false
open Go.RowKit

theorem info67 : (Try.prog.info? 67).map (fun i => (i.zero, i.size, i.bytes)) = some (some (.agg #[.int .i32 0, .int .i32 0]), 2, 8) := by kernel_rfl

theorem run_make_nodes (n : Nat) (hn : n ≤ 1048576) (w : World) :
    (Instr.makeSlice 59 (.int .i64 (n : Int)) (.int .i64 (n : Int))).run Try.prog w = .ok (.slice (some ⟨w.heap.size, 0, none⟩) n n) (w.alloc (.cells (madeCells #[.int .i32 0, .int .i32 0] (n * 2)) 67)) := by
  obtain ⟨i, hi, hzz⟩ := Option.map_eq_some_iff.1 info67
  simp only [Prod.mk.injEq] at hzz
  obtain ⟨hz, hs, hb⟩ := hzz
  have hr := run_make (P := Try.prog) w 59 67 i _ Try.underlying59 hi hz .i64 .i64 n n (by omega) (Int.le_refl _) (by rw [hb]; omega) (by omega)
  simp only [Int.toNat_natCast, hs] at hr
  exact hr

theorem nodes_made (w : World) (m : Nat) : (w.alloc (.cells (madeCells #[.int .i32 0, .int .i32 0] (m * 2)) 67)).rowIs w.heap.size 67 (m * 2) (fun _ => .int .i32 0) := by
  refine ⟨_, heap_alloc_new _ _, size_madeCells _ _, fun i hi => ?_⟩
  rcases Nat.mod_two_eq_zero_or_one i with h | h <;> simp [madeCells, hi, h]

theorem results_tmp9 {fn : Func} {t1 t2 t3 t4 t5 t6 t7 t8 t9 : Tmp} (h : fn.results = #[.tmp t1, .tmp t2, .tmp t3, .tmp t4, .tmp t5, .tmp t6, .tmp t7, .tmp t8, .tmp t9]) (tmps : Array Value) (P : Program) (w : World) :
    (results fn tmps).run P w = .ok (.tuple #[tmps.getD t1 undef, tmps.getD t2 undef, tmps.getD t3 undef, tmps.getD t4 undef, tmps.getD t5 undef, tmps.getD t6 undef, tmps.getD t7 undef, tmps.getD t8 undef, tmps.getD t9 undef]) w := by
  simp [results, h]

/-- The nodes, t of them laid. -/
def nd2 (v u : Nat → Int) (t j : Nat) : Int := if j < t * 2 then (if j % 2 = 0 then v (j / 2) else u (j / 2)) else 0

theorem nd2_step (v u : Nat → Int) (t j : Nat) : (if j = t * 2 + 1 then (.int .i32 (u t) : Value) else if j = t * 2 then .int .i32 (v t) else .int .i32 (nd2 v u t j)) = .int .i32 (nd2 v u (t + 1) j) := by
  unfold nd2
  by_cases e1 : j = t * 2 + 1
  · subst e1
    rw [if_pos rfl, if_pos (by omega), if_neg (by omega), show (t * 2 + 1) / 2 = t by omega]
  · rw [if_neg e1]
    by_cases e2 : j = t * 2
    · subst e2
      rw [if_pos rfl, if_pos (by omega), if_pos (by omega), show (t * 2) / 2 = t by omega]
    · rw [if_neg e2]
      by_cases e3 : j < t * 2
      · rw [if_pos e3, if_pos (by omega : j < (t + 1) * 2)]
      · rw [if_neg e3, if_neg (by omega : ¬ j < (t + 1) * 2)]

/-- What 'ZZReduce' hands back. -/
def ZZOut (w : World) (n m : Nat) (v u : Nat → Int) (act F H : Nat → Bool) (e : Ending) (w' : World) : Prop :=
  ∃ eb db ab fb need free rep nm, e = .returned (.tuple #[.slice (some ⟨fb, 0, none⟩) n n, .slice (some ⟨eb, 0, none⟩) m m, .slice (some ⟨db, 0, none⟩) (Pl.fs (Pl.sr n v) n m) (Pl.fs (Pl.sr n v) n m), .slice (some ⟨ab, 0, none⟩) (n + 1) (n + 1), .int .i64 (Pl.tr free n : Nat), .int .i64 0, .int .i64 0, .bool false, .bool false]) ∧
    w'.rowIs fb 4 n (fun p => .bool (free p)) ∧ w'.rowIs eb 21 m (fun x => .int .i32 (need x : Nat)) ∧ w'.rowIs db 21 (Pl.fs (Pl.sr n v) n m) (fun e => .int .i32 (nm e)) ∧ w'.rowIs ab 21 (n + 1) (fun p => .int .i32 (Pl.fs (Pl.sr n v) p m : Nat)) ∧
    Pl.Inv n m v u F H need free [] rep (fun _ => false) none ∧ (∀ p, p < n → act p = true → free p = true) ∧ (∀ x, x < m → v x = -1 → need x = 0) ∧ Pl.Laid n m v u 0 nm ∧ Below w.heap.size w w'

set_option maxRecDepth 100000 in
set_option maxHeartbeats 3200000 in
theorem zzreduce_any (n m n3 : Nat) (na la ca sa va ua : Option Addr) (nn nc lc cn cc c3 vc uc : Nat) (v u st : Nat → Int) (w : World) (hn : n ≤ 1048576) (hm : m ≤ 1048576) (hn3 : n3 ≤ 1048576) (hv : I32 m v) (h3 : n + 1 ≤ n3)
    (hst : Own 21 w sa n3 c3 (fun i => .int .i32 (st i))) (hvs : Own 21 w va m vc (fun i => .int .i32 (v i))) (hus : Own 21 w ua m uc (fun i => .int .i32 (u i)))
    (act F H : Nat → Bool) (hact : ∀ p, p < n → act p = decide (st p = st (p + 1))) (hc : Pl.Closed n m v u act F H) (hd : Pl.Dom n m u) :
    Calls Try.prog 24 #[.slice na nn nc, .slice la n lc, .slice ca cn cc, .slice sa n3 c3, .slice va m vc, .slice ua m uc] w fun e w' => ZZOut w n m v u act F H e w' := by
  have hmk := run_make_nodes m hm
  obtain ⟨sb, rfl, hsr⟩ := hst.form (by omega)
  have HST := hide hsr
  have HV := hide hvs
  have HU := hide hus
  clear hst hsr hvs hus
  go_enter Try.func24, Try.ntmps24
  go_wp2_with fail
  go_loopg [22] m (fun gk s22 wr => ∃ t : Nat, gk = m - t ∧ t ≤ m ∧ s22 = .int .i64 t ∧ snapAt wr w.heap.size (.slice na nn nc) (.slice la n lc) (.slice ca cn cc) (.slice (some ⟨sb, 0, none⟩) n3 c3) (.slice (some ⟨w.heap.size + 1, 0, none⟩) m m) ∧
    wr.rowIs (w.heap.size + 1) 67 (m * 2) (fun j => .int .i32 (nd2 v u t j)) ∧ Below w.heap.size w wr ∧ w.heap.size + 1 < wr.heap.size)
  case atStart =>
    refine ⟨0, rfl, Nat.zero_le _, rfl, (Below.heap_alloc _ _ _ (by simp)).trans (heap_alloc_new _ _), ?_, ((Below.refl _ _).alloc (Nat.le_refl _) _).alloc (by simp) _, by simp⟩
    have := nodes_made (w.alloc (.cells #[.slice na nn nc, .slice la n lc, .slice ca cn cc, .slice (some ⟨sb, 0, none⟩) n3 c3, .slice (some ⟨w.heap.size + 1, 0, none⟩) m m] 61)) m
    rw [show (w.alloc (.cells #[.slice na nn nc, .slice la n lc, .slice ca cn cc, .slice (some ⟨sb, 0, none⟩) n3 c3, .slice (some ⟨w.heap.size + 1, 0, none⟩) m m] 61)).heap.size = w.heap.size + 1 by simp] at this
    exact this.congr (fun j _ => by unfold nd2; rw [if_neg (by omega)])
  case round =>
    obtain ⟨t, rfl, ht, rfl, hsnap, hrow, hbel, hsz⟩ := hrel
    have c4 : wr.cell? ⟨w.heap.size, 4, none⟩ = some (.slice (some ⟨w.heap.size + 1, 0, none⟩) m m) := by simp [World.cell?, show wr.heap[w.heap.size]? = _ from hsnap]
    by_cases hlt : t < m
    · obtain ⟨vb, rfl, hvr⟩ := (unhide HV).form (by omega)
      obtain ⟨ub, rfl, hur⟩ := (unhide HU).form (by omega)
      have cv := (hbel.cell (p := ⟨vb, t, none⟩) hvr.lt).trans (hvr.cell hlt)
      have cu := (hbel.cell (p := ⟨ub, t, none⟩) hur.lt).trans (hur.cell hlt)
      have k0 := hrow.cell (i := t * 2) (by omega)
      have k1 := hrow.cell (i := t * 2 + 1) (by omega)
      have f0 := hrow.frozen (t * 2)
      have f1 := hrow.frozen (t * 2 + 1)
      have HS := hide hsnap
      have HR := hide hrow
      clear hsnap hrow hvr hur HV HU
      have i1 : (0 : Int) ≤ (t : Int) := by omega
      have i2 : (t : Int) < (m : Int) := by omega
      go_wp2_with fail
      go_region
      all_goals
        go_wp2_with fail
        go_roundg (m - (t + 1))
        case measure => omega
        case rel => exact ⟨t + 1, rfl, by omega, by go_num, (Below.heap_setCell _ _ _ _ (by simp)).trans ((Below.heap_setCell _ _ _ _ (by simp)).trans (unhide HS)), (((unhide HR).set (t * 2) _).set (t * 2 + 1) _).congr (fun j hj => nd2_step v u t j), ((hbel.setCell (by simp) _).setCell (by simp) _).drew, by simp; omega⟩
    · obtain rfl : m = t := by omega
      have HS := hide hsnap
      have HR := hide hrow
      have r0 : Hid (∀ x, x < m → wr.cell? ⟨w.heap.size + 1, x * 2, none⟩ = some (.int .i32 (v x))) := fun x hx => by
        rw [hrow.cell (by omega)]; unfold nd2; rw [if_pos (by omega), if_pos (by omega), show x * 2 / 2 = x by omega]
      have r1 : Hid (∀ x, x < m → wr.cell? ⟨w.heap.size + 1, x * 2 + 1, none⟩ = some (.int .i32 (u x))) := fun x hx => by
        rw [hrow.cell (by omega)]; unfold nd2; rw [if_pos (by omega), if_neg (by omega), show (x * 2 + 1) / 2 = x by omega]
      have hst2 : Hid (wr.rowIs sb 21 n3 (fun i => .int .i32 (st i))) := (unhide HST).of_block (hbel.block sb (unhide HST).lt)
      clear hsnap hrow HV HU HST c4
      go_wp2_with fail
      refine (reduce_any w.heap.size (w.heap.size + 1) sb n m n3 c3 lc la (.slice na nn nc) (.slice ca cn cc) v u st wr hn hm hn3 hv (unhide HS) (unhide hst2) h3 (unhide r0) (unhide r1) hsz act F H hact hc hd).mono ?_
      rintro e w2 ⟨B, Rb, eb, db, ab, fb, W, need, free, rep, nm, rfl, hst, hinv, ha, he, hnm, hlaid, hat, hb2⟩
      obtain ⟨a, cap, hred, hown⟩ := hst.red
      have k1 : w2.cell? ⟨Rb, 1, none⟩ = some (.slice (some ⟨eb, 0, none⟩) m m) := by simp [World.cell?, show w2.heap[Rb]? = _ from hred]
      have k2 : w2.cell? ⟨Rb, 2, none⟩ = some (.slice (some ⟨db, 0, none⟩) (Pl.fs (Pl.sr n v) n m) (Pl.fs (Pl.sr n v) n m)) := by simp [World.cell?, show w2.heap[Rb]? = _ from hred]
      have k3 : w2.cell? ⟨Rb, 3, none⟩ = some (.slice (some ⟨ab, 0, none⟩) (n + 1) (n + 1)) := by simp [World.cell?, show w2.heap[Rb]? = _ from hred]
      have k4 : w2.cell? ⟨Rb, 4, none⟩ = some (.slice (some ⟨fb, 0, none⟩) n n) := by simp [World.cell?, show w2.heap[Rb]? = _ from hred]
      have k5 : w2.cell? ⟨Rb, 5, none⟩ = some (.slice a 0 cap) := hred.c5
      have k6 : w2.cell? ⟨Rb, 6, none⟩ = some (.int .i64 (Pl.tr free n : Nat)) := by simp [World.cell?, show w2.heap[Rb]? = _ from hred]
      have k7 : w2.cell? ⟨Rb, 7, none⟩ = some (.bool false) := by simp [World.cell?, show w2.heap[Rb]? = _ from hred]
      have k8 : w2.cell? ⟨Rb, 8, none⟩ = some (.slice none 0 0) := by simp [World.cell?, show w2.heap[Rb]? = _ from hred]
      have k9 : w2.cell? ⟨Rb, 9, none⟩ = some (.slice none 0 0) := by simp [World.cell?, show w2.heap[Rb]? = _ from hred]
      have HO : Hid (∀ k, ZZOut w n m v u act F H (.returned (.tuple #[.slice (some ⟨fb, 0, none⟩) n n, .slice (some ⟨eb, 0, none⟩) m m, .slice (some ⟨db, 0, none⟩) (Pl.fs (Pl.sr n v) n m) (Pl.fs (Pl.sr n v) n m), .slice (some ⟨ab, 0, none⟩) (n + 1) (n + 1), .int .i64 (Pl.tr free n : Nat), .int .i64 0, .int .i64 0, .bool false, .bool false])) (w2.drewN k)) := fun k =>
        ⟨eb, db, ab, fb, need, free, rep, nm, rfl, hst.free, hst.need, hnm, hat, hinv, ha, he, hlaid, below_drewN (hbel.trans (hb2.mono (by omega))) k⟩
      clear hst hinv ha he hnm hlaid hat hb2 hred hown HS HR r0 r1 hst2
      have q := fun w => run_neq_slice_nil (P := Try.prog) w 29 4 none 0 0 Try.underlying29
      go_wp2_with fail
      go_quiet (fail)
      go_wp2_with fail
      (try simp only [Exit.inBlock, Exit.then])
      refine bodyPost_ret (results_tmp9 rfl _ _ _) rfl ?_
      exact unhide HO _
end Go.Proofs.Qxb6603867a

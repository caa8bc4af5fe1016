import Derived.Test.Qxb6600486aBase
import Derived.BigRegion
namespace Go.Proofs.Qxb6600486a
set_option linter.unusedVariables false
open Go.RowKit

/-- The slice value '.slice a m cp' owns the numbers f 0 .. f (m - 1). -/
def OwnF (w : World) (base : Nat) (a : Option Addr) (m cp : Nat) (f : Nat → Int) : Prop :=
  w.ownsRow base 3 1 (.slice a m cp) m ((List.range m).map fun i => .int .i64 (f i))

theorem OwnF.congr {w : World} {base m cp : Nat} {a : Option Addr} {f g : Nat → Int} (h : OwnF w base a m cp f) (e : ∀ i, i < m → f i = g i) : OwnF w base a m cp g := by
  unfold OwnF at *
  rw [show ((List.range m).map fun i => (.int .i64 (g i) : Value)) = (List.range m).map fun i => .int .i64 (f i) from List.map_congr_left (fun i hi => by rw [e i (List.mem_range.1 hi)])]
  exact h

theorem OwnF.form {w : World} {base m cp : Nat} {a : Option Addr} {f : Nat → Int} (h : OwnF w base a m cp f) (hm : 0 < m) : ∃ g, a = some ⟨g, 0, none⟩ ∧ base ≤ g ∧ g < w.heap.size := by
  rcases h.2 with ⟨_, h0⟩ | ⟨g, cap, cur, hv, hb, hg, _⟩
  · omega
  · simp at hv
    exact ⟨g, hv.1, hb, (Array.getElem?_eq_some_iff.1 hg).1⟩

theorem OwnF.cell {w : World} {base m cp g : Nat} {f : Nat → Int} (h : OwnF w base (some ⟨g, 0, none⟩) m cp f) {j : Nat} (hj : j < m) : w.cell? ⟨g, j, none⟩ = some (.int .i64 (f j)) := by
  rw [World.ownsRow.cellAt h j (by omega)]
  simp [hj]

theorem OwnF.frozen {w : World} {base m cp g : Nat} {f : Nat → Int} (h : OwnF w base (some ⟨g, 0, none⟩) m cp f) (j : Nat) : w.frozen? ⟨g, j, none⟩ = false := World.ownsRow.frozenAt h j

theorem OwnF.lt {w : World} {base m cp g : Nat} {f : Nat → Int} (h : OwnF w base (some ⟨g, 0, none⟩) m cp f) : base ≤ g ∧ g < w.heap.size := World.ownsRow.lt h g rfl

theorem OwnF.store {w : World} {base m cp g : Nat} {f : Nat → Int} (h : OwnF w base (some ⟨g, 0, none⟩) m cp f) (j : Nat) (x : Int) : OwnF (w.setCell ⟨g, j, none⟩ (.int .i64 x)) base (some ⟨g, 0, none⟩) m cp (fun i => if i = j then x else f i) := by
  have hst := World.ownsRow.stored h j (.int .i64 x)
  have e : ((List.range m).map fun i => (.int .i64 (f i) : Value)).set j (.int .i64 x) = (List.range m).map fun i => .int .i64 (if i = j then x else f i) := by
    apply List.ext_getElem?
    intro i
    rw [List.getElem?_set]
    by_cases hi : i < m
    · by_cases e : j = i
      · subst e; simp [hi]
      · have e' : ¬ i = j := fun h => e h.symm
        simp [hi, e, e']
    · by_cases e : j = i
      · subst e; simp [hi]
      · simp [hi, e]
  rw [e] at hst
  exact hst.1

theorem OwnF.snoc {w : World} {base m cp : Nat} {a : Option Addr} {f : Nat → Int} {x : Int} (h : w.ownsRow base 3 1 (.slice a (m + 1) cp) (m + 1) (((List.range m).map fun i => (.int .i64 (f i) : Value)) ++ [.int .i64 x])) : OwnF w base a (m + 1) cp (fun i => if i = m then x else f i) := by
  have e : ((List.range m).map fun i => (.int .i64 (f i) : Value)) ++ [.int .i64 x] = (List.range (m + 1)).map fun i => .int .i64 (if i = m then x else f i) := by
    rw [List.range_succ, List.map_append]
    congr 1
    · refine List.map_congr_left (fun i hi => ?_)
      have := List.mem_range.1 hi
      rw [if_neg (by omega)]
    · simp
  rw [e] at h
  exact h

theorem OwnF.snoc2 {w : World} {base m cp : Nat} {a : Option Addr} {f : Nat → Int} {u v : Int} (h : w.ownsRow base 3 1 (.slice a (m + 2) cp) (m + 2) (((List.range m).map fun i => (.int .i64 (f i) : Value)) ++ [.int .i64 u, .int .i64 v])) (hu : f m = u) (hv : f (m + 1) = v) : OwnF w base a (m + 2) cp f := by
  have e : ((List.range m).map fun i => (.int .i64 (f i) : Value)) ++ [.int .i64 u, .int .i64 v] = (List.range (m + 2)).map fun i => .int .i64 (f i) := by
    rw [List.range_succ, List.range_succ, List.map_append, List.map_append]
    simp [hu, hv]
  rw [e] at h
  exact h

theorem OwnF.alloc {w : World} {base m cp : Nat} {a : Option Addr} {f : Nat → Int} (h : OwnF w base a m cp f) (o : Obj) : OwnF (w.alloc o) base a m cp f := World.ownsRow.alloc h o

theorem OwnF.nil (w : World) (base : Nat) (f : Nat → Int) : OwnF w base none 0 0 f := World.ownsRow_nil _ _ _ _

/-- The numbers of the row after k exchanges. -/
def rv (m k : Nat) (f : Nat → Int) (i : Nat) : Int := if i < k ∨ m ≤ i + k then f (m - 1 - i) else f i

theorem rv_step (m k : Nat) (f : Nat → Int) (h : 2 * k + 1 < m) (i : Nat) (hi : i < m) :
    (if i = m - 1 - k then rv m k f k else if i = k then rv m k f (m - 1 - k) else rv m k f i) = rv m (k + 1) f i := by
  unfold rv
  by_cases h1 : i = m - 1 - k
  · subst h1
    rw [if_pos rfl, if_neg (by omega), if_pos (by omega)]
    congr 1; omega
  · rw [if_neg h1]
    by_cases h2 : i = k
    · subst h2
      rw [if_pos rfl, if_neg (by omega), if_pos (by omega)]
    · rw [if_neg h2]
      by_cases h3 : i < k ∨ m ≤ i + k
      · rw [if_pos h3, if_pos (by omega)]
      · rw [if_neg h3, if_neg (by omega)]

theorem rv_end (m k : Nat) (f : Nat → Int) (h : m ≤ 2 * k + 1) (i : Nat) (hi : i < m) : rv m k f i = f (m - 1 - i) := by
  unfold rv
  split
  · rfl
  · congr 1; omega

set_option maxRecDepth 100000 in
set_option maxHeartbeats 1600000 in
theorem reverse_any (base g m cp : Nat) (f : Nat → Int) (w : World) (hm : m ≤ 1000000) (h0 : 0 < m) (h : OwnF w base (some ⟨g, 0, none⟩) m cp f) :
    Calls Try.prog 33 #[.slice (some ⟨g, 0, none⟩) m cp] w fun e w' => e = .returned (.tuple #[]) ∧ OwnF w' base (some ⟨g, 0, none⟩) m cp (fun i => f (m - 1 - i)) ∧ Below base w w' := by
  have hg := h.lt.1
  go_enter Try.func33, Try.ntmps33
  go_wp2_with fail
  go_loopw [2, 3] (fun i j wr => ∃ k : Nat, 2 * k ≤ m ∧ i = .int .i64 k ∧ j = .int .i64 ((m : Int) - 1 - k) ∧ OwnF wr base (some ⟨g, 0, none⟩) m cp (rv m k f) ∧ Below base w wr)
    (fun i _ _ => m - (intOf i).toNat)
  case atStart => exact ⟨0, by omega, rfl, by go_num, h.congr (fun i hi => by unfold rv; rw [if_neg (by omega)]), Below.refl _ _⟩
  case round =>
    obtain ⟨k, hk, rfl, rfl, hr, hb⟩ := hrel
    by_cases hlt : 2 * k + 1 < m
    · have hc1 := hr.cell (j := k) (by omega)
      have hc2 := hr.cell (j := m - 1 - k) (by omega)
      have hf1 := hr.frozen k
      have hf2 := hr.frozen (m - 1 - k)
      have hne : k ≠ m - 1 - k := by omega
      obtain ⟨q, hq⟩ : ∃ q, q = m - 1 - k := ⟨_, rfl⟩
      have hq2 : (m : Int) - 1 - k = (q : Int) := by omega
      rw [← hq] at hc2 hf2 hne
      rw [hq2]
      have HQ := hide hq
      have hqm : q < m := by omega
      have hkq : k < q := by omega
      clear hq hq2
      have g1 : (0 : Int) ≤ (k : Int) := by omega
      have g2 : (k : Int) < (m : Int) := by omega
      have g3 : (0 : Int) ≤ (q : Int) := by omega
      have g4 : (q : Int) < (m : Int) := by omega
      go_wp2_with fail
      go_region
      all_goals
        go_wp2_with fail
        go_roundw
        case rel =>
          have hq := unhide HQ
          refine ⟨k + 1, by omega, by go_num, congrArg (Value.int .i64) (by omega), ?_, ?_⟩
          · refine OwnF.congr ((hr.store k (rv m k f q)).store q (rv m k f k)) (fun i hi => ?_)
            rw [hq]
            exact rv_step m k f hlt i hi
          · exact ((hb.setCell hg _).setCell hg _).drew
        case measure => simp [intOf]; omega
    · go_wp2_with fail
      go_end0
      exact ⟨rfl, hr.congr (fun i hi => rv_end m k f (by omega) i hi), hb⟩
end Go.Proofs.Qxb6600486a

import Derived.Test.Qxb6600486aBase
import Derived.Deep.AppendLies
import Derived.Deep.RegionLaw
import Derived.BigRegion
import Derived.Deep.DrawnRows
namespace Go.Proofs.Qxb6600486a
set_option linter.unusedVariables false
open Go.RowKit
attribute [local go_sem ↓] Go.wp_at_zero Go.wp_at_succ

theorem Try.info39 : (Try.prog.info? 39).map (fun i => (i.zero, i.size, i.bytes)) = some (some (.agg #[.string ByteArray.empty, .string ByteArray.empty, .slice none 0 0, .string ByteArray.empty]), 4, 72) := by kernel_rfl

theorem own_ne {w : World} {base n size : Nat} {v : Value} {xs : List Value} {R : Nat} {t e : TypeId} {c : Array Value} {fr : Nat × Nat} (h : w.ownsRow base e size v n xs) (hR : w.heap[R]? = some (.cells c t fr)) (hte : t ≠ e := by decide) : v.ownBlock ≠ some R := by
  intro hv
  rcases h.2 with ⟨rfl, _⟩ | ⟨g, cap, cur, rfl, _, hg, _⟩
  · simp [Value.ownBlock] at hv
  · simp only [Value.ownBlock, Option.some.injEq] at hv
    subst hv
    rw [hR] at hg
    simp only [Option.some.injEq, Obj.cells.injEq] at hg
    exact hte hg.2.1

theorem ownsRow_setCell_ne {w : World} {base : Nat} {e : TypeId} {size : Nat} {v : Value} {n : Nat} {xs : List Value} (h : w.ownsRow base e size v n xs) {a : Addr} (ha : v.ownBlock ≠ some a.block) (u : Value) : (w.setCell a u).ownsRow base e size v n xs := by
  obtain ⟨h1, h2⟩ := h
  refine ⟨h1, ?_⟩
  rcases h2 with h2 | ⟨g, cap, cur, hv, hg, hh, r⟩
  · exact Or.inl h2
  · refine Or.inr ⟨g, cap, cur, hv, hg, ?_, r⟩
    rw [Below.heap_setCell _ _ _ _ (by subst hv; intro e; apply ha; simp [Value.ownBlock, e])]; exact hh

theorem heap_setCell_in {w : World} {R : Nat} {c : Array Value} {t : TypeId} {fr : Nat × Nat} (w0 : World) (i : Nat) (v : Value) (h : w0.heap[R]? = some (.cells c t fr)) (e : w0 = w := by rfl) : (w.setCell ⟨R, i, none⟩ v).heap[R]? = some (.cells (c.setIfInBounds i v) t fr) := by
  subst e
  simp [World.setCell, Array.getElem?_modify, h]

/-- All blocks that were there are as they were, but R and 'row'. -/
structure Kept2 (w w' : World) (R : Nat) (row : Option Nat) : Prop where
  os : w'.os = w.os
  tape : w'.tape = w.tape
  output : w'.output = w.output
  size : w.heap.size ≤ w'.heap.size
  block : ∀ k, k < w.heap.size → k ≠ R → some k ≠ row → w'.heap[k]? = w.heap[k]?

set_option maxHeartbeats 800000 in
theorem add_full (R : Nat) (ops obj fo : Int) (co : Bool) (va cs s0 s1 s2 s3 : Value) (ao : Option Addr) (n cap : Nat) (w : World) (hva : va = .slice ao n cap) (hn : 100 ≤ n) (hn2 : n ≤ 100000)
    (hR : w.heap[R]? = some (.cells #[.int .i64 ops, .int .i64 obj, .bool co, va, cs, .int .i64 fo] 42 (0, 0))) :
    Calls Try.prog 27 #[.pointer (some ⟨R, 0, none⟩), .agg #[s0, s1, s2, s3]] w fun e w' => e = .returned (.tuple #[]) ∧
      w'.heap[R]? = some (.cells #[.int .i64 ops, .int .i64 obj, .bool co, va, cs, .int .i64 (wrap64 (fo + 1))] 42 (0, 0)) ∧ Kept2 w w' R none := by
  subst hva
  have HR := hide hR
  have c5 : w.cell? ⟨R, 5, none⟩ = some (.int .i64 fo) := by simp [World.cell?, hR]
  have c3 : w.cell? ⟨R, 3, none⟩ = some (.slice ao n cap) := by simp [World.cell?, hR]
  have f5 : w.frozen? ⟨R, 5, none⟩ = false := by simp [World.frozen?, hR]
  have f3 : w.frozen? ⟨R, 3, none⟩ = false := by simp [World.frozen?, hR]
  have hlt : R < w.heap.size := (Array.getElem?_eq_some_iff.1 hR).1
  clear hR
  go_enter Try.func27, Try.ntmps27
  go_wp2
  go_end0
  refine ⟨rfl, ?_, ?_⟩
  · rw [Below.heap_alloc _ _ _ (by simp [World.setCell]; omega), heap_setCell_in _ _ _ (unhide HR)]; rfl
  · refine ⟨rfl, rfl, rfl, by simp [World.setCell], fun k hk hkR _ => ?_⟩
    rw [Below.heap_alloc _ _ _ (by simp [World.setCell]; omega), Below.heap_setCell _ _ _ _ (by simpa using hkR)]

/-- What 'add' leaves where it lists. -/
def Added (w w' : World) (R base : Nat) (ops obj fo : Int) (co : Bool) (va cs : Value) (m : Nat) (ys : List Value) : Prop :=
  ∃ g cp, w'.heap[R]? = some (.cells #[.int .i64 ops, .int .i64 obj, .bool co, .slice (some ⟨g, 0, none⟩) m cp, cs, .int .i64 fo] 42 (0, 0)) ∧
    w'.ownsRow base 39 4 (.slice (some ⟨g, 0, none⟩) m cp) m ys ∧ Kept2 w w' R va.ownBlock

theorem add_done {w W w1 w' : World} {R base : Nat} {ops obj fo : Int} {co : Bool} {va cs : Value} {m g cp : Nat} {ys : List Value} {o : Obj} (hlt : R < w.heap.size) (hne : va.ownBlock ≠ some R) (hk : Kept2 w W R none)
    (hR : W.heap[R]? = some (.cells #[.int .i64 ops, .int .i64 obj, .bool co, va, cs, .int .i64 fo] 42 (0, 0)))
    (hown : w1.ownsRow base 39 4 (.slice (some ⟨g, 0, none⟩) m cp) m ys) (hgrow : (W.alloc o).drew.grownBy w1 va.ownBlock) (e : w' = w1.setCell ⟨R, 3, none⟩ (.slice (some ⟨g, 0, none⟩) m cp)) :
    Added w w' R base ops obj fo co va cs m ys := by
  subst e
  have hs := hk.size
  have hR1 : w1.heap[R]? = some (.cells #[.int .i64 ops, .int .i64 obj, .bool co, va, cs, .int .i64 fo] 42 (0, 0)) := by
    rw [hgrow.block R (by simp; omega) (Ne.symm hne)]; exact (Below.heap_alloc _ _ _ (by omega)).trans hR
  refine ⟨g, cp, ?_, ownsRow_setCell_ne hown (own_ne hown hR1) _, ?_⟩
  · rw [heap_setCell_in _ _ _ hR1]; rfl
  · refine ⟨?_, ?_, ?_, ?_, fun k hkk hkR hrow => ?_⟩
    · exact hgrow.os.trans hk.os
    · exact hgrow.tape.trans hk.tape
    · exact hgrow.output.trans hk.output
    · have := hgrow.size; simp [World.setCell] at this ⊢; omega
    · rw [Below.heap_setCell _ _ _ _ (by simpa using hkR), hgrow.block k (by simp; omega) hrow]
      exact (Below.heap_alloc _ _ _ (by omega)).trans (hk.block k hkk hkR (by simp))

set_option maxHeartbeats 800000 in
theorem add_list (R : Nat) (base : Nat) (ops obj fo : Int) (co : Bool) (va cs s0 s1 s2 s3 : Value) (ao : Option Addr) (n cap : Nat) (xs : List Value) (w : World) (hva : va = .slice ao n cap) (hn : n < 100)
    (hR : w.heap[R]? = some (.cells #[.int .i64 ops, .int .i64 obj, .bool co, va, cs, .int .i64 fo] 42 (0, 0)))
    (hown : w.ownsRow base 39 4 va n xs) (hb : base ≤ w.heap.size) (o0 : s0.oneCell' = true) (o1 : s1.oneCell' = true) (o2 : s2.oneCell' = true) (o3 : s3.oneCell' = true) :
    Calls Try.prog 27 #[.pointer (some ⟨R, 0, none⟩), .agg #[s0, s1, s2, s3]] w fun e w' => e = .returned (.tuple #[]) ∧ Added w w' R base ops obj (wrap64 (fo + 1)) co (.slice ao n cap) cs (n + 1) (xs ++ [s0, s1, s2, s3]) := by
  subst hva
  have c5 : w.cell? ⟨R, 5, none⟩ = some (.int .i64 fo) := by simp [World.cell?, hR]
  have c3 : w.cell? ⟨R, 3, none⟩ = some (.slice ao n cap) := by simp [World.cell?, hR]
  have f5 : w.frozen? ⟨R, 5, none⟩ = false := by simp [World.frozen?, hR]
  have f3 : w.frozen? ⟨R, 3, none⟩ = false := by simp [World.frozen?, hR]
  have hlt : R < w.heap.size := (Array.getElem?_eq_some_iff.1 hR).1
  have HR : Hid (w.heap[R]? = some (.cells #[.int .i64 ops, .int .i64 obj, .bool co, .slice ao n cap, cs, .int .i64 fo] 42 (0, 0))) := hR
  clear hR
  have hne : (Value.slice ao n cap).ownBlock ≠ some R := own_ne hown HR.out
  have hne2 : (Value.slice ao n cap).ownBlock ≠ some w.heap.size := fun h => by have := (hown.lt _ h).2; omega
  obtain ⟨i0, hi, hz0, hz1, hz2⟩ := info_parts Try.info39
  have hownW := ((ownsRow_setCell_ne hown (a := ⟨R, 5, none⟩) (by simpa using hne) (.int .i64 (wrap64 (fo + 1)))).alloc (.cells #[s0, s1, s2, s3] 39))
  have hWR : ((w.setCell ⟨R, 5, none⟩ (.int .i64 (wrap64 (fo + 1)))).alloc (.cells #[s0, s1, s2, s3] 39)).heap[R]? = some (.cells #[.int .i64 ops, .int .i64 obj, .bool co, .slice ao n cap, cs, .int .i64 (wrap64 (fo + 1))] 42 (0, 0)) := by
    rw [Below.heap_alloc _ _ _ (by simpa using hlt), heap_setCell_in _ _ _ HR.out]; rfl
  have hWs : ((w.setCell ⟨R, 5, none⟩ (.int .i64 (wrap64 (fo + 1)))).alloc (.cells #[s0, s1, s2, s3] 39)).heap.size = w.heap.size + 1 := by simp
  have hWn : ((w.setCell ⟨R, 5, none⟩ (.int .i64 (wrap64 (fo + 1)))).alloc (.cells #[s0, s1, s2, s3] 39)).heap[w.heap.size]? = some (.cells #[s0, s1, s2, s3] 39 (0, 0)) := by
    have := heap_alloc_new (w.setCell ⟨R, 5, none⟩ (.int .i64 (wrap64 (fo + 1)))) (.cells #[s0, s1, s2, s3] 39)
    simpa using this
  have hWk : Kept2 w ((w.setCell ⟨R, 5, none⟩ (.int .i64 (wrap64 (fo + 1)))).alloc (.cells #[s0, s1, s2, s3] 39)) R none := by
    refine ⟨rfl, rfl, rfl, by simp, fun k hk hkR _ => ?_⟩
    rw [Below.heap_alloc _ _ _ (by simpa using hk), Below.heap_setCell _ _ _ _ (by simpa using hkR)]
  go_enter Try.func27, Try.ntmps27
  go_wp2
  generalize (w.setCell ⟨R, 5, none⟩ (.int .i64 (wrap64 (fo + 1)))).alloc (.cells #[s0, s1, s2, s3] 39) = W at hWR hWs hWn hWk hownW ⊢
  have k3 : W.cell? ⟨R, 3, none⟩ = some (.slice ao n cap) := by simp [World.cell?, hWR]
  have kf : W.frozen? ⟨R, 3, none⟩ = false := by simp [World.frozen?, hWR]
  have kb0 : W.cell? ⟨w.heap.size, 0, none⟩ = some s0 := by simp [World.cell?, hWn]
  have kb1 : W.cell? ⟨w.heap.size, 1, none⟩ = some s1 := by simp [World.cell?, hWn]
  have kb2 : W.cell? ⟨w.heap.size, 2, none⟩ = some s2 := by simp [World.cell?, hWn]
  have kb3 : W.cell? ⟨w.heap.size, 3, none⟩ = some s3 := by simp [World.cell?, hWn]
  have HWR := hide hWR
  have HWn := hide hWn
  have HWs := hide hWs
  clear hWR hWn hWs c5 c3 f5 f3
  have hsW : w.heap.size < W.heap.size := by rw [unhide HWs]; omega
  have hRW : R < W.heap.size := by omega
  have hfa : ∀ o, (W.alloc o).frozen? ⟨R, 3, none⟩ = false := fun o => by rw [World.frozen?_alloc_past _ _ _ hRW]; exact kf
  have hca : ∀ o, (W.alloc o).cell? ⟨R, 3, none⟩ = some (.slice ao n cap) := fun o => by rw [World.cell?_alloc_past _ _ _ hRW]; exact k3
  go_region_law
    ((refine step_append_lies _ (by rfl) _ _ _ (by rfl) base 39 i0 _ 4 72 Try.underlying37 hi hz0 hz1 hz2 rfl (by omega) (.slice ao n cap) n xs (by rfl) ((hownW.alloc _).drew)
        ⟨W.heap.size, 0, none⟩ 1 1 [s0, s1, s2, s3] (by rfl) (by rfl) (World.news_of_block (cs := #[s0, s1, s2, s3]) (t := 39) (fr := (0, 0)) (heap_alloc_new _ _)) (by simp [o0, o1, o2, o3])
        (by omega) (by unfold maxLen; omega) (by omega) (by simp; omega) (W.heap.size + 1) (by simp) ?_; intro gg cp w1 hown1 hgrow hat hlt1; have kc1 : w1.cell? ⟨R, 3, none⟩ = some (.slice ao n cap) := (by rw [hgrow.cell_far _ (by simp; omega) (Ne.symm hne)]; exact hca _); have kf1 : w1.frozen? ⟨R, 3, none⟩ = false := (by rw [hgrow.frozen_far _ (by simp; omega) (Ne.symm hne)]; exact hfa _)))
  all_goals
    go_end0
    exact ⟨rfl, add_done hlt hne hWk (unhide HWR) hown1 hgrow rfl⟩

theorem Kept2.of_alloc {w w' : World} {o : Obj} {R : Nat} {row : Option Nat} (h : Kept2 (w.alloc o) w' R row) : Kept2 w w' R row := by
  refine ⟨h.os, h.tape, h.output, ?_, fun k hk h1 h2 => ?_⟩
  · have := h.size; simp at this; omega
  · rw [h.block k (by simp; omega) h1 h2, Below.heap_alloc _ _ _ hk]

set_option maxHeartbeats 800000 in
theorem zzadd_full (R : Nat) (ops obj fo : Int) (co : Bool) (va cs s0 s1 s2 s3 : Value) (ao : Option Addr) (n cap : Nat) (w : World) (hva : va = .slice ao n cap) (hn : 100 ≤ n) (hn2 : n ≤ 100000)
    (hR : w.heap[R]? = some (.cells #[.int .i64 ops, .int .i64 obj, .bool co, va, cs, .int .i64 fo] 42 (0, 0))) :
    Calls Try.prog 22 #[.pointer (some ⟨R, 0, none⟩), .agg #[s0, s1, s2, s3]] w fun e w' => e = .returned (.tuple #[]) ∧
      w'.heap[R]? = some (.cells #[.int .i64 ops, .int .i64 obj, .bool co, va, cs, .int .i64 (wrap64 (fo + 1))] 42 (0, 0)) ∧ Kept2 w w' R none := by
  have hlt : R < w.heap.size := (Array.getElem?_eq_some_iff.1 hR).1
  have hR1 : (w.alloc (.cells #[s0, s1, s2, s3] 39)).heap[R]? = some (.cells #[.int .i64 ops, .int .i64 obj, .bool co, va, cs, .int .i64 fo] 42 (0, 0)) := (Below.heap_alloc _ _ _ hlt).trans hR
  have HR := hide hR1
  clear hR hR1
  go_enter Try.func22, Try.ntmps22
  go_wp2_with fail
  refine (add_full R ops obj fo co va cs s0 s1 s2 s3 ao n cap _ hva hn hn2 HR).mono ?_
  rintro e w' ⟨rfl, h1, h2⟩
  have H1 := hide h1
  clear h1
  go_wp2
  go_end0
  exact ⟨rfl, unhide H1, h2.of_alloc⟩

set_option maxHeartbeats 800000 in
theorem zzadd_list (R : Nat) (base : Nat) (ops obj fo : Int) (co : Bool) (va cs s0 s1 s2 s3 : Value) (ao : Option Addr) (n cap : Nat) (xs : List Value) (w : World) (hva : va = .slice ao n cap) (hn : n < 100)
    (hR : w.heap[R]? = some (.cells #[.int .i64 ops, .int .i64 obj, .bool co, va, cs, .int .i64 fo] 42 (0, 0)))
    (hown : w.ownsRow base 39 4 va n xs) (hb : base ≤ w.heap.size) (o0 : s0.oneCell' = true) (o1 : s1.oneCell' = true) (o2 : s2.oneCell' = true) (o3 : s3.oneCell' = true) :
    Calls Try.prog 22 #[.pointer (some ⟨R, 0, none⟩), .agg #[s0, s1, s2, s3]] w fun e w' => e = .returned (.tuple #[]) ∧ Added w w' R base ops obj (wrap64 (fo + 1)) co va cs (n + 1) (xs ++ [s0, s1, s2, s3]) := by
  have hlt : R < w.heap.size := (Array.getElem?_eq_some_iff.1 hR).1
  have hR1 : (w.alloc (.cells #[s0, s1, s2, s3] 39)).heap[R]? = some (.cells #[.int .i64 ops, .int .i64 obj, .bool co, va, cs, .int .i64 fo] 42 (0, 0)) := (Below.heap_alloc _ _ _ hlt).trans hR
  have HR := hide hR1
  have hown1 := hown.alloc (.cells #[s0, s1, s2, s3] 39)
  clear hR hR1 hown
  go_enter Try.func22, Try.ntmps22
  go_wp2_with fail
  refine (add_list R base ops obj fo co va cs s0 s1 s2 s3 ao n cap xs _ hva hn HR hown1 (by simp; omega) o0 o1 o2 o3).mono ?_
  rintro e w' ⟨rfl, hadd⟩
  go_wp2
  go_end0
  obtain ⟨g, cp, h1, h2, h3⟩ := hadd
  exact ⟨rfl, g, cp, h1, h2, by subst hva; exact h3.of_alloc⟩
end Go.Proofs.Qxb6600486a

import Derived.Test.Qxb6600486aAdd
import Derived.OpenShut
namespace Go.Proofs.Qxb6600486a
set_option linter.unusedVariables false
open Go.RowKit

/-! The list of violations: the first P preset, the rest added. -/
def sPreset : Value := .string { data := #[112, 114, 101, 115, 101, 116] }
def sPo : Value := .string { data := #[112, 111] }
def sPm : Value := .string { data := #[112, 109] }
def sAdded : Value := .string { data := #[97, 100, 100, 101, 100] }
def sO : Value := .string { data := #[111] }
def sM : Value := .string { data := #[109] }

def ent (P : Nat) (j b : Nat) : List Value :=
  if j < P then [.string { data := #[112, 114, 101, 115, 101, 116] }, .string { data := #[112, 111] }, .slice (some ⟨b, 0, none⟩) 2 2, .string { data := #[112, 109] }]
  else [.string { data := #[97, 100, 100, 101, 100] }, .string { data := #[111] }, .slice (some ⟨b, 0, none⟩) 1 1, .string { data := #[109] }]
theorem ent_len (P j b : Nat) : (ent P j b).length = 4 := by unfold ent; split <;> rfl
def lineN (P j : Nat) : Nat := if j < P then 2 else 1
def line (P j i : Nat) : Int := if j < P then (if i = 0 then -1 - (j : Int) else j) else (j : Int) - P

def cellsTo (P : Nat) (L : Nat → Nat) : Nat → List Value
  | 0 => []
  | n + 1 => cellsTo P L n ++ ent P n (L n)

theorem cellsTo_congr (P : Nat) (L L' : Nat → Nat) : ∀ n, (∀ j, j < n → L j = L' j) → cellsTo P L n = cellsTo P L' n
  | 0, _ => rfl
  | n + 1, h => by rw [cellsTo, cellsTo, cellsTo_congr P L L' n (fun j hj => h j (by omega)), h n (by omega)]

theorem cellsTo_len (P : Nat) (L : Nat → Nat) : ∀ n, (cellsTo P L n).length = n * 4
  | 0 => rfl
  | n + 1 => by rw [cellsTo, List.length_append, cellsTo_len P L n, ent_len]; omega

theorem cellsTo_get (P : Nat) (L : Nat → Nat) : ∀ n j i, j < n → i < 4 → (cellsTo P L n)[j * 4 + i]? = (ent P j (L j))[i]?
  | 0, _, _, h, _ => by omega
  | n + 1, j, i, h, hi => by
    rw [cellsTo]
    by_cases e : j = n
    · subst e
      rw [List.getElem?_append_right (by rw [cellsTo_len]; omega), cellsTo_len]
      congr 1; omega
    · rw [List.getElem?_append_left (by rw [cellsTo_len]; omega)]
      exact cellsTo_get P L n j i (by omega) hi

/-- The list v of n violations lies in w. -/
def Listed (w : World) (base P : Nat) (v : Value) (n : Nat) (L : Nat → Nat) : Prop :=
  w.ownsRow base 39 4 v n (cellsTo P L n) ∧ ∀ j, j < n → w.rowIs (L j) 3 (lineN P j) (fun i => .int .i64 (line P j i))

theorem rowIs_ne_own {w : World} {base n size : Nat} {v : Value} {xs : List Value} {b m : Nat} {f : Nat → Value} (h : w.ownsRow base 39 size v n xs) (hr : w.rowIs b 3 m f) : v.ownBlock ≠ some b := by
  obtain ⟨c, hb, _⟩ := hr
  exact own_ne h hb

theorem Listed.step {w w1 : World} {base P : Nat} {v v' : Value} {n b : Nat} {L : Nat → Nat} (h : Listed w base P v n L)
    (hkeep : ∀ k, k < w.heap.size → some k ≠ v.ownBlock → ∀ m f, w.rowIs k 3 m f → w1.heap[k]? = w.heap[k]?) (hb : w1.rowIs b 3 (lineN P n) (fun i => .int .i64 (line P n i)))
    (hown : w1.ownsRow base 39 4 v' (n + 1) (cellsTo P L n ++ ent P n b)) : Listed w1 base P v' (n + 1) (fun j => if j = n then b else L j) := by
  refine ⟨?_, fun j hj => ?_⟩
  · rw [cellsTo, cellsTo_congr P _ L n (fun j hj => if_neg (by omega)), if_pos rfl]
    exact hown
  · by_cases e : j = n
    · subst e; simpa using hb
    · simp only [if_neg e]
      have hr := h.2 j (by omega)
      exact hr.of_block (hkeep _ hr.lt (Ne.symm (rowIs_ne_own h.1 hr)) _ _ hr)

theorem Listed.kept {w w1 : World} {base P : Nat} {v : Value} {n : Nat} {L : Nat → Nat} (h : Listed w base P v n L)
    (hkeep : ∀ (k : Nat) (c : Array Value) (t : TypeId) (fr : Nat × Nat), t ≠ 42 → w.heap[k]? = some (Obj.cells c t fr) → w1.heap[k]? = w.heap[k]?) : Listed w1 base P v n L := by
  refine ⟨?_, fun j hj => ?_⟩
  · obtain ⟨h1, h2⟩ := h.1
    refine ⟨h1, ?_⟩
    rcases h2 with h2 | ⟨g, cap, cur, hv, hg, hh, r⟩
    · exact Or.inl h2
    · exact Or.inr ⟨g, cap, cur, hv, hg, (hkeep _ _ 39 _ (by decide) hh).trans hh, r⟩
  · have hr := h.2 j hj
    obtain ⟨c, hb, _⟩ := h.2 j hj
    exact hr.of_block (hkeep _ _ 3 _ (by decide) hb)


theorem heap_alloc_at (w : World) (o : Obj) : (w.alloc o).heap[w.heap.size]? = some o := heap_alloc_new w o

theorem preset_step {wr w1 : World} {base P k : Nat} {va v' : Value} {L : Nat → Nat} {o : Obj} (hk : k < P) (hL : Listed wr base P va k L)
    (hown : w1.ownsRow base 39 4 v' (k + 1) (cellsTo P L k ++ [.string { data := #[112, 114, 101, 115, 101, 116] }, .string { data := #[112, 111] }, .slice (some ⟨wr.heap.size, 0, none⟩) 2 2, .string { data := #[112, 109] }]))
    (hgrow : ((wr.alloc (.cells #[.int .i64 (-1 - (k : Int)), .int .i64 k] 3)).alloc o).grownBy w1 va.ownBlock) :
    Listed w1 base P v' (k + 1) (fun j => if j = k then wr.heap.size else L j) := by
  have hne : va.ownBlock ≠ some wr.heap.size := fun h => by have := (hL.1.lt _ h).2; omega
  refine hL.step (fun b hb hbn m f _ => ?_) ?_ ?_
  · rw [hgrow.block b (by simp; omega) hbn, Below.heap_alloc _ _ _ (by simp; omega), Below.heap_alloc _ _ _ hb]
  · refine ⟨#[.int .i64 (-1 - (k : Int)), .int .i64 k], ?_, by simp [lineN, hk], fun i hi => ?_⟩
    · rw [hgrow.block _ (by simp; omega) (Ne.symm hne), Below.heap_alloc _ _ _ (by simp), heap_alloc_at]
    · simp only [lineN, if_pos hk] at hi
      match i, hi with
      | 0, _ => simp [line, hk]
      | 1, _ => simp [line, hk]
  · have e : ent P k wr.heap.size = [.string { data := #[112, 114, 101, 115, 101, 116] }, .string { data := #[112, 111] }, .slice (some ⟨wr.heap.size, 0, none⟩) 2 2, .string { data := #[112, 109] }] := by
      simp [ent, hk]
    rw [e]; exact hown

theorem rowIs_ne_rep {w : World} {R b m : Nat} {f : Nat → Value} {c : Array Value} {fr : Nat × Nat} (hR : w.heap[R]? = some (.cells c 42 fr)) (hr : w.rowIs b 3 m f) : b ≠ R := by
  rintro rfl
  obtain ⟨c', hb, _⟩ := hr
  rw [hR] at hb
  simp at hb

theorem add_step {wr w1 : World} {B P n j R : Nat} {va v' : Value} {L : Nat → Nat} {c : Array Value} {fr : Nat × Nat} (hn : n = P + j) (hL : Listed wr B P va n L) (hR : wr.heap[R]? = some (.cells c 42 fr))
    (hown : w1.ownsRow B 39 4 v' (n + 1) (cellsTo P L n ++ [.string { data := #[97, 100, 100, 101, 100] }, .string { data := #[111] }, .slice (some ⟨wr.heap.size, 0, none⟩) 1 1, .string { data := #[109] }]))
    (hk : Kept2 (wr.alloc (.cells #[.int .i64 j] 3)) w1 R va.ownBlock) :
    Listed w1 B P v' (n + 1) (fun j => if j = n then wr.heap.size else L j) := by
  have hne : va.ownBlock ≠ some wr.heap.size := fun h => by have := (hL.1.lt _ h).2; omega
  have hlt : R < wr.heap.size := (Array.getElem?_eq_some_iff.1 hR).1
  have hnP : ¬ n < P := by omega
  refine hL.step (fun b hb hbn m f hr => ?_) ?_ ?_
  · rw [hk.block b (by simp; omega) (rowIs_ne_rep hR hr) hbn, Below.heap_alloc _ _ _ hb]
  · refine ⟨#[.int .i64 (j : Int)], ?_, by simp [lineN, hnP], fun i hi => ?_⟩
    · rw [hk.block _ (by simp) (by omega) (Ne.symm hne), heap_alloc_at]
    · simp only [lineN, if_neg hnP] at hi
      match i, hi with
      | 0, _ => simp [line, hn]; omega
  · have e : ent P n wr.heap.size = [.string { data := #[97, 100, 100, 101, 100] }, .string { data := #[111] }, .slice (some ⟨wr.heap.size, 0, none⟩) 1 1, .string { data := #[109] }] := by
      simp [ent, hnP]
    rw [e]; exact hown

theorem ints_kept2 {w w1 : World} {a : Option Addr} {n c : Nat} {f : Nat → Int} {o : Obj} {R : Nat} {row : Option Nat} {cc : Array Value} {fr : Nat × Nat} (h : Ints w a n c f) (hR : w.heap[R]? = some (.cells cc 42 fr)) (hrow : ∀ b m f, w.rowIs b 3 m f → row ≠ some b) (hk : Kept2 (w.alloc o) w1 R row) : Ints w1 a n c f :=
  h.kept fun b _ hr => by
    have := hr.lt
    rw [hk.block b (by simp; omega) (rowIs_ne_rep hR hr) (Ne.symm (hrow _ _ _ hr)), Below.heap_alloc _ _ _ hr.lt]

theorem listed_kept2 {w w1 : World} {base P : Nat} {v : Value} {n : Nat} {L : Nat → Nat} {o : Obj} {R : Nat} {cc : Array Value} {fr : Nat × Nat} (h : Listed w base P v n L) (hR : w.heap[R]? = some (.cells cc 42 fr)) (hk : Kept2 (w.alloc o) w1 R none) : Listed w1 base P v n L :=
  h.kept fun k c t fr ht hc => by
    have hlt : k < w.heap.size := (Array.getElem?_eq_some_iff.1 hc).1
    rw [hk.block k (by simp; omega) (fun e => by subst e; rw [hR] at hc; simp at hc; exact ht hc.2.1.symm) (by simp), Below.heap_alloc _ _ _ hlt]

theorem below_kept2 {B : Nat} {w0 w w1 : World} {o : Obj} {R : Nat} {row : Option Nat} (h : Below B w0 w) (hB : B ≤ w.heap.size) (hR : B ≤ R) (hrow : ∀ k, row = some k → B ≤ k) (hk : Kept2 (w.alloc o) w1 R row) : Below B w0 w1 :=
  (h.alloc hB o).trans ⟨hk.os, hk.tape, hk.output, hk.size, fun k hkB => hk.block k (by simp; omega) (by omega) (fun e => by have := hrow k e.symm; omega)⟩

theorem listed_below {w w1 : World} {base P : Nat} {v : Value} {n : Nat} {L : Nat → Nat} (h : Listed w base P v n L) (hb : Below w.heap.size w w1) : Listed w1 base P v n L :=
  h.kept fun k c t fr _ hc => hb.block k (Array.getElem?_eq_some_iff.1 hc).1

theorem wrap_start (x : Int) (h : (Lit.int .i64 x).wf = true) : wrap64 (x + ((0 : Nat) : Int)) = x := by
  have := bounds_i64 h
  unfold wrap64; omega

theorem wrap_step (x : Int) (j : Nat) : wrap64 (wrap64 (x + (j : Int)) + 1) = wrap64 (x + ((j + 1 : Nat) : Int)) := by
  unfold wrap64; omega

/-- How many are listed after j calls. -/
def nl (P j : Nat) : Nat := if P < 100 then min (P + j) 100 else P

theorem nl_lt {P j : Nat} (h : nl P j < 100) : nl P j = P + j ∧ nl P (j + 1) = nl P j + 1 := by
  unfold nl at *
  by_cases c : P < 100
  · rw [if_pos c] at h; rw [if_pos c, if_pos c]; omega
  · rw [if_neg c] at h; omega
theorem nl_full {P j : Nat} (h : ¬ nl P j < 100) : nl P (j + 1) = nl P j := by
  unfold nl at *
  by_cases c : P < 100
  · rw [if_pos c] at h; rw [if_pos c, if_pos c]; omega
  · rw [if_neg c, if_neg c]
theorem nl_le (P j : Nat) (hP : P ≤ 4096) : nl P j ≤ 4096 := by
  unfold nl; split <;> omega

theorem listed_form {w : World} {base P : Nat} {va : Option Addr} {n vc : Nat} {L : Nat → Nat} (h : Listed w base P (.slice va n vc) n L) : n = 0 ∨ ∃ g, va = some ⟨g, 0, none⟩ := by
  rcases h.1.2 with ⟨_, h0⟩ | ⟨g, cap, cur, hv, _⟩
  · exact .inl h0
  · simp at hv; exact .inr ⟨g, hv.1⟩

theorem listed_cell {w : World} {base P g : Nat} {n vc : Nat} {L : Nat → Nat} (h : Listed w base P (.slice (some ⟨g, 0, none⟩) n vc) n L) (j i : Nat) (hj : j < n) (hi : i < 4) : w.cell? ⟨g, j * 4 + i, none⟩ = (ent P j (L j))[i]? := by
  rw [h.1.cellAt (j * 4 + i) (by omega), cellsTo_get P L n j i hj hi]

theorem listed_lt {w : World} {base P g : Nat} {n vc : Nat} {L : Nat → Nat} (h : Listed w base P (.slice (some ⟨g, 0, none⟩) n vc) n L) : g < w.heap.size := (h.1.lt g rfl).2

theorem ints_grown {w w1 : World} {a : Option Addr} {n c : Nat} {f : Nat → Int} {o o' : Obj} {base : Nat} {m : Nat} {v : Value} {xs : List Value} (h : Ints w a n c f) (hown : w.ownsRow base 39 4 v m xs) (hgrow : ((w.alloc o).alloc o').grownBy w1 v.ownBlock) : Ints w1 a n c f :=
  h.kept fun b _ hr => by
    have := hr.lt
    rw [hgrow.block b (by simp; omega) (Ne.symm (rowIs_ne_own hown hr)), Below.heap_alloc _ _ _ (by simp; omega), Below.heap_alloc _ _ _ hr.lt]

theorem below_grown {B : Nat} {w0 w w1 : World} {o o' : Obj} {m : Nat} {v : Value} {xs : List Value} (h : Below B w0 w) (hB : B ≤ w.heap.size) (hown : w.ownsRow B 39 4 v m xs) (hgrow : ((w.alloc o).alloc o').grownBy w1 v.ownBlock) : Below B w0 w1 :=
  ((h.alloc hB o).alloc (by simp; omega) o').grown hgrow (by simp; omega) (fun k hk => (hown.lt k hk).1)

end Go.Proofs.Qxb6600486a

import Derived.Test.Qxb6603867aBase
import Derived.Test.Qxb6603867aModel
import Derived.Laws.Cover3
namespace Go.Proofs.Qxb6603867a
set_option linter.unusedVariables false
open Go.RowKit

theorem heap_setCell_in {w : World} {R : Nat} {c : Array Value} {t : TypeId} {fr : Nat × Nat} (i : Nat) (v : Value) (h : w.heap[R]? = some (.cells c t fr)) : (w.setCell ⟨R, i, none⟩ v).heap[R]? = some (.cells (c.setIfInBounds i v) t fr) := by
  simp [World.setCell, Array.getElem?_modify, h]

/-- All blocks below B are as they were, but the reduction's own, its counts and its flags. -/
structure Keep (B Rb eb fb : Nat) (w w' : World) : Prop where
  os : w'.os = w.os
  tape : w'.tape = w.tape
  output : w'.output = w.output
  size : w.heap.size ≤ w'.heap.size
  block : ∀ k, k < B → k ≠ Rb → k ≠ eb → k ≠ fb → w'.heap[k]? = w.heap[k]?

theorem Keep.refl (B Rb eb fb : Nat) (w : World) : Keep B Rb eb fb w w := ⟨rfl, rfl, rfl, Nat.le_refl _, fun _ _ _ _ _ => rfl⟩
theorem Keep.trans {B Rb eb fb : Nat} {w w1 w2 : World} (h : Keep B Rb eb fb w w1) (k : Keep B Rb eb fb w1 w2) : Keep B Rb eb fb w w2 :=
  ⟨k.os.trans h.os, k.tape.trans h.tape, k.output.trans h.output, Nat.le_trans h.size k.size, fun j a b c d => (k.block j a b c d).trans (h.block j a b c d)⟩
theorem Keep.cell {B Rb eb fb : Nat} {w w' : World} (h : Keep B Rb eb fb w w') {p : Addr} (h1 : p.block < B) (h2 : p.block ≠ Rb) (h3 : p.block ≠ eb) (h4 : p.block ≠ fb) : w'.cell? p = w.cell? p := World.cell?_of_block (w := w) (h.block _ h1 h2 h3 h4)
theorem Keep.drewN {B Rb eb fb : Nat} {w w' : World} (h : Keep B Rb eb fb w w') (n : Nat) : Keep B Rb eb fb w (w'.drewN n) := ⟨h.os, h.tape, h.output, h.size, h.block⟩
theorem Keep.drew {B Rb eb fb : Nat} {w w' : World} (h : Keep B Rb eb fb w w') : Keep B Rb eb fb w w'.drew := ⟨h.os, h.tape, h.output, h.size, h.block⟩
theorem Keep.setCell {B Rb eb fb : Nat} {w w' : World} (h : Keep B Rb eb fb w w') (a : Addr) (ha : B ≤ a.block ∨ a.block = Rb ∨ a.block = eb ∨ a.block = fb) (v : Value) : Keep B Rb eb fb w (w'.setCell a v) :=
  ⟨h.os, h.tape, h.output, by simp [World.setCell]; exact h.size, fun k h1 h2 h3 h4 => (Below.heap_setCell _ _ _ _ (by omega)).trans (h.block k h1 h2 h3 h4)⟩
theorem Keep.alloc {B Rb eb fb : Nat} {w w' : World} (h : Keep B Rb eb fb w w') (hB : B ≤ w'.heap.size) (o : Obj) : Keep B Rb eb fb w (w'.alloc o) :=
  ⟨h.os, h.tape, h.output, by simp; have := h.size; omega, fun k h1 h2 h3 h4 => (Below.heap_alloc _ _ _ (by omega)).trans (h.block k h1 h2 h3 h4)⟩

/-- The reduction's block. -/
def redAt (w : World) (Rb Sb eb db tot ab fb n m : Nat) (stk : Value) (rel : Nat) : Prop :=
  w.heap[Rb]? = some (.cells #[.pointer (some ⟨Sb, 0, none⟩), .slice (some ⟨eb, 0, none⟩) m m, .slice (some ⟨db, 0, none⟩) tot tot, .slice (some ⟨ab, 0, none⟩) (n + 1) (n + 1), .slice (some ⟨fb, 0, none⟩) n n, stk, .int .i64 rel, .bool false, .slice none 0 0, .slice none 0 0] 74 (0, 0))

theorem redAt.of_block {w w' : World} {Rb Sb eb db tot ab fb n m : Nat} {stk : Value} {rel : Nat} (h : redAt w Rb Sb eb db tot ab fb n m stk rel) (e : w'.heap[Rb]? = w.heap[Rb]?) : redAt w' Rb Sb eb db tot ab fb n m stk rel := e.trans h
theorem redAt.bump {w : World} {Rb Sb eb db tot ab fb n m : Nat} {stk : Value} {rel : Nat} (h : redAt w Rb Sb eb db tot ab fb n m stk rel) : redAt (w.setCell ⟨Rb, 6, none⟩ (.int .i64 ((rel : Nat) + 1))) Rb Sb eb db tot ab fb n m stk (rel + 1) := heap_setCell_in 6 _ h
theorem redAt.c5 {w : World} {Rb Sb eb db tot ab fb n m : Nat} {stk : Value} {rel : Nat} (h : redAt w Rb Sb eb db tot ab fb n m stk rel) : w.cell? ⟨Rb, 5, none⟩ = some stk := by simp [World.cell?, show w.heap[Rb]? = _ from h]
theorem redAt.fz {w : World} {Rb Sb eb db tot ab fb n m : Nat} {stk : Value} {rel : Nat} (h : redAt w Rb Sb eb db tot ab fb n m stk rel) (i : Nat) : w.frozen? ⟨Rb, i, none⟩ = false := by simp [World.frozen?, show w.heap[Rb]? = _ from h]
theorem redAt.lt {w : World} {Rb Sb eb db tot ab fb n m : Nat} {stk : Value} {rel : Nat} (h : redAt w Rb Sb eb db tot ab fb n m stk rel) : Rb < w.heap.size := (Array.getElem?_eq_some_iff.1 h).1
theorem redAt.setStk {w : World} {Rb Sb eb db tot ab fb n m : Nat} {stk : Value} {rel : Nat} (h : redAt w Rb Sb eb db tot ab fb n m stk rel) (v : Value) : redAt (w.setCell ⟨Rb, 5, none⟩ v) Rb Sb eb db tot ab fb n m v rel := heap_setCell_in 5 _ h

/-- The numbers of the stack. -/
def ints (stk : List Nat) : List Value := stk.map fun p : Nat => .int .i32 (p : Int)

/-- The reduction's state in the world w, seen from the world W. -/
structure St (B Rb Sb eb db ab fb n m tot : Nat) (W : World) (need : Nat → Nat) (free : Nat → Bool) (stk : List Nat) (w : World) : Prop where
  keep : Keep B Rb eb fb W w
  red : ∃ a cap, redAt w Rb Sb eb db tot ab fb n m (.slice a stk.length cap) (Pl.tr free n) ∧ w.ownsRow B 21 1 (.slice a stk.length cap) stk.length (ints stk)
  need : w.rowIs eb 21 m (fun x => .int .i32 (need x : Nat))
  free : w.rowIs fb 4 n (fun p => .bool (free p))
  size : B ≤ w.heap.size

/-- The blocks of the reduction are apart. -/
def Apart (B Rb eb fb : Nat) : Prop := Rb < B ∧ eb < B ∧ fb < B ∧ Rb ≠ eb ∧ Rb ≠ fb ∧ eb ≠ fb

theorem tr_ins (f : Nat → Bool) (p : Nat) (hp : f p = false) : ∀ t, Pl.tr (Pl.ins f p) t = Pl.tr f t + if p < t then 1 else 0
  | 0 => rfl
  | t + 1 => by
    rw [Pl.tr, Pl.tr, tr_ins f p hp t]
    by_cases e : t = p
    · subst e; rw [Pl.ins_self, hp]; simp
    · rw [Pl.ins_ne f p t e]
      have : (p < t + 1) ↔ p < t := by omega
      simp only [this]; omega

theorem ownsRow_setCell_ne {w : World} {base : Nat} {e : TypeId} {size : Nat} {v : Value} {n : Nat} {xs : List Value} (h : w.ownsRow base e size v n xs) {a : Addr} (ha : v.ownBlock ≠ some a.block) (u : Value) : (w.setCell a u).ownsRow base e size v n xs := by
  obtain ⟨h1, h2⟩ := h
  refine ⟨h1, ?_⟩
  rcases h2 with h2 | ⟨g, cap, cur, hv, hg, hh, r⟩
  · exact Or.inl h2
  · refine Or.inr ⟨g, cap, cur, hv, hg, ?_, r⟩
    rw [Below.heap_setCell _ _ _ _ (by subst hv; intro e; apply ha; simp [Value.ownBlock, e])]; exact hh

theorem new_one {k : Nat} (w : World) (p : Int) (hk : k = w.heap.size) : ∀ j u, ([.int .i32 p] : List Value)[j]? = some u → (w.alloc (.cells #[.int .i32 p] 21)).cell? ((⟨k, 0, none⟩ : Addr).add j) = some u := by
  subst hk
  intro j u hj
  match j, hj with
  | 0, hj => simp at hj; subst hj; rw [add_none]; simp

section
variable {B Rb Sb eb db ab fb n m tot : Nat} {W : World} {need : Nat → Nat} {free : Nat → Bool} {stk : List Nat}

set_option maxRecDepth 100000 in
set_option maxHeartbeats 800000 in
theorem release_known (p : Nat) (w : World) (hn : n ≤ 1048576) (hp : p < n) (h : St B Rb Sb eb db ab fb n m tot W need free stk w) (hf : free p = true) :
    Calls Try.prog 34 #[.pointer (some ⟨Rb, 0, none⟩), .int .i32 p] w fun e w' => e = .returned (.tuple #[]) ∧ w = w' := by
  obtain ⟨a, cap, hred, _⟩ := h.red
  have c4 : w.cell? ⟨Rb, 4, none⟩ = some (.slice (some ⟨fb, 0, none⟩) n n) := by simp [World.cell?, show w.heap[Rb]? = _ from hred]
  have cf := h.free.cell hp
  rw [hf] at cf
  clear h hf hred
  go_enter Try.func34, Try.ntmps34
  go_wp2_with fail
  refine bodyPost_ret (results_none rfl _ _ _) rfl ?_
  exact ⟨rfl, rfl⟩

theorem ints_snoc (s : List Nat) (p : Nat) : ints (s ++ [p]) = ints s ++ [.int .i32 p] := by simp [ints]

theorem push_done {w w1 : World} {p g cp : Nat} {a : Option Addr} {cap : Nat} {o : Obj} (hap : Apart B Rb eb fb) (h : St B Rb Sb eb db ab fb n m tot W need free stk w) (hred : redAt w Rb Sb eb db tot ab fb n m (.slice a stk.length cap) (Pl.tr free n)) (hf : free p = false) (hp : p < n)
    (how : w1.ownsRow B 21 1 (.slice (some ⟨g, 0, none⟩) (stk.length + 1) cp) (stk.length + 1) (ints stk ++ [.int .i32 p]))
    (hg : (((w.setCell ⟨fb, p, none⟩ (.bool true)).setCell ⟨Rb, 6, none⟩ (.int .i64 ((Pl.tr free n : Nat) + 1))).alloc o).grownBy w1 (Value.slice a stk.length cap).ownBlock) (hne : (Value.slice a stk.length cap).ownBlock ≠ some Rb) :
    St B Rb Sb eb db ab fb n m tot W need (Pl.ins free p) (stk ++ [p]) (w1.setCell ⟨Rb, 5, none⟩ (.slice (some ⟨g, 0, none⟩) (stk.length + 1) cp)) := by
  obtain ⟨ha1, ha2, ha3, ha4, ha5, ha6⟩ := hap
  have hs := h.size
  have e1 : ∀ k, k < w.heap.size → k ≠ Rb → k ≠ fb → some k ≠ (Value.slice a stk.length cap).ownBlock → w1.heap[k]? = w.heap[k]? := fun k hk h1 h2 h3 => by
    rw [hg.block k (by simp; omega) h3, Below.heap_alloc _ _ _ (by simp; omega), Below.heap_setCell _ _ _ _ (by simpa using h1), Below.heap_setCell _ _ _ _ (by simpa using h2)]
  obtain ⟨a0, cap0, hred0, hown0⟩ := h.red
  have ee : (Value.slice a stk.length cap) = .slice a0 stk.length cap0 := by have := hred.c5.symm.trans hred0.c5; simpa using this
  have hown : w.ownsRow B 21 1 (.slice a stk.length cap) stk.length (ints stk) := by rw [ee]; exact hown0
  have hrow : ∀ k, (Value.slice a stk.length cap).ownBlock = some k → B ≤ k := fun k hk => (hown.lt k hk).1
  have hrow' : ∀ k, k < B → some k ≠ (Value.slice a stk.length cap).ownBlock := fun k hk e => by have := hrow k e.symm; omega
  have hr2 : redAt w1 Rb Sb eb db tot ab fb n m (.slice a stk.length cap) (Pl.tr free n + 1) :=
    ((hred.of_block (Below.heap_setCell w ⟨fb, p, none⟩ (.bool true) Rb (by simpa using ha5))).bump).of_block (by
      rw [hg.block Rb (by simp; omega) (hrow' _ ha1), Below.heap_alloc _ _ _ (by simp; omega)])
  refine ⟨?_, ⟨some ⟨g, 0, none⟩, cp, ?_, ?_⟩, ?_, ?_, ?_⟩
  · refine Keep.setCell (h.keep.trans ⟨hg.os, hg.tape, hg.output, ?_, fun k h1 h2 h3 h4 => e1 k (by omega) h2 h4 (hrow' k h1)⟩) _ (.inr (.inl rfl)) _
    have := hg.size; simp at this; omega
  · rw [tr_ins free p hf n, if_pos hp, List.length_append]
    exact hr2.setStk _
  · rw [List.length_append, ints_snoc]
    exact ownsRow_setCell_below how (a := ⟨Rb, 5, none⟩) ha1 _
  · exact (h.need.of_block (e1 eb (by omega) (Ne.symm ha4) ha6 (hrow' eb ha2))).setOther (by simpa using Ne.symm ha4) _
  · have h1 := ((h.free.set p (.bool true)).setOther (a := ⟨Rb, 6, none⟩) (by simpa using Ne.symm ha5) (.int .i64 ((Pl.tr free n : Nat) + 1))).alloc o
    refine ((h1.of_block (hg.block fb (by simp; omega) (hrow' fb ha3))).setOther (by simpa using Ne.symm ha5) _).congr (fun j hj => ?_)
    unfold Pl.ins
    split <;> rfl
  · have := hg.size; simp [World.setCell] at this ⊢; omega

set_option maxRecDepth 100000 in
set_option maxHeartbeats 1600000 in
theorem release_push (p : Nat) (w : World) (hn : n ≤ 1048576) (hp : p < n) (hap : Apart B Rb eb fb) (h : St B Rb Sb eb db ab fb n m tot W need free stk w) (hl : stk.length ≤ 1048576) (hf : free p = false) :
    Calls Try.prog 34 #[.pointer (some ⟨Rb, 0, none⟩), .int .i32 p] w fun e w' => e = .returned (.tuple #[]) ∧ St B Rb Sb eb db ab fb n m tot W need (Pl.ins free p) (stk ++ [p]) w' := by
  obtain ⟨a, cap, hred, hown⟩ := h.red
  have c4 : w.cell? ⟨Rb, 4, none⟩ = some (.slice (some ⟨fb, 0, none⟩) n n) := by simp [World.cell?, show w.heap[Rb]? = _ from hred]
  have c5 : w.cell? ⟨Rb, 5, none⟩ = some (.slice a stk.length cap) := by simp [World.cell?, show w.heap[Rb]? = _ from hred]
  have c6 : w.cell? ⟨Rb, 6, none⟩ = some (.int .i64 (Pl.tr free n : Nat)) := by simp [World.cell?, show w.heap[Rb]? = _ from hred]
  have c7 : w.cell? ⟨Rb, 7, none⟩ = some (.bool false) := by simp [World.cell?, show w.heap[Rb]? = _ from hred]
  have c9 : w.cell? ⟨Rb, 9, none⟩ = some (.slice none 0 0) := by simp [World.cell?, show w.heap[Rb]? = _ from hred]
  have f5 : w.frozen? ⟨Rb, 5, none⟩ = false := by simp [World.frozen?, show w.heap[Rb]? = _ from hred]
  have f6 : w.frozen? ⟨Rb, 6, none⟩ = false := by simp [World.frozen?, show w.heap[Rb]? = _ from hred]
  have cf := h.free.cell hp
  have ff := h.free.frozen p
  rw [hf] at cf
  have htr := Pl.tr_le free n
  obtain ⟨ha1, ha2, ha3, ha4, ha5, ha6⟩ := hap
  obtain ⟨i0, hi, hz0, hz1, hz2⟩ := info_parts info21
  have q := run_neq_slice_nil (P := Try.prog) w 29 4 none 0 0 Try.underlying29
  have H := hide h
  have HF := hide hf
  have HR := hide hred
  have hsz := h.size
  have hown1 := ((ownsRow_setCell_below hown (a := ⟨fb, p, none⟩) ha3 (.bool true)))
  have hown2 := ((ownsRow_setCell_below hown1 (a := ⟨Rb, 6, none⟩) ha1 (.int .i64 ((Pl.tr free n : Nat) + 1))))
  have hne : (Value.slice a stk.length cap).ownBlock ≠ some Rb := fun e => by have := (hown.lt _ e).1; omega
  have hred2 := (hred.of_block (Below.heap_setCell w ⟨fb, p, none⟩ (.bool true) Rb (by simpa using ha5))).bump
  have HC5 : ∀ o, (((w.setCell ⟨fb, p, none⟩ (.bool true)).setCell ⟨Rb, 6, none⟩ (.int .i64 ((Pl.tr free n : Nat) + 1))).alloc o).cell? ⟨Rb, 5, none⟩ = some (.slice a stk.length cap) := fun o => by
    rw [World.cell?_alloc_past _ _ _ (by simp; omega)]; exact hred2.c5
  have HF5 : ∀ o, (((w.setCell ⟨fb, p, none⟩ (.bool true)).setCell ⟨Rb, 6, none⟩ (.int .i64 ((Pl.tr free n : Nat) + 1))).alloc o).frozen? ⟨Rb, 5, none⟩ = false := fun o => by
    rw [World.frozen?_alloc_past _ _ _ (by simp; omega)]; exact hred2.fz 5
  clear h hf hred hred2
  go_enter Try.func34, Try.ntmps34
  go_wp2_with (at_builtin; refine wpList_append_lies _ rfl _ _ 22 rfl B 21 i0 (.int .i32 0) 1 4 Try.underlying22 hi hz0 hz1 hz2 rfl (by decide) (.slice a stk.length cap) stk.length (ints stk) rfl (World.ownsRow.alloc hown2 _) ⟨w.heap.size, 0, none⟩ 1 1 [.int .i32 p] rfl rfl (new_one _ p (by simp)) (ints_oneCell .i32 [(p : Int)]) (by omega) (by unfold maxLen; omega) (by omega) (by simp; omega) (w.heap.size + 1) (by simp) ?_; intro g cp w1 how1 hgrow hat hlt1; have hb1 := hgrow.block Rb (by simp; omega) (Ne.symm hne); have k5 : w1.cell? ⟨Rb, 5, none⟩ = some (.slice a stk.length cap) := (World.cell?_of_block hb1).trans (HC5 _); have kf : w1.frozen? ⟨Rb, 5, none⟩ = false := (World.frozen?_of_block hb1).trans (HF5 _); have HG := hide hgrow; have HB := hide hb1; clear hgrow hb1)
  go_end0
  exact ⟨rfl, push_done ⟨ha1, ha2, ha3, ha4, ha5, ha6⟩ (unhide H) (unhide HR) (unhide HF) hp how1 (unhide HG) hne⟩
end
end Go.Proofs.Qxb6603867a

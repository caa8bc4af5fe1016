import Derived.Test.Qxb6603867aSettle
import Derived.Test.Qxb6603867aIndex
import Derived.Test.Qxb6603867aHeld
namespace Go.Proofs.Qxb6603867a
set_option linter.unusedVariables false
open Go.RowKit

/-- The reduction is made. -/
def Made (w : World) (Sb n m : Nat) (need : Nat → Nat) (at_ : Nat → Nat) (Rb eb ab fb : Nat) (wx : World) : Prop :=
  rawAt wx Rb Sb eb ab fb n m (.slice none 0 0) ∧ wx.rowIs eb 21 m (fun x => .int .i32 (need x : Nat)) ∧ wx.rowIs ab 21 (n + 1) (fun p => .int .i32 (at_ p : Nat)) ∧ wx.rowIs fb 4 n (fun _ => .bool false) ∧
    w.heap.size ≤ Rb ∧ w.heap.size ≤ eb ∧ w.heap.size ≤ ab ∧ w.heap.size ≤ fb ∧ Rb ≠ eb ∧ Rb ≠ ab ∧ Rb ≠ fb ∧ eb ≠ ab ∧ eb ≠ fb ∧ ab ≠ fb ∧ Below w.heap.size w wx

theorem a3 (w : World) (o0 o1 o2 o3 : Obj) : ((((w.alloc o0).alloc o1).alloc o2).alloc o3).heap[w.heap.size + 1 + 1 + 1]? = some o3 := by
  rw [show w.heap.size + 1 + 1 + 1 = (((w.alloc o0).alloc o1).alloc o2).heap.size by simp]; exact heap_alloc_new _ _
theorem a2 (w : World) (o0 o1 o2 o3 : Obj) : ((((w.alloc o0).alloc o1).alloc o2).alloc o3).heap[w.heap.size + 1 + 1]? = some o2 := by
  rw [Below.heap_alloc _ _ _ (by simp), show w.heap.size + 1 + 1 = ((w.alloc o0).alloc o1).heap.size by simp]; exact heap_alloc_new _ _
theorem a1 (w : World) (o0 o1 o2 o3 : Obj) : ((((w.alloc o0).alloc o1).alloc o2).alloc o3).heap[w.heap.size + 1]? = some o1 := by
  rw [Below.heap_alloc _ _ _ (by simp), Below.heap_alloc _ _ _ (by simp), show w.heap.size + 1 = (w.alloc o0).heap.size by simp]; exact heap_alloc_new _ _
theorem a0 (w : World) (o0 o1 o2 o3 : Obj) : ((((w.alloc o0).alloc o1).alloc o2).alloc o3).heap[w.heap.size]? = some o0 := by
  rw [Below.heap_alloc _ _ _ (by simp; omega), Below.heap_alloc _ _ _ (by simp; omega), Below.heap_alloc _ _ _ (by simp)]; exact heap_alloc_new _ _
theorem bel4 (w : World) (o0 o1 o2 o3 : Obj) : Below w.heap.size w ((((w.alloc o0).alloc o1).alloc o2).alloc o3).drew :=
  (((((Below.refl _ _).alloc (Nat.le_refl _) _).alloc (by simp) _).alloc (by simp; omega) _).alloc (by simp; omega) _).drew
theorem madeRow {W : World} {b : Nat} {z : Value} {n : Nat} {t : TypeId} (h : W.heap[b]? = some (.cells (madeCells #[z] n) t (0, 0))) : W.rowIs b t n (fun _ => z) := ⟨_, h, size_madeCells _ _, fun i hi => by simp [madeCells, hi, Nat.mod_one]⟩

theorem made_mk {w W : World} {Sb n m Rb eb ab fb : Nat} (hr : rawAt W Rb Sb eb ab fb n m (.slice none 0 0)) (he : W.heap[eb]? = some (.cells (madeCells #[.int .i32 0] m) 21 (0, 0))) (ha : W.heap[ab]? = some (.cells (madeCells #[.int .i32 0] (n + 1)) 21 (0, 0))) (hf : W.heap[fb]? = some (.cells (madeCells #[.bool false] n) 4 (0, 0)))
    (h1 : w.heap.size ≤ Rb) (h2 : w.heap.size ≤ eb) (h3 : w.heap.size ≤ ab) (h4 : w.heap.size ≤ fb) (h5 : Rb ≠ eb) (h6 : Rb ≠ ab) (h7 : Rb ≠ fb) (h8 : eb ≠ ab) (h9 : eb ≠ fb) (h10 : ab ≠ fb) (hb : Below w.heap.size w W) : Made w Sb n m (fun _ => 0) (fun _ => 0) Rb eb ab fb W :=
  ⟨hr, madeRow he, madeRow ha, madeRow hf, h1, h2, h3, h4, h5, h6, h7, h8, h9, h10, hb⟩

theorem rawAt.c1 {w : World} {Rb Sb eb ab fb n m : Nat} {nmv : Value} (h : rawAt w Rb Sb eb ab fb n m nmv) : w.cell? ⟨Rb, 1, none⟩ = some (.slice (some ⟨eb, 0, none⟩) m m) := by simp [World.cell?, show w.heap[Rb]? = _ from h]

section
variable {w wr : World} {Sb n m Rb eb ab fb : Nat} {need at_ : Nat → Nat}

theorem Made.alloc (h : Made w Sb n m need at_ Rb eb ab fb wr) (o : Obj) : Made w Sb n m need at_ Rb eb ab fb (wr.alloc o) := by
  obtain ⟨h1, h2, h3, h4, i1, i2, i3, i4, d1, d2, d3, d4, d5, d6, hb⟩ := h
  exact ⟨h1.of_block (Below.heap_alloc _ _ _ h1.lt), h2.alloc _, h3.alloc _, h4.alloc _, i1, i2, i3, i4, d1, d2, d3, d4, d5, d6, hb.alloc hb.size _⟩

theorem Made.congr {need' at' : Nat → Nat} (h : Made w Sb n m need at_ Rb eb ab fb wr) (hn : ∀ x, x < m → need x = need' x) (ha : ∀ p, p < n + 1 → at_ p = at' p) : Made w Sb n m need' at' Rb eb ab fb wr := by
  obtain ⟨h1, h2, h3, r⟩ := h
  exact ⟨h1, h2.congr (fun x hx => by rw [hn x hx]), h3.congr (fun p hp => by rw [ha p hp]), r⟩

theorem Made.setAt (h : Made w Sb n m need at_ Rb eb ab fb wr) (z k : Nat) : Made w Sb n m need (Pl.setN at_ z k) Rb eb ab fb (wr.setCell ⟨ab, z, none⟩ (.int .i32 (k : Nat))) := by
  obtain ⟨h1, h2, h3, h4, i1, i2, i3, i4, d1, d2, d3, d4, d5, d6, hb⟩ := h
  exact ⟨h1.of_block (Below.heap_setCell _ _ _ _ (by simpa using d2)), h2.setOther (by simpa using d4) _, (h3.set z _).congr (fun p hp => by unfold Pl.setN; split <;> rfl), h4.setOther (by simpa using Ne.symm d6) _, i1, i2, i3, i4, d1, d2, d3, d4, d5, d6, hb.setCell i3 _⟩

theorem Made.setNeed (h : Made w Sb n m need at_ Rb eb ab fb wr) (z k : Nat) : Made w Sb n m (Pl.setN need z k) at_ Rb eb ab fb (wr.setCell ⟨eb, z, none⟩ (.int .i32 (k : Nat))) := by
  obtain ⟨h1, h2, h3, h4, i1, i2, i3, i4, d1, d2, d3, d4, d5, d6, hb⟩ := h
  exact ⟨h1.of_block (Below.heap_setCell _ _ _ _ (by simpa using d1)), (h2.set z _).congr (fun p hp => by unfold Pl.setN; split <;> rfl), h3.setOther (by simpa using Ne.symm d4) _, h4.setOther (by simpa using Ne.symm d5) _, i1, i2, i3, i4, d1, d2, d3, d4, d5, d6, hb.setCell i2 _⟩

theorem Made.below (h : Made w Sb n m need at_ Rb eb ab fb wr) : Below w.heap.size w wr := h.2.2.2.2.2.2.2.2.2.2.2.2.2.2
theorem Made.bounds (h : Made w Sb n m need at_ Rb eb ab fb wr) : Rb < wr.heap.size ∧ eb < wr.heap.size ∧ ab < wr.heap.size ∧ fb < wr.heap.size ∧ Rb ≠ eb ∧ Rb ≠ ab ∧ eb ≠ ab ∧ w.heap.size ≤ wr.heap.size ∧ (w.heap.size ≤ Rb ∧ w.heap.size ≤ eb ∧ w.heap.size ≤ ab ∧ w.heap.size ≤ fb ∧ Rb ≠ fb ∧ eb ≠ fb ∧ ab ≠ fb) := by
  obtain ⟨h1, h2, h3, h4, i1, i2, i3, i4, d1, d2, d3, d4, d5, d6, hb⟩ := h
  exact ⟨h1.lt, h2.lt, h3.lt, h4.lt, d1, d2, d4, hb.size, i1, i2, i3, i4, d3, d5, d6⟩

theorem Made.drew (h : Made w Sb n m need at_ Rb eb ab fb wr) : Made w Sb n m need at_ Rb eb ab fb wr.drew := by
  obtain ⟨h1, h2, h3, h4, i1, i2, i3, i4, d1, d2, d3, d4, d5, d6, hb⟩ := h
  exact ⟨h1, h2, h3, h4, i1, i2, i3, i4, d1, d2, d3, d4, d5, d6, hb.drew⟩

/-- Behind an append to a row of the call's own. -/
theorem Made.grown {w1 : World} {row : Option Nat} (h : Made w Sb n m need at_ Rb eb ab fb wr) (hg : wr.grownBy w1 row) (hr : ∀ k, row = some k → k ≠ Rb ∧ k ≠ eb ∧ k ≠ ab ∧ k ≠ fb ∧ w.heap.size ≤ k) : Made w Sb n m need at_ Rb eb ab fb w1 := by
  obtain ⟨h1, h2, h3, h4, i1, i2, i3, i4, d1, d2, d3, d4, d5, d6, hb⟩ := h
  refine ⟨h1.of_block (hg.block Rb h1.lt (fun e => (hr Rb e.symm).1 rfl)), h2.of_block (hg.block eb h2.lt (fun e => (hr eb e.symm).2.1 rfl)), h3.of_block (hg.block ab h3.lt (fun e => (hr ab e.symm).2.2.1 rfl)), h4.of_block (hg.block fb h4.lt (fun e => (hr fb e.symm).2.2.2.1 rfl)), i1, i2, i3, i4, d1, d2, d3, d4, d5, d6, hb.grown hg hb.size (fun k hk => (hr k hk).2.2.2.2)⟩
end

/-- The nodes among the first t that need none. -/
def emp (v : Nat → Int) : Nat → List Nat
  | 0 => []
  | t + 1 => emp v t ++ if v t = -1 then [t] else []

theorem emp_mem (v : Nat → Int) : ∀ t x, x ∈ emp v t ↔ x < t ∧ v x = -1
  | 0, x => by simp [emp]
  | t + 1, x => by
    rw [emp, List.mem_append, emp_mem v t x]
    by_cases h : v t = -1
    · rw [if_pos h]
      constructor
      · rintro (⟨a, b⟩ | a)
        · exact ⟨by omega, b⟩
        · simp at a; subst a; exact ⟨by omega, h⟩
      · rintro ⟨a, b⟩
        by_cases e : x = t
        · right; simp [e]
        · left; exact ⟨by omega, b⟩
    · rw [if_neg h]
      constructor
      · rintro (⟨a, b⟩ | a)
        · exact ⟨by omega, b⟩
        · simp at a
      · rintro ⟨a, b⟩
        exact .inl ⟨by have : x ≠ t := fun e => h (e ▸ b); omega, b⟩

theorem emp_len (v : Nat → Int) : ∀ t, (emp v t).length ≤ t
  | 0 => Nat.le_refl _
  | t + 1 => by rw [emp, List.length_append]; have := emp_len v t; split <;> simp <;> omega

/-- need in the first loop of 'reduce'. -/
def nd0 (v : Nat → Int) (t x : Nat) : Nat := if x < t ∧ v x < 0 then max (Pl.kk v x) 1 else 0
/-- namedAt in the first loop of 'reduce'. -/
def ct0 (n : Nat) (v : Nat → Int) (t p : Nat) : Nat := if p < n then Pl.cnt (Pl.sr n v) p t else 0


theorem nd0_zero (v : Nat → Int) (x : Nat) : 0 = nd0 v 0 x := by unfold nd0; rw [if_neg (by omega)]
theorem ct0_zero (n : Nat) (v : Nat → Int) (p : Nat) : 0 = ct0 n v 0 p := by unfold ct0; split <;> rfl
theorem nd0_leaf (v : Nat → Int) (t x : Nat) (h : 0 ≤ v t) : nd0 v t x = nd0 v (t + 1) x := by
  unfold nd0
  by_cases e : x = t
  · subst e; rw [if_neg (by omega), if_neg (by omega)]
  · have : (x < t ∧ v x < 0) ↔ (x < t + 1 ∧ v x < 0) := by omega
    simp only [this]
theorem nd0_inner (v : Nat → Int) (t x : Nat) (h : v t < 0) : Pl.setN (nd0 v t) t (max (Pl.kk v t) 1) x = nd0 v (t + 1) x := by
  unfold Pl.setN nd0
  by_cases e : x = t
  · subst e; rw [if_pos rfl, if_pos ⟨by omega, h⟩]
  · rw [if_neg e]
    have : (x < t ∧ v x < 0) ↔ (x < t + 1 ∧ v x < 0) := by omega
    simp only [this]
theorem ct0_out (n : Nat) (v : Nat → Int) (t p : Nat) (h : ¬ (0 ≤ v t ∧ v t < n)) : ct0 n v t p = ct0 n v (t + 1) p := by
  unfold ct0
  by_cases e : p < n
  · rw [if_pos e, if_pos e, Pl.cnt, if_neg (by rw [Pl.sr_out h]; omega)]; rfl
  · rw [if_neg e, if_neg e]
theorem ct0_in (n : Nat) (v : Nat → Int) (t p z : Nat) (h : v t = (z : Int)) (hz : z < n) : Pl.setN (ct0 n v t) z (ct0 n v t z + 1) p = ct0 n v (t + 1) p := by
  have hs : Pl.sr n v t = z := by rw [Pl.sr_in (by omega) (by omega)]; omega
  unfold Pl.setN ct0
  by_cases e : p = z
  · subst e; rw [if_pos rfl, if_pos hz, if_pos hz, Pl.cnt, if_pos hs]
  · rw [if_neg e]
    by_cases e2 : p < n
    · rw [if_pos e2, if_pos e2, Pl.cnt, if_neg (by rw [hs]; exact Ne.symm e)]; rfl
    · rw [if_neg e2, if_neg e2]
theorem ct0_le (n : Nat) (v : Nat → Int) (t p : Nat) : ct0 n v t p ≤ t := by
  unfold ct0; split
  · exact Pl.cnt_le _ _ _
  · omega
theorem emp_no (v : Nat → Int) (t : Nat) (h : v t ≠ -1) : emp v (t + 1) = emp v t := by rw [emp, if_neg h, List.append_nil]
theorem emp_yes (v : Nat → Int) (t : Nat) (h : v t = -1) : emp v (t + 1) = emp v t ++ [t] := by rw [emp, if_pos h]

theorem idx_mk {n m : Nat} {v u nm : Nat → Int} (h : Pl.Laid n m v u 0 nm) : Idx n m (Pl.fs (Pl.sr n v) n m) v u nm (fun p => Pl.fs (Pl.sr n v) p m) (Pl.place (Pl.sr n v) m) := by
  refine ⟨fun p _ => Pl.fs_mono _ _ (by omega), fun p hp => Pl.fs_mono _ _ hp, Pl.fs_le _ _ _, fun y hy h1 h2 => ?_, fun p e hp h1 h2 => ?_, fun y z hy hz hv e => Pl.place_inj hy hz e⟩
  · have e := Pl.sr_in h1 h2
    have a := Pl.place_ge (Pl.sr n v) m y
    have b := Pl.place_lt (Pl.sr n v) m y hy
    rw [e] at a b
    exact ⟨a, b⟩
  · obtain ⟨y, hy, hs, he⟩ := Pl.place_surj (Pl.sr n v) m p e h1 h2
    have hl := h y (Nat.zero_le _) hy (by omega)
    rw [he] at hl
    refine ⟨y, hy, ?_, he, hl⟩
    unfold Pl.sr at hs
    split at hs <;> omega

theorem below_keep {w wr w2 : World} {B Rb eb fb : Nat} (h : Below w.heap.size w wr) (k : Keep B Rb eb fb wr w2) (hB : w.heap.size ≤ B) (h1 : w.heap.size ≤ Rb) (h2 : w.heap.size ≤ eb) (h3 : w.heap.size ≤ fb) : Below w.heap.size w w2 :=
  ⟨k.os.trans h.os, k.tape.trans h.tape, k.output.trans h.output, Nat.le_trans h.size k.size, fun j hj => (k.block j (by omega) (by omega) (by omega) (by omega)).trans (h.block j hj)⟩

/-- The row of the nodes that need none. -/
def EmpAt (w2 : World) (B Rb eb fb : Nat) (ea : Option Addr) (es : List Nat) : Prop :=
  ∀ j, j < es.length → ∃ g, ea = some ⟨g, 0, none⟩ ∧ g < B ∧ g ≠ Rb ∧ g ≠ eb ∧ g ≠ fb ∧ w2.cell? ⟨g, j, none⟩ = some (.int .i32 (es.getD j 0 : Nat))

theorem nd0_start (v : Nat → Int) (m x : Nat) (hx : x < m) : nd0 v m x = if 0 ≤ v x then 0 else max (Pl.kk v x) 1 := by
  unfold nd0
  by_cases c : 0 ≤ v x
  · rw [if_neg (by omega), if_pos c]
  · rw [if_pos ⟨hx, by omega⟩, if_neg c]

theorem tr_false : ∀ n, Pl.tr (fun _ => false) n = 0
  | 0 => rfl
  | n + 1 => by rw [Pl.tr, tr_false n]; rfl

/-- After 'index': the state in which the reduction starts. -/
theorem start_all {w wr w2 : World} {Sb nb n m Rb eb ab fb base ec : Nat} {ea : Option Addr} {v u nm : Nat → Int} (hm : Made w Sb n m (nd0 v m) (ct0 n v m) Rb eb ab fb wr)
    (hS : Sb < w.heap.size) (hnb : nb < w.heap.size) (cS : w.cell? ⟨Sb, 4, none⟩ = some (.slice (some ⟨nb, 0, none⟩) m m)) (hc1 : ∀ x, x < m → w.cell? ⟨nb, x * 2 + 1, none⟩ = some (.int .i32 (u x)))
    (hraw : rawAt w2 Rb Sb eb ab fb n m (.slice (some ⟨wr.heap.size, 0, none⟩) (Pl.fs (Pl.sr n v) n m) (Pl.fs (Pl.sr n v) n m))) (hnm : w2.rowIs wr.heap.size 21 (Pl.fs (Pl.sr n v) n m) (fun e => .int .i32 (nm e)))
    (hat : w2.rowIs ab 21 (n + 1) (fun p => .int .i32 (Pl.fs (Pl.sr n v) p m : Nat))) (hk : Keep wr.heap.size Rb ab ab wr w2) (hsz : wr.heap.size < w2.heap.size)
    (hown : wr.ownsRow base 21 1 (.slice ea (emp v m).length ec) (emp v m).length (ints (emp v m))) (hbase : Rb < base ∧ eb < base ∧ ab < base ∧ fb < base) :
    Env w2.heap.size Rb Sb nb eb wr.heap.size ab fb n m (Pl.fs (Pl.sr n v) n m) u nm (fun p => Pl.fs (Pl.sr n v) p m) w2 ∧
    St w2.heap.size Rb Sb eb wr.heap.size ab fb n m (Pl.fs (Pl.sr n v) n m) w2 (nd0 v m) (fun _ => false) [] w2 ∧ EmpAt w2 w2.heap.size Rb eb fb ea (emp v m) ∧ Below w.heap.size w w2 := by
  obtain ⟨b1, b2, b3, b4, b5, b6, b7, b8, b9, b10, b11, b12, b13, b14, b15⟩ := hm.bounds
  have hb := hm.below
  have hbw := below_keep hb hk (by omega) (by omega) (by omega) (by omega)
  refine ⟨⟨⟨by omega, by omega, by omega, b5, b13, b14⟩, (hbw.cell (p := ⟨Sb, 4, none⟩) hS).trans cS, fun x hx => (hbw.cell (p := ⟨nb, x * 2 + 1, none⟩) hnb).trans (hc1 x hx), hnm, hat, by omega, by omega, by omega, by omega⟩, ?_, ?_, hbw⟩
  · refine ⟨Keep.refl _ _ _ _ _, ⟨none, 0, ?_, World.ownsRow_nil _ _ _ _⟩, hm.2.1.of_block (hk.block eb b2 (by omega) (by omega) (by omega)), hm.2.2.2.1.of_block (hk.block fb b4 (by omega) (by omega) (by omega)), Nat.le_refl _⟩
    rw [tr_false n]
    exact hraw
  · intro j hj
    obtain ⟨g, cap', hv', hg1, hg2⟩ := hown.form (by omega)
    simp at hv'
    refine ⟨g, hv'.1, by omega, by omega, by omega, by omega, ?_⟩
    rw [hk.cell (p := ⟨g, j, none⟩) hg2 (by show g ≠ Rb; omega) (by show g ≠ ab; omega) (by show g ≠ ab; omega)]
    rw [hv'.1] at hown
    rw [hown.cellAt j (by omega)]
    simp [ints, List.getD, hj]

/-- What 'reduce' leaves. -/
def Reduced (w : World) (Sb n m : Nat) (v u : Nat → Int) (act F H : Nat → Bool) (e : Ending) (w' : World) : Prop :=
  ∃ B Rb eb db ab fb W need free rep nm, e = .returned (.pointer (some ⟨Rb, 0, none⟩)) ∧ St B Rb Sb eb db ab fb n m (Pl.fs (Pl.sr n v) n m) W need free [] w' ∧ Pl.Inv n m v u F H need free [] rep (fun _ => false) none ∧ (∀ p, p < n → act p = true → free p = true) ∧ (∀ x, x < m → v x = -1 → need x = 0) ∧
    w'.rowIs db 21 (Pl.fs (Pl.sr n v) n m) (fun e => .int .i32 (nm e)) ∧ Pl.Laid n m v u 0 nm ∧ w'.rowIs ab 21 (n + 1) (fun p => .int .i32 (Pl.fs (Pl.sr n v) p m : Nat)) ∧ Below w.heap.size w w'
end Go.Proofs.Qxb6603867a

import Derived.Test.Qxb6600486aOwn
import Derived.Test.Qxb6600486aSearch
import Derived.Maps.OwnSet
import Derived.Maps.OwnOps
import Derived.ArgAppend
namespace Go.Proofs.Qxb6600486a
set_option linter.unusedVariables false
open Go.RowKit Go.Maps

/-- The slice of no elements at qa has the room qc, in a row of the call's own from block B on. -/
def Spare (w : World) (B : Nat) (qa : Option Addr) (qc : Nat) : Prop :=
  (qc = 0 ∧ qa ≠ none) ∨ ∃ b o cur, qa = some ⟨b, o, none⟩ ∧ B ≤ b ∧ w.heap[b]? = some (.cells cur 3 (0, 0)) ∧ o + qc ≤ cur.size

/-- The one element z lies at b, o; there is room for qc in all. -/
def One (w : World) (B b o qc : Nat) (z : Int) : Prop :=
  B ≤ b ∧ 1 ≤ qc ∧ ∃ cur, w.heap[b]? = some (.cells cur 3 (0, 0)) ∧ o + qc ≤ cur.size ∧ cur[o]? = some (.int .i64 z)

theorem One.cell {w : World} {B b o qc : Nat} {z : Int} (h : One w B b o qc z) : w.cell? ⟨b, o, none⟩ = some (.int .i64 z) := by
  obtain ⟨_, _, cur, h1, _, h3⟩ := h
  simp [World.cell?, h1, h3]

theorem One.spare {w : World} {B b o qc : Nat} {z : Int} (h : One w B b o qc z) : Spare w B (if qc = 1 then some ⟨b, o, none⟩ else some ⟨b, o + 1, none⟩) (qc - 1) := by
  obtain ⟨hb, h1, cur, h2, h3, _⟩ := h
  by_cases e : qc = 1
  · left; rw [if_pos e]; exact ⟨by omega, by simp⟩
  · right; rw [if_neg e]; exact ⟨b, o + 1, cur, rfl, hb, h2, by omega⟩

/-- All blocks below B, and all that are no rows of ints, are as they were. -/
structure KeepQ (B : Nat) (w w' : World) : Prop where
  below : Below B w w'
  other : ∀ k, k < w.heap.size → (∀ cur fr, w.heap[k]? ≠ some (.cells cur 3 fr)) → w'.heap[k]? = w.heap[k]?

theorem wpList_append_spare (w : World) {ops : Array Oper} {rest : List Oper} {o : Oper} {a : Act} {Q : Exit → Act → World → Prop}
    (hg : o.guard = none) (s x : Operand) (hop : o.op = Op.call { callee := Callee.builtin Builtin.append, args := #[s, x], argTypes := #[22, 22] })
    (B : Nat) (qa : Option Addr) (qc : Nat) (hs : a.eval s = .slice qa 0 qc) (hsp : Spare w B qa qc) (hB : B ≤ w.heap.size)
    (ab : Nat) (c : Nat) (z : Int) (hx : a.eval x = .slice (some ⟨ab, 0, none⟩) 1 c) (hc : w.cell? ⟨ab, 0, none⟩ = some (.int .i64 z))
    (h : ∀ b o' cp w', One w' B b o' cp z → KeepQ B w w' → wpList Try.prog ops Q rest (a.put o.dst (.slice (some ⟨b, o', none⟩) 1 cp)) w') :
    wpList Try.prog ops Q (o :: rest) a w := by
  obtain ⟨i0, hi, hz0, hz1, hz2⟩ := info_parts Try.info3
  have hc' : ∀ j u, ([.int .i64 z] : List Value)[j]? = some u → w.cell? ((⟨ab, 0, none⟩ : Addr).add j) = some u := by
    intro j u hj
    match j, hj with
    | 0, hj => simp at hj; subst hj; rw [add_none]; exact hc
  have h1 : ∀ u ∈ ([.int .i64 z] : List Value), u.oneCell' = true := by intro u hu; simp at hu; subst hu; rfl
  by_cases h0 : qc = 0
  · subst h0
    have hqa : qa ≠ none := by
      rcases hsp with ⟨_, h⟩ | ⟨b, o', cur, h, _⟩
      · exact h
      · rw [h]; simp
    refine wpList_append_grows w hg s x 22 hop 3 i0 (.int .i64 0) 1 8 Try.underlying22 hi hz0 hz1 hz2 rfl (by decide) qa 0 0 [] hs (fun h => absurd h hqa) rfl (by intro _ _ _ _ h; simp at h) ⟨ab, 0, none⟩ 1 c [.int .i64 z] hx rfl hc' h1 (by omega) (by unfold maxLen; omega) (by omega) ?_
    intro v' w' hown hgrow
    obtain ⟨hlen, hv⟩ := hown
    rcases hv with ⟨_, hn⟩ | ⟨g, cap, cur, rfl, hbg, hg', hcap, _, hsz, htake⟩
    · omega
    · refine h g 0 cap w' ⟨by omega, by omega, cur, hg', by omega, ?_⟩ ⟨(Below.refl _ _).grown hgrow hB (by simp), fun k hk _ => hgrow.block k hk (by simp)⟩
      have := congrArg (fun l => l[0]?) htake
      simpa using this
  · rcases hsp with ⟨h', _⟩ | ⟨b, o', cur, rfl, hb, hcur, hsz⟩
    · exact absurd h' h0
    · have hfr : w.frozen? ⟨b, o', none⟩ = false := by simp [World.frozen?, hcur]
      have hce : (w.cell? ⟨b, o', none⟩).isSome = true := by simp [World.cell?, hcur]; omega
      refine wpList_append_arg w hg s x 22 hop 3 i0 (.int .i64 0) 1 8 Try.underlying22 hi hz0 hz1 hz2 rfl (by decide) b o' 0 qc [] hs rfl (by intro _ _ h; simp at h) ⟨ab, 0, none⟩ 1 c [.int .i64 z] hx rfl hc' h1 ?_ (by unfold maxLen; omega) (by omega) ?_ (by omega)
      · intro _ j hj
        have hj0 : j = 0 := by simpa using hj
        subst hj0
        simpa using ⟨hce, hfr⟩
      · intro _
        have e : w.setCells b (o' + 0 * 1) [.int .i64 z] = w.setCell ⟨b, o', none⟩ (.int .i64 z) := by simp [World.setCells]
        rw [e]
        refine h b o' qc _ ⟨hb, by omega, cur.setIfInBounds o' (.int .i64 z), ?_, by simpa using hsz, ?_⟩ ⟨(Below.refl _ _).setCell hb _, fun k hk hnk => ?_⟩
        · simp [World.setCell, Array.getElem?_modify, hcur]
        · rw [Array.getElem?_setIfInBounds, if_pos rfl, if_pos (by omega)]
        · exact Below.heap_setCell _ _ _ _ (fun e => by subst e; exact hnk _ _ hcur)

/-- What the map 'prev' holds once the nodes N 1 .. N k have been reached. -/
structure Back (N : Nat → Nat) (k : Nat) (D : DataW Unit) : Prop where
  isMap : IsMap D
  at_ : ∀ j, 1 ≤ j → j ≤ k → D.atKey (.int .i64 (N j)) (.lit (.int .i64 0)) = .lit (.int .i64 (N (j - 1)))
  yes : ∀ j, 1 ≤ j → j ≤ k → Maps.has D (.int .i64 (N j)) = true
  no : ∀ x : Nat, (∀ j, 1 ≤ j → j ≤ k → x ≠ N j) → Maps.has D (.int .i64 x) = false

theorem Back.zero (N : Nat → Nat) : Back N 0 (.map []) :=
  ⟨isMap_empty, fun j h1 h2 => by omega, fun j h1 h2 => by omega, fun x _ => rfl⟩

theorem lit_ne {x y : Nat} (h : x ≠ y) : (Lit.int .i64 (x : Int)) ≠ Lit.int .i64 (y : Int) := by
  intro e; simp at e; omega

theorem Back.step {N : Nat → Nat} {k : Nat} {D : DataW Unit} (h : Back N k D) (hne : ∀ j, 1 ≤ j → j ≤ k → N j ≠ N (k + 1)) :
    Back N (k + 1) (D.put (.int .i64 (N (k + 1))) (.lit (.int .i64 (N k)))) := by
  refine ⟨h.isMap.put _ _, fun j h1 h2 => ?_, fun j h1 h2 => ?_, fun x hx => ?_⟩
  · by_cases e : j = k + 1
    · subst e; rw [atKey_put_same h.isMap (show WideAt.IsKeyLit (.int .i64 _) from trivial)]; rfl
    · rw [atKey_put_other (lit_ne (hne j h1 (by omega))), h.at_ j h1 (by omega)]
  · by_cases e : j = k + 1
    · subst e; rw [has_put_same h.isMap (show WideAt.IsKeyLit (.int .i64 _) from trivial)]
    · rw [has_put_other (lit_ne (hne j h1 (by omega))), h.yes j h1 (by omega)]
  · rw [has_put_other (lit_ne (hx (k + 1) (by omega) (by omega))), h.no x (fun j h1 h2 => hx j h1 (by omega))]

theorem law3 : Keyed Try.prog 3 := int_keyed Try.underlying3
theorem zero3 (w : World) : (zeroValue 3).run Try.prog w = .ok (.int .i64 0) w := by kernel_rfl
theorem run_makeMap_hint (n : Int) (w : World) : (Instr.makeMap 59 (some (.int .i64 n))).run Try.prog w = .ok (.map (some w.heap.size)) (w.alloc (.map #[] 0)) := by
  simp [Instr.makeMap, run_underlying Try.underlying59, asInt, asIntOf, Result.andThen]
theorem KeepQ.map {B : Nat} {w w' : World} {R : Value → Option (DataW Unit × List MemPlace)} {mb n : Nat} {D : DataW Unit} (h : KeepQ B w w') (ho : w.ownsMap Try.prog 3 R mb n D) : w'.ownsMap Try.prog 3 R mb n D := by
  obtain ⟨es, cl, hb, r⟩ := ho
  exact ⟨es, cl, (h.other mb (Array.getElem?_eq_some_iff.1 hb).1 (by intro cur fr; rw [hb]; simp)).trans hb, r⟩
theorem Spare.kept {w w' : World} {B : Nat} {qa : Option Addr} {qc : Nat} (h : Spare w B qa qc) (hk : ∀ (b : Nat) (cur : Array Value), w.heap[b]? = some (Obj.cells cur 3 (0, 0)) → w'.heap[b]? = w.heap[b]?) : Spare w' B qa qc := by
  rcases h with h | ⟨b, o, cur, h1, h2, h3, h4⟩
  · exact .inl h
  · exact .inr ⟨b, o, cur, h1, h2, (hk b cur h3).trans h3, h4⟩

theorem Spare.alloc {w : World} {B : Nat} {qa : Option Addr} {qc : Nat} (h : Spare w B qa qc) (o : Obj) : Spare (w.alloc o) B qa qc :=
  h.kept fun b cur hb => Below.heap_alloc _ _ _ (Array.getElem?_eq_some_iff.1 hb).1

/-- A store into the map leaves all rows. -/
theorem Spare.grown {w w' : World} {B mb n : Nat} {qa : Option Addr} {qc : Nat} {R : Value → Option (DataW Unit × List MemPlace)} {D : DataW Unit} (h : Spare w B qa qc) (hm : w.ownsMap Try.prog 3 R mb n D) (hg : w.grownBy w' (some mb)) : Spare w' B qa qc :=
  h.kept fun b cur hb => hg.block b (Array.getElem?_eq_some_iff.1 hb).1 (fun e => by
    obtain ⟨es, cl, hmb, _⟩ := hm
    simp at e; subst e; rw [hb] at hmb; simp at hmb)

theorem OwnF.base {w : World} {B B' m cp : Nat} {a : Option Addr} {f : Nat → Int} (h : OwnF w B a m cp f) (hB : B' ≤ B) : OwnF w B' a m cp f := by
  obtain ⟨h1, h2⟩ := h
  refine ⟨h1, ?_⟩
  rcases h2 with h2 | ⟨g, cap, cur, hv, hg, r⟩
  · exact .inl h2
  · exact .inr ⟨g, cap, cur, hv, Nat.le_trans hB hg, r⟩

theorem cell_new1 (w : World) (z : Int) : (w.alloc (.cells #[.int .i64 z] 3)).cell? ⟨w.heap.size, 0, none⟩ = some (.int .i64 z) := by
  simp

theorem KeepQ.of_alloc {B : Nat} {w w' : World} {o : Obj} (h : KeepQ B (w.alloc o) w') (hB : B ≤ w.heap.size) : KeepQ B w w' :=
  ⟨((Below.refl _ _).alloc hB o).trans h.below, fun k hk hn => by
    rw [h.other k (by simp; omega) (by rw [Below.heap_alloc _ _ _ hk]; exact hn), Below.heap_alloc _ _ _ hk]⟩

theorem own_ne_map {w : World} {base mb n m cp : Nat} {a : Option Addr} {f : Nat → Int} {R : Value → Option (DataW Unit × List MemPlace)} {D : DataW Unit} (h : OwnF w base a m cp f) (hm : w.ownsMap Try.prog 3 R mb n D) : some mb ≠ (Value.slice a m cp).ownBlock := by
  intro e
  rcases h.2 with ⟨hv, _⟩ | ⟨g, cap, cur, hv, _, hg, _⟩
  · rw [hv] at e; simp [Value.ownBlock] at e
  · rw [hv] at e; simp [Value.ownBlock] at e; subst e
    obtain ⟨es, cl, hb, _⟩ := hm
    rw [hg] at hb; simp at hb

theorem wf_nat (x : Nat) (h : x ≤ 1000000) : (Lit.int .i64 (x : Int)).wf = true := WalkArith.wf_i64 (by omega)
end Go.Proofs.Qxb6600486a

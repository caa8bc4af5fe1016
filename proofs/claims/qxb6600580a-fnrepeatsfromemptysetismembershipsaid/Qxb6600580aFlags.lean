import Derived.Test.Qxb6600580aRep3
namespace Go.Proofs.Qxb6600580a.Rep
set_option linter.unusedVariables false
open Go.RowKit Go.Maps

theorem info42 : (Try.prog.info? 42).map (fun i => (i.zero, i.size, i.bytes)) = some (some (.agg #[.string ByteArray.empty, .pointer none]), 2, 24) := by kernel_rfl

def mcells (f : Nat → ByteArray) : Nat → List Value
  | 0 => []
  | n + 1 => mcells f n ++ [.string (f n), .pointer none]

theorem mcells_len (f : Nat → ByteArray) : ∀ n, (mcells f n).length = n * 2
  | 0 => rfl
  | n + 1 => by rw [mcells, List.length_append, mcells_len f n]; simp; omega

theorem mcells_get (f : Nat → ByteArray) : ∀ n i, i < n → (mcells f n)[i * 2]? = some (.string (f i)) ∧ (mcells f n)[i * 2 + 1]? = some (.pointer none)
  | 0, i, h => by omega
  | n + 1, i, h => by
    rw [mcells]
    by_cases e : i = n
    · subst e
      rw [List.getElem?_append_right (by rw [mcells_len]; omega), List.getElem?_append_right (by rw [mcells_len]; omega), mcells_len]
      simp
    · rw [List.getElem?_append_left (by rw [mcells_len]; omega), List.getElem?_append_left (by rw [mcells_len]; omega)]
      exact mcells_get f n i (by omega)

theorem mem_of_own {w : World} {B t mc : Nat} {ma : Option Addr} {f : Nat → ByteArray} (h : w.ownsRow B 42 2 (.slice ma t mc) t (mcells f t)) : Mem w ma t f := by
  rcases h.2 with ⟨_, h0⟩ | ⟨g, cap, cur, hv, _, hg, _, _, hsz, htake⟩
  · exact .inl h0
  · simp at hv
    refine .inr ⟨g, cur, hv.1, hg, fun i hi => ?_⟩
    have hm := mcells_get f t i hi
    rw [← htake] at hm
    rw [List.getElem?_take, List.getElem?_take, if_pos (by omega), if_pos (by omega)] at hm
    simpa using hm

theorem seen_ne_row {w : World} {B V t n b : Nat} {f f' : Nat → ByteArray} (hs : Seen w B V t f) (hr : w.rowIs b 9 n (fun i => .string (f' i))) (hn : 0 < n) : b ≠ V := by
  rintro rfl
  rcases hs with ⟨_, h⟩ | ⟨_, mb, _, _, h, _⟩
  · obtain ⟨c, hb, _⟩ := hr
    rw [h] at hb; simp at hb
  · rw [hr.cell hn] at h; simp at h

theorem seen_ne_own {w : World} {B B' V t mc g : Nat} {f : Nat → ByteArray} (hs : Seen w B V t f) (h : w.ownsRow B' 42 2 (.slice (some ⟨g, 0, none⟩) t mc) t (mcells f t)) : g ≠ V := by
  rintro rfl
  rcases hs with ⟨_, hV⟩ | ⟨ht, mb, _, _, hV, _⟩
  · rcases h.2 with ⟨hv, _⟩ | ⟨g', cap, cur, hv, _, hg, _⟩
    · simp at hv
    · simp at hv; obtain ⟨rfl, _⟩ := hv; rw [hV] at hg; simp at hg
  · have := World.ownsRow.cellAt h 0 (by omega)
    rw [hV, (by simpa using (mcells_get f t 0 (by omega)).1 : (mcells f t)[0]? = some (.string (f 0)))] at this
    simp at this

theorem own_keepV {w w' : World} {B B' V t mc : Nat} {ma : Option Addr} {f : Nat → ByteArray} (hs : Seen w B V t f) (h : w.ownsRow B' 42 2 (.slice ma t mc) t (mcells f t)) (hk : KeepV B V w w') : w'.ownsRow B' 42 2 (.slice ma t mc) t (mcells f t) := by
  obtain ⟨h1, h2⟩ := id h
  refine ⟨h1, ?_⟩
  rcases h2 with h2 | ⟨g, cap, cur, hv, hg, hh, r⟩
  · exact .inl h2
  · have hg' : ma = some ⟨g, 0, none⟩ := by simp at hv; exact hv.1
    subst hg'
    exact .inr ⟨g, cap, cur, hv, hg, (hk.rows g cur 42 (0, 0) (seen_ne_own hs h) hh).trans hh, r⟩

theorem strs_keepV {w w' : World} {B V t n c : Nat} {a : Option Addr} {f f' : Nat → ByteArray} (hs : Seen w B V t f) (h : Strs w a n c f') (hk : KeepV B V w w') (hn : 0 < n) : Strs w' a n c f' :=
  h.kept fun b hr => by
    have hne := seen_ne_row hs hr hn
    obtain ⟨cs, hb, _⟩ := hr
    exact hk.rows b cs 9 (0, 0) hne hb

theorem own_block_form {w : World} {B' t mc k : Nat} {ma : Option Addr} {xs : List Value} (h : w.ownsRow B' 42 2 (.slice ma t mc) t xs) (hk : (Value.slice ma t mc).ownBlock = some k) : ma = some ⟨k, 0, none⟩ ∧ ∃ cur, w.heap[k]? = some (.cells cur 42 (0, 0)) := by
  rcases h.2 with ⟨hv, _⟩ | ⟨g, cap, cur, hv, _, hg, _⟩
  · rw [hv] at hk; simp [Value.ownBlock] at hk
  · rw [hv] at hk; simp [Value.ownBlock] at hk; subst hk
    simp at hv
    exact ⟨hv.1, cur, hg⟩

theorem seen_grown {w w5 : World} {B B' V t t' mc : Nat} {ma : Option Addr} {f : Nat → ByteArray} {o : Obj} (hs : Seen w B V t' f) (h : w.ownsRow B' 42 2 (.slice ma t mc) t (mcells f t)) (hV : ∀ k, (Value.slice ma t mc).ownBlock = some k → k ≠ V) (hg : (w.alloc o).grownBy w5 (Value.slice ma t mc).ownBlock) : Seen w5 B V t' f := by
  rcases hs with ⟨h1, h2⟩ | ⟨h1, mb, n, D, h2, h3, h4, h5⟩
  · have hlt := (Array.getElem?_eq_some_iff.1 h2).1
    refine .inl ⟨h1, ?_⟩
    rw [hg.block V (by simp; omega) (fun e => hV V e.symm rfl), Below.heap_alloc _ _ _ hlt]
    exact h2
  · have hlt := World.block_lt_of_cell? w _ h2
    refine .inr ⟨h1, mb, n, D, ?_, h3, (h4.alloc o).kept hg (fun e => ?_), h5⟩
    · rw [hg.cell_far _ (by simp; simp at hlt; omega) (fun e => hV V e.symm rfl), World.cell?_alloc_past _ _ _ (by simpa using hlt)]
      exact h2
    · obtain ⟨_, cur, hc⟩ := own_block_form h e.symm
      obtain ⟨es, cl, hb, _⟩ := h4
      rw [hc] at hb; simp at hb

set_option maxRecDepth 100000 in
set_option maxHeartbeats 1600000 in
theorem flags_main (a : Option Addr) (n c : Nat) (f : Nat → ByteArray) (w : World) (hfs : ∀ i, i < n → (f i).size ≤ maxLen) (h : Read w a n c f) :
    Calls Try.prog 8 #[.slice a n c] w fun e w' => e = .returned (.bool true) ∧ Below w.heap.size w w' := by
  obtain ⟨i0, hi0, hz0, hz1, hz2⟩ := info_parts info42
  have HF := hide hfs
  clear hfs
  go_enter Try.func8, Try.ntmps8
  go_wp2_with fail
  refine (bytes8 a n c f _ h).mono ?_
  rintro e w' ⟨ho, rfl⟩
  rcases ho with rfl | ⟨rfl, hn1⟩
  · go_wp2_with fail
    go_ret
    exact ⟨rfl, Below.refl _ _⟩
  go_wp2_with fail
  refine (toobig a n c f _ _ hn1 h).mono ?_
  rintro e w' ⟨ho, rfl⟩
  rcases ho with rfl | ⟨rfl, hn2⟩
  · go_wp2_with fail
    go_ret
    exact ⟨rfl, Below.refl _ _⟩
  go_wp2_with fail
  refine (clone_any a n c f _ hn1 h).mono ?_
  rintro e w1 ⟨a1, c1, rfl, hS, hbel1⟩
  have hs1 := hbel1.size
  go_wp2_with (at_make; refine wpList_make_own _ rfl _ _ 35 rfl w.heap.size 42 i0 _ 2 Try.underlying35 hi0 hz0 hz1 _ _ _ n rfl rfl rfl (by rw [hz2]; omega) (by unfold maxLen; omega) hs1 ?_; intro w2 hown2 hgrow2)
  have hb2 := (hbel1.grown hgrow2 hs1 (by simp))
  have hS2 : Strs w2 a1 n c1 f := hS.kept fun b hr => hgrow2.block b hr.lt (by simp)
  have hs2 : w.heap.size ≤ w2.heap.size := hb2.size
  clear hgrow2 hS hbel1 hs1
  go_loopw [3, 5] (fun v i wr => ∃ (t : Nat) (ma : Option Addr) (mc : Nat), t ≤ n ∧ i = .int .i64 t ∧ v = .slice ma t mc ∧ wr.ownsRow w.heap.size 42 2 v t (mcells f t) ∧ Strs wr a1 n c1 f ∧ Seen wr w.heap.size w2.heap.size t f ∧ Below w.heap.size w wr)
    (fun _ i _ => n - (intOf i).toNat)
  case atStart =>
    refine ⟨0, _, _, Nat.zero_le _, rfl, rfl, hown2.alloc _, hS2.kept (fun b hr => Below.heap_alloc _ _ _ hr.lt), .inl ⟨by omega, heap_alloc_new _ _⟩, hb2.alloc hs2 _⟩
  case round =>
    clear hown2 hS2 hb2
    obtain ⟨t, ma, mc, ht, rfl, rfl, hown, hS, hseen, hbel⟩ := hrel
    have hsr := hbel.size
    by_cases hlt : t < n
    · obtain ⟨b, rfl, hrow⟩ := hS.form (by omega)
      have q1 := hrow.cell hlt
      go_wp2_with fail
      refine (zzrep ma t mc w2.heap.size w.heap.size f _ (by omega) (fun i hi => unhide HF i (by omega)) hs2 hsr (mem_of_own hown) hseen).mono ?_
      rintro e w4 ⟨rfl, hseen4, hk4⟩
      have hown4 := own_keepV hseen hown hk4
      have hS4 := strs_keepV hseen hS hk4 (by omega)
      have hbel4 := hbel.trans hk4.below
      have hs4 := hbel4.size
      have hnV : ∀ k, (Value.slice ma t mc).ownBlock = some k → k ≠ w2.heap.size := fun k hk => by
        obtain ⟨rfl, _⟩ := own_block_form hown hk
        exact seen_ne_own hseen hown
      clear hseen hown hS hk4 hbel q1 hrow
      have hrow4 : w4.rowIs b 9 n (fun i => .string (f i)) := by
        obtain ⟨b', hb', hr'⟩ := hS4.form (by omega)
        simp at hb'; subst hb'; exact hr'
      have q2 := hrow4.cell hlt
      generalize hoc : occ f t (f t) = oc
      have HO := hide hoc
      clear hoc
      go_wp2_with fail
      refine (occ_any _ n c1 t f (f t) _ hn1 (by omega) hS4).mono ?_
      rintro e w' ⟨rfl, rfl⟩
      rw [unhide HO]
      go_wp2_with (at_builtin; refine wpList_append_lies _ rfl _ _ 35 rfl w.heap.size 42 i0 _ 2 24 Try.underlying35 hi0 hz0 hz1 hz2 rfl (by decide) (.slice ma t mc) t (mcells f t) rfl (hown4.alloc _) ⟨w4.heap.size, 0, none⟩ 1 1 [.string (f t), .pointer none] rfl rfl (World.news_of_block (cs := #[.string (f t), .pointer none]) (t := 42) (fr := (0, 0)) (heap_alloc_new _ _)) (by intro u hu; simp at hu; rcases hu with rfl | rfl <;> rfl) (by omega) (by unfold maxLen; omega) (by omega) (by simp; omega) (w4.heap.size + 1) (by simp) ?_; intro g5 cp5 w5 hown5 hgrow5 hat5 hlt5)
      have hseen5 := seen_grown hseen4 hown4 hnV hgrow5
      have hS5 : Strs w5 (some ⟨b, 0, none⟩) n c1 f := hS4.kept fun b' hr => by
        have hl := hr.lt
        rw [hgrow5.block b' (by simp; omega) (fun e => ?_), Below.heap_alloc _ _ _ hl]
        obtain ⟨_, cur, hc⟩ := own_block_form hown4 e.symm
        obtain ⟨cs, hb, _⟩ := hr
        rw [hc] at hb; simp at hb
      have hbel5 := (hbel4.alloc hs4 (.cells #[.string (f t), .pointer none] 42)).grown hgrow5 (by simp; omega) (fun k hk => (World.ownsRow.lt hown4 k hk).1)
      go_roundw
      case rel => exact ⟨t + 1, _, _, by omega, by go_num, rfl, hown5, hS5, hseen5, hbel5⟩
      case measure => simp [intOf]; omega
    · go_wp2_with fail
      go_ret
      exact ⟨rfl, hbel⟩
end Go.Proofs.Qxb6600580a.Rep

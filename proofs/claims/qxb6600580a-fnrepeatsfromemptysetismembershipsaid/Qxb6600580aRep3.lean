import Derived.Test.Qxb6600580aRep2
namespace Go.Proofs.Qxb6600580a.Rep
set_option linter.unusedVariables false
open Go.RowKit Go.Maps

/-- Is x among f 0 .. f (k - 1)? -/
def occ (f : Nat → ByteArray) (k : Nat) (x : ByteArray) : Bool := (List.range k).any fun j => (f j).toList == x.toList

theorem occ_true {f : Nat → ByteArray} {k : Nat} {x : ByteArray} (h : occ f k x = true) : ∃ j, j < k ∧ (f j).toList = x.toList := by
  unfold occ at h
  obtain ⟨j, hj, e⟩ := List.any_eq_true.1 h
  exact ⟨j, List.mem_range.1 hj, beq_iff_eq.1 e⟩

theorem occ_false {f : Nat → ByteArray} {k : Nat} {x : ByteArray} (h : occ f k x = false) : ∀ j, j < k → (f j).toList ≠ x.toList := by
  intro j hj e
  have : occ f k x = true := List.any_eq_true.2 ⟨j, List.mem_range.2 hj, beq_iff_eq.2 e⟩
  rw [h] at this; cases this

theorem occ_of {f : Nat → ByteArray} {k : Nat} {x : ByteArray} {j : Nat} (hj : j < k) (e : (f j).toList = x.toList) : occ f k x = true := List.any_eq_true.2 ⟨j, List.mem_range.2 hj, beq_iff_eq.2 e⟩

theorem occ_succ (f : Nat → ByteArray) (k : Nat) (x : ByteArray) : occ f (k + 1) x = (occ f k x || ((f k).toList == x.toList)) := by
  simp [occ, List.range_succ]

theorem key_lit (acc : List Lit) (f : Nat → ByteArray) (k : Nat) (h : acc = keys f k) : ∀ x ∈ acc, WideAt.IsKeyLit x := by
  subst h
  intro x hx
  obtain ⟨i, _, rfl⟩ := List.mem_map.1 hx
  exact trivial

theorem has_keys (f : Nat → ByteArray) (k : Nat) (x : ByteArray) : Maps.has (setOf (H := Unit) (.agg []) (keys f k)) (.string x.data.toList) = occ f k x := by
  rw [has_setOf _ _ _ (key_lit _ f k rfl)]
  unfold keys occ
  rw [List.any_map]
  congr 1
  funext j
  simp [Lit.sameKey, ByteArray.toList_eq]

/-- D holds just the first k names. -/
structure IsSet (D : DataW Unit) (k : Nat) (f : Nat → ByteArray) : Prop where
  isMap : IsMap D
  has_ : ∀ x : ByteArray, Maps.has D (.string x.data.toList) = occ f k x

theorem IsSet.of_keys (f : Nat → ByteArray) (k : Nat) : IsSet (setOf (H := Unit) (.agg []) (keys f k)) k f :=
  ⟨(tidy_setOf _ _ (key_lit _ f k rfl)).isMap, has_keys f k⟩

theorem IsSet.put {D : DataW Unit} {k : Nat} {f : Nat → ByteArray} (h : IsSet D k f) : IsSet (D.put (.string (f k).data.toList) (.agg [])) (k + 1) f := by
  refine ⟨h.isMap.put _ _, fun x => ?_⟩
  rw [occ_succ]
  by_cases e : (f k).data.toList = x.data.toList
  · rw [← e, has_put_same h.isMap (show WideAt.IsKeyLit (.string _) from trivial)]
    simp [ByteArray.toList_eq, e]
  · rw [has_put_other (by intro h'; simp at h'; exact e (by simpa using congrArg Array.toList h'.symm)), h.has_ x]
    have : ((f k).toList == x.toList) = false := by rw [beq_eq_false_iff_ne, ByteArray.toList_eq, ByteArray.toList_eq]; exact e
    rw [this, Bool.or_false]

theorem IsSet.skip {D : DataW Unit} {k : Nat} {f : Nat → ByteArray} (h : IsSet D k f) (ho : occ f k (f k) = true) : IsSet D (k + 1) f := by
  refine ⟨h.isMap, fun x => ?_⟩
  rw [occ_succ, h.has_ x]
  by_cases e : (f k).toList = x.toList
  · obtain ⟨j, hj, hj2⟩ := occ_true ho
    rw [occ_of hj (hj2.trans e)]; simp
  · have : ((f k).toList == x.toList) = false := by rw [beq_eq_false_iff_ne]; exact e
    rw [this, Bool.or_false]

/-- What seen is when k names have been asked for. -/
def Seen (w : World) (B V k : Nat) (f : Nat → ByteArray) : Prop :=
  (k ≤ 16 ∧ w.heap[V]? = some (.cells #[.map none] 36 (0, 0))) ∨
  (16 < k ∧ ∃ mb n D, w.cell? ⟨V, 0, none⟩ = some (.map (some mb)) ∧ B ≤ mb ∧ w.ownsMap Try.prog 9 unitElem mb n D ∧ n ≤ k ∧ IsSet D k f)

theorem Seen.alloc {w : World} {B V k : Nat} {f : Nat → ByteArray} (h : Seen w B V k f) (o : Obj) : Seen (w.alloc o) B V k f := by
  rcases h with ⟨h1, h2⟩ | ⟨h1, mb, n, D, h2, h3, h4, h5⟩
  · exact .inl ⟨h1, (Below.heap_alloc _ _ _ (Array.getElem?_eq_some_iff.1 h2).1).trans h2⟩
  · exact .inr ⟨h1, mb, n, D, by rw [World.cell?_alloc_past _ _ _ (World.block_lt_of_cell? w _ h2)]; exact h2, h3, h4.alloc _, h5⟩

theorem Mem.alloc {w : World} {ma : Option Addr} {k : Nat} {f : Nat → ByteArray} (h : Mem w ma k f) (o : Obj) : Mem (w.alloc o) ma k f :=
  h.kept fun g cur hg => Below.heap_alloc _ _ _ (Array.getElem?_eq_some_iff.1 hg).1

set_option maxRecDepth 100000 in
/-- 'repeats' at the k-th name. -/
theorem rep_any (p : Value) (ma : Option Addr) (k mc V B : Nat) (f : Nat → ByteArray) (w : World) (hk : k ≤ 4096) (hfs : ∀ i, i ≤ k → (f i).size ≤ maxLen) (hB : B ≤ V) (hBw : B ≤ w.heap.size) (h : Mem w ma k f) (hs : Seen w B V k f) :
    Calls Try.prog 28 #[p, .slice ma k mc, .pointer (some ⟨V, 0, none⟩), .string (f k)] w fun e w' => e = .returned (.bool (occ f k (f k))) ∧ Seen w' B V (k + 1) f ∧ KeepV B V w w' := by
  rcases hs with ⟨h16, hV⟩ | ⟨h16, mb, n, D, hV, hmb, hm, hn, hset⟩
  · by_cases hlt : k < 16
    · have fin : ∀ w', Below w.heap.size w w' → Seen w' B V (k + 1) f ∧ KeepV B V w w' := fun w' hb =>
        ⟨.inl ⟨by omega, (hb.block V (Array.getElem?_eq_some_iff.1 hV).1).trans hV⟩, KeepV.of_below hb hBw⟩
      cases ho : occ f k (f k) with
      | true =>
        obtain ⟨j0, hj0, hx⟩ := occ_true ho
        refine (small_yes p _ ma k mc f (f k) w hlt h j0 hj0 hx).mono ?_
        rintro e w' ⟨rfl, hb⟩
        exact ⟨rfl, fin w' hb⟩
      | false =>
        refine (small_no p _ ma k mc f (f k) w hlt h (occ_false ho)).mono ?_
        rintro e w' ⟨rfl, hb⟩
        exact ⟨rfl, fin w' hb⟩
    · refine (big_new p ma k mc V B f (f k) (occ f k (f k)) w (by omega) (by omega) (hfs k (Nat.le_refl _)) (fun i hi => hfs i (by omega)) hV hB h (has_keys f k (f k))).mono ?_
      rintro e w' ⟨rfl, mb, hmb, hm, hkv, hVc⟩
      refine ⟨rfl, .inr ⟨by omega, mb, k + 1, _, hVc, hmb, hm, Nat.le_refl _, ?_⟩, hkv⟩
      cases ho : occ f k (f k) with
      | true => simp only [if_true]; exact (IsSet.of_keys f k).skip ho
      | false => simp only [Bool.false_eq_true, if_false]; rw [← keys_succ]; exact IsSet.of_keys f (k + 1)
  · cases ho : occ f k (f k) with
    | true =>
      refine (big_yes p ma k mc V mb n (f k) D w (by omega) (by omega) (hfs k (Nat.le_refl _)) hV hm (by rw [hset.has_]; exact ho)).mono ?_
      rintro e w' ⟨rfl, hb⟩
      refine ⟨rfl, .inr ⟨by omega, mb, n, D, (hb.cell (World.block_lt_of_cell? w _ hV)).trans hV, hmb, ?_, by omega, hset.skip ho⟩, KeepV.of_below hb hBw⟩
      obtain ⟨es, cl, hbm, r⟩ := hm
      exact ⟨es, cl, (hb.block mb (Array.getElem?_eq_some_iff.1 hbm).1).trans hbm, r⟩
    | false =>
      refine (big_no p ma k mc V mb n B (f k) D w (by omega) (by omega) (hfs k (Nat.le_refl _)) (by omega) hV hm hmb (by rw [hset.has_]; exact ho)).mono ?_
      rintro e w' ⟨rfl, hm1, hkv, hVc⟩
      exact ⟨rfl, .inr ⟨by omega, mb, n + 1, _, hVc, hmb, hm1, by omega, hset.put⟩, hkv⟩

set_option maxRecDepth 100000 in
set_option maxHeartbeats 800000 in
theorem zzrep (ma : Option Addr) (k mc V B : Nat) (f : Nat → ByteArray) (w : World) (hk : k ≤ 4096) (hfs : ∀ i, i ≤ k → (f i).size ≤ maxLen) (hB : B ≤ V) (hBw : B ≤ w.heap.size) (h : Mem w ma k f) (hs : Seen w B V k f) :
    Calls Try.prog 23 #[.slice ma k mc, .pointer (some ⟨V, 0, none⟩), .string (f k)] w fun e w' => e = .returned (.bool (occ f k (f k))) ∧ Seen w' B V (k + 1) f ∧ KeepV B V w w' := by
  have HF := hide hfs
  have HS := hide hs
  have HM := hide h
  clear hfs hs h
  go_enter Try.func23, Try.ntmps23
  go_wp2_with fail
  refine (rep_any _ ma k mc V B f _ hk (unhide HF) hB (by simp; omega) ((unhide HM).alloc _) ((unhide HS).alloc _)).mono ?_
  rintro e w1 ⟨rfl, h1, h2⟩
  have H1 := hide h1
  clear h1
  go_wp2_with fail
  go_ret
  exact ⟨rfl, unhide H1, ((KeepV.refl B V w).alloc hBw _).trans h2⟩

theorem occ_any (a : Option Addr) (n c i : Nat) (f : Nat → ByteArray) (x : ByteArray) (w : World) (hn : n ≤ 1048576) (hi : i ≤ n) (h : Strs w a n c f) :
    Calls Try.prog 24 #[.slice a n c, .int .i64 i, .string x] w fun e w' => e = .returned (.bool (occ f i x)) ∧ w = w' := by
  cases ho : occ f i x with
  | true =>
    obtain ⟨j0, hj0, hx⟩ := occ_true ho
    exact occ_yes a n c i f x w hn hi h j0 hj0 hx
  | false => exact occ_no a n c i f x w hn hi h (occ_false ho)
end Go.Proofs.Qxb6600580a.Rep

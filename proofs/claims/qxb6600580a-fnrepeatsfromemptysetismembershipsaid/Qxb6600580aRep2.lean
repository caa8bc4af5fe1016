import Derived.Test.Qxb6600580aRep
namespace Go.Proofs.Qxb6600580a.Rep
set_option linter.unusedVariables false
open Go.RowKit Go.Maps

/-- The k members' names are f 0 .. f (k - 1). -/
def Mem (w : World) (ma : Option Addr) (k : Nat) (f : Nat → ByteArray) : Prop :=
  k = 0 ∨ ∃ g cur, ma = some ⟨g, 0, none⟩ ∧ w.heap[g]? = some (.cells cur 42 (0, 0)) ∧ ∀ i, i < k → cur[i * 2]? = some (.string (f i)) ∧ cur[i * 2 + 1]? = some (.pointer none)

theorem Mem.cells {w : World} {ma : Option Addr} {k : Nat} {f : Nat → ByteArray} (h : Mem w ma k f) (hk : 0 < k) :
    ∃ g, ma = some ⟨g, 0, none⟩ ∧ g < w.heap.size ∧ ∀ i, i < k → w.cell? ⟨g, i * 2, none⟩ = some (.string (f i)) ∧ w.cell? ⟨g, i * 2 + 1, none⟩ = some (.pointer none) := by
  rcases h with h | ⟨g, cur, rfl, hg, hc⟩
  · omega
  · exact ⟨g, rfl, (Array.getElem?_eq_some_iff.1 hg).1, fun i hi => ⟨by simp [World.cell?, hg, (hc i hi).1], by simp [World.cell?, hg, (hc i hi).2]⟩⟩

theorem Mem.kept {w w' : World} {ma : Option Addr} {k : Nat} {f : Nat → ByteArray} (h : Mem w ma k f) (e : ∀ (g : Nat) (cur : Array Value), w.heap[g]? = some (Obj.cells cur 42 (0, 0)) → w'.heap[g]? = w.heap[g]?) : Mem w' ma k f := by
  rcases h with h | ⟨g, cur, rfl, hg, hc⟩
  · exact .inl h
  · exact .inr ⟨g, cur, rfl, (e g cur hg).trans hg, hc⟩

set_option maxRecDepth 100000 in
set_option maxHeartbeats 800000 in
theorem small_yes (p s : Value) (ma : Option Addr) (k mc : Nat) (f : Nat → ByteArray) (nm : ByteArray) (w : World) (hk : k < 16) (h : Mem w ma k f) (j0 : Nat) (hj0 : j0 < k) (hx : (f j0).toList = nm.toList) :
    Calls Try.prog 28 #[p, .slice ma k mc, s, .string nm] w fun e w' => e = .returned (.bool true) ∧ Below w.heap.size w w' := by
  obtain ⟨g, rfl, hg, hc⟩ := h.cells (by omega)
  have HX := hide hx
  have HC := hide hc
  clear hx hc h
  go_enter Try.func28, Try.ntmps28
  go_wp2_with fail
  go_loopw [20] (fun j wr => ∃ t : Nat, t ≤ k ∧ j = .int .i64 t ∧ Hid (∀ i, i < t → (f i).toList ≠ nm.toList) ∧ Below w.heap.size w wr) (fun j _ => k - (intOf j).toNat)
  case atStart => exact ⟨0, Nat.zero_le _, rfl, fun i h => by omega, Below.refl _ _⟩
  case round =>
    obtain ⟨t, ht, rfl, HN, hbel⟩ := hrel
    have hs := hbel.size
    by_cases hlt : t < k
    · have q0 := (hbel.cell (p := ⟨g, t * 2, none⟩) hg).trans (unhide HC t hlt).1
      have q1 := (hbel.cell (p := ⟨g, t * 2 + 1, none⟩) hg).trans (unhide HC t hlt).2
      cases hb : ((f t).toList == nm.toList) with
      | true =>
        go_wp2_with fail
        go_ret
        exact ⟨rfl, hbel.alloc hs _⟩
      | false =>
        have HB := hide hb
        go_wp2_with fail
        go_roundw
        case rel =>
          refine ⟨t + 1, by omega, by go_num, fun i hi => ?_, hbel.alloc hs _⟩
          by_cases e : i = t
          · rw [e]; exact beq_eq_false_iff_ne.1 (unhide HB)
          · exact HN i (by omega)
        case measure => simp [intOf]; omega
    · exact absurd (unhide HX) (HN j0 (by omega))

set_option maxRecDepth 100000 in
set_option maxHeartbeats 800000 in
theorem small_no (p s : Value) (ma : Option Addr) (k mc : Nat) (f : Nat → ByteArray) (nm : ByteArray) (w : World) (hk : k < 16) (h : Mem w ma k f) (hx : ∀ i, i < k → (f i).toList ≠ nm.toList) :
    Calls Try.prog 28 #[p, .slice ma k mc, s, .string nm] w fun e w' => e = .returned (.bool false) ∧ Below w.heap.size w w' := by
  have HX := hide hx
  clear hx
  go_enter Try.func28, Try.ntmps28
  go_wp2_with fail
  go_loopw [20] (fun j wr => ∃ t : Nat, t ≤ k ∧ j = .int .i64 t ∧ Below w.heap.size w wr) (fun j _ => k - (intOf j).toNat)
  case atStart => exact ⟨0, Nat.zero_le _, rfl, Below.refl _ _⟩
  case round =>
    obtain ⟨t, ht, rfl, hbel⟩ := hrel
    have hs := hbel.size
    by_cases hlt : t < k
    · obtain ⟨g, rfl, hg, hc⟩ := h.cells (by omega)
      have q0 := (hbel.cell (p := ⟨g, t * 2, none⟩) hg).trans (hc t hlt).1
      have q1 := (hbel.cell (p := ⟨g, t * 2 + 1, none⟩) hg).trans (hc t hlt).2
      have hb : ((f t).toList == nm.toList) = false := beq_eq_false_iff_ne.2 (unhide HX t hlt)
      clear hc h
      go_wp2_with fail
      go_roundw
      case rel => exact ⟨t + 1, by omega, by go_num, hbel.alloc hs _⟩
      case measure => simp [intOf]; omega
    · go_wp2_with fail
      go_ret
      exact ⟨rfl, hbel⟩

/-- Rows of cells other than V are as they were; and all below B. -/
structure KeepV (B V : Nat) (w w' : World) : Prop where
  below : Below B w w'
  rows : ∀ (k : Nat) (c : Array Value) (t : TypeId) (fr : Nat × Nat), k ≠ V → w.heap[k]? = some (.cells c t fr) → w'.heap[k]? = w.heap[k]?

theorem KeepV.refl (B V : Nat) (w : World) : KeepV B V w w := ⟨Below.refl _ _, fun _ _ _ _ _ _ => rfl⟩
theorem KeepV.trans {B V : Nat} {a b c : World} (h : KeepV B V a b) (k : KeepV B V b c) : KeepV B V a c :=
  ⟨h.below.trans k.below, fun i cs t fr hi hc => by
    have h1 := h.rows i cs t fr hi hc
    rw [k.rows i cs t fr hi (h1.trans hc), h1]⟩
theorem KeepV.of_below {B V : Nat} {w w' : World} (h : Below w.heap.size w w') (hB : B ≤ w.heap.size) : KeepV B V w w' :=
  ⟨h.mono hB, fun k c t fr _ hc => h.block k (Array.getElem?_eq_some_iff.1 hc).1⟩
theorem KeepV.alloc {B V : Nat} {w w' : World} (h : KeepV B V w w') (hB : B ≤ w'.heap.size) (o : Obj) : KeepV B V w (w'.alloc o) :=
  h.trans (KeepV.of_below ((Below.refl _ _).alloc (Nat.le_refl _) o) hB)
theorem KeepV.setV {B V : Nat} {w w' : World} (h : KeepV B V w w') (hB : B ≤ V) (v : Value) (i : Nat) : KeepV B V w (w'.setCell ⟨V, i, none⟩ v) :=
  h.trans ⟨(Below.refl _ _).setCell hB _, fun k c t fr hk hc => Below.heap_setCell _ _ _ _ hk⟩
theorem KeepV.map {B V mb n : Nat} {w w' w'' : World} {R : Value → Option (DataW Unit × List MemPlace)} {D : DataW Unit} (h : KeepV B V w w') (hm : w'.ownsMap Try.prog 9 R mb n D) (hB : B ≤ mb) (hg : w'.grownBy w'' (some mb)) : KeepV B V w w'' :=
  h.trans ⟨(Below.refl _ _).grown hg (by have := hm.lt; omega) (fun k hk => by cases hk; exact hB), fun k c t fr _ hc => hg.block k (Array.getElem?_eq_some_iff.1 hc).1 (fun e => by
    simp at e; subst e
    obtain ⟨es, cl, hb, _⟩ := hm
    rw [hc] at hb; simp at hb)⟩

theorem KeepV.drew {B V : Nat} {w w' : World} (h : KeepV B V w w') : KeepV B V w w'.drew := ⟨h.below.drew, h.rows⟩

theorem law9 : Keyed Try.prog 9 := string_keyed Try.underlying9
theorem zero43 (w : World) : (zeroValue 43).run Try.prog w = .ok (.agg #[]) w := by kernel_rfl
theorem run_makeMap_hint (n : Int) (w : World) : (Instr.makeMap 36 (some (.int .i64 n))).run Try.prog w = .ok (.map (some w.heap.size)) (w.alloc (.map #[] 0)) := by
  simp [Instr.makeMap, run_underlying Try.underlying36, asInt, asIntOf, Result.andThen]

/-- seen is set: the name is in it. -/
theorem big_yes (p : Value) (ma : Option Addr) (k mc V mb n : Nat) (nm : ByteArray) (D : DataW Unit) (w : World) (hk : 16 ≤ k) (hk2 : k ≤ 100000) (hnm : nm.size ≤ maxLen) (hV : w.cell? ⟨V, 0, none⟩ = some (.map (some mb)))
    (hm : w.ownsMap Try.prog 9 unitElem mb n D) (hh : Maps.has D (.string nm.data.toList) = true) :
    Calls Try.prog 28 #[p, .slice ma k mc, .pointer (some ⟨V, 0, none⟩), .string nm] w fun e w' => e = .returned (.bool true) ∧ Below w.heap.size w w' := by
  have qm : ∀ (w : World) (r : Option Nat), (binOp .eql 36 (.map r) (.map none)).run Try.prog w = .ok (.bool r.isNone) w := fun w r => run_eql_map_nil w _ _ _ r Try.underlying36
  have hkey : keyOf Try.prog 9 (.string nm) = some (.string nm.data.toList) := WideMaps.keyOf_string_mk Try.underlying9 hnm
  go_enter Try.func28, Try.ntmps28
  go_wp2_with (first
    | (at_lookup; refine wpList_lookup_own_unit _ rfl _ _ 36 rfl 9 43 law9 Try.underlying36 (zero43 _) mb n D rfl hm _ _ rfl hkey ?_))
  go_ret
  exact ⟨rfl, (Below.refl _ _).alloc (Nat.le_refl _) _⟩

/-- seen is set: the name is not in it: it is laid in. -/
theorem big_no (p : Value) (ma : Option Addr) (k mc V mb n B : Nat) (nm : ByteArray) (D : DataW Unit) (w : World) (hk : 16 ≤ k) (hk2 : k ≤ 100000) (hnm : nm.size ≤ maxLen) (hn : n ≤ 100000) (hV : w.cell? ⟨V, 0, none⟩ = some (.map (some mb)))
    (hm : w.ownsMap Try.prog 9 unitElem mb n D) (hB : B ≤ mb) (hh : Maps.has D (.string nm.data.toList) = false) :
    Calls Try.prog 28 #[p, .slice ma k mc, .pointer (some ⟨V, 0, none⟩), .string nm] w fun e w' => e = .returned (.bool false) ∧ w'.ownsMap Try.prog 9 unitElem mb (n + 1) (D.put (.string nm.data.toList) (.agg [])) ∧ KeepV B V w w' ∧ w'.cell? ⟨V, 0, none⟩ = some (.map (some mb)) := by
  have qm : ∀ (w : World) (r : Option Nat), (binOp .eql 36 (.map r) (.map none)).run Try.prog w = .ok (.bool r.isNone) w := fun w r => run_eql_map_nil w _ _ _ r Try.underlying36
  have hkey : keyOf Try.prog 9 (.string nm) = some (.string nm.data.toList) := WideMaps.keyOf_string_mk Try.underlying9 hnm
  have hVl := World.block_lt_of_cell? w _ hV
  have hml := hm.lt
  go_enter Try.func28, Try.ntmps28
  go_wp2_with (first
    | (at_lookup; refine wpList_lookup_own_unit _ rfl _ _ 36 rfl 9 43 law9 Try.underlying36 (zero43 _) mb n D rfl hm _ _ rfl hkey ?_)
    | (at_mapUpdate; refine wpList_mapUpdate_own _ rfl _ _ _ 36 rfl 9 43 law9 Try.underlying36 (unitElem (H := Unit)) mb n D rfl (hm.alloc _) (by unfold maxLen; omega) _ _ _ rfl rfl hkey _ [] unitElem_mk ?_; intro w1 hm1 hg1))
  go_ret
  have hne : mb ≠ V := fun e => by subst e; obtain ⟨es, cl, hb, _⟩ := hm; simp [World.cell?, hb] at hV
  refine ⟨rfl, hm1, ((KeepV.refl B V w).alloc (by omega) _).map (hm.alloc _) hB hg1, ?_⟩
  rw [hg1.cell_far _ (by simp; omega) (by simp; omega), World.cell?_alloc_past _ _ _ hVl]
  exact hV

/-- The keys of the first k members. -/
def keys (f : Nat → ByteArray) (k : Nat) : List Lit := (List.range k).map fun i => Lit.string (f i).data.toList
theorem keys_succ (f : Nat → ByteArray) (k : Nat) : keys f (k + 1) = keys f k ++ [Lit.string (f k).data.toList] := by simp [keys, List.range_succ]

set_option maxRecDepth 100000 in
set_option maxHeartbeats 1600000 in
/-- seen is nil: the set is laid out of the members' names first. -/
theorem big_new (p : Value) (ma : Option Addr) (k mc V B : Nat) (f : Nat → ByteArray) (nm : ByteArray) (bo : Bool) (w : World) (hk : 16 ≤ k) (hk2 : k ≤ 100000) (hnm : nm.size ≤ maxLen) (hfs : ∀ i, i < k → (f i).size ≤ maxLen)
    (hV : w.heap[V]? = some (.cells #[.map none] 36 (0, 0))) (hB : B ≤ V) (h : Mem w ma k f) (hh : Maps.has (setOf (H := Unit) (.agg []) (keys f k)) (.string nm.data.toList) = bo) :
    Calls Try.prog 28 #[p, .slice ma k mc, .pointer (some ⟨V, 0, none⟩), .string nm] w fun e w' => e = .returned (.bool bo) ∧ ∃ mb, B ≤ mb ∧
      w'.ownsMap Try.prog 9 unitElem mb (k + 1) (if bo then setOf (H := Unit) (.agg []) (keys f k) else setOf (H := Unit) (.agg []) (keys f k ++ [.string nm.data.toList])) ∧ KeepV B V w w' ∧ w'.cell? ⟨V, 0, none⟩ = some (.map (some mb)) := by
  have qm : ∀ (w : World) (r : Option Nat), (binOp .eql 36 (.map r) (.map none)).run Try.prog w = .ok (.bool r.isNone) w := fun w r => run_eql_map_nil w _ _ _ r Try.underlying36
  have hmm := run_makeMap_hint
  have hkey : keyOf Try.prog 9 (.string nm) = some (.string nm.data.toList) := WideMaps.keyOf_string_mk Try.underlying9 hnm
  have hVc : w.cell? ⟨V, 0, none⟩ = some (.map none) := by simp [World.cell?, hV]
  have hVf : w.frozen? ⟨V, 0, none⟩ = false := by simp [World.frozen?, hV]
  have hVl : V < w.heap.size := (Array.getElem?_eq_some_iff.1 hV).1
  obtain ⟨g, rfl, _, _⟩ := h.cells (by omega)
  have hd : decide ((k : Int) < 16) = false := by simp; omega
  have HH := hide hh
  have HF := hide hfs
  have HV := hide hV
  clear hh hfs hV
  go_enter Try.func28, Try.ntmps28
  go_wp2_with fail
  go_loopw [41] (fun j wr => ∃ t : Nat, t ≤ k ∧ j = .int .i64 t ∧ wr.ownsMap Try.prog 9 unitElem w.heap.size t (setOf (H := Unit) (.agg []) (keys f t)) ∧ KeepV B V w wr ∧ wr.cell? ⟨V, 0, none⟩ = some (.map (some w.heap.size)) ∧ w.heap.size < wr.heap.size)
    (fun j _ => k - (intOf j).toNat)
  case atStart =>
    have hsz : (w.setCell ⟨V, 0, none⟩ (.map (some w.heap.size))).heap.size = w.heap.size := by simp [World.setCell]
    refine ⟨0, Nat.zero_le _, rfl, ?_, ?_, ?_, by simp [World.setCell]⟩
    · have := World.ownsMap_made (H := Unit) (w.setCell ⟨V, 0, none⟩ (.map (some w.heap.size))) Try.prog 9 unitElem
      rw [hsz] at this
      exact this
    · exact ((KeepV.refl B V w).setV hB _ 0).alloc (by rw [hsz]; omega) _
    · rw [World.cell?_alloc_past _ _ _ (by rw [hsz]; exact hVl)]
      exact World.cell?_setCell_same _ _ _ hVc
  case round =>
    obtain ⟨t, ht, rfl, hmap, hkv, hVr, hsr⟩ := hrel
    have hml := hmap.lt
    by_cases hlt : t < k
    · have hM := h.kept (w' := wr) (fun g' cur hg' => hkv.rows g' cur 42 (0, 0) (fun e => by subst e; rw [unhide HV] at hg'; simp at hg') hg')
      obtain ⟨g', hge, hg, hc⟩ := hM.cells (by omega)
      have hge2 : g = g' := by simpa using hge
      subst hge2
      have q0 := (hc t hlt).1
      have q1 := (hc t hlt).2
      have hkt : keyOf Try.prog 9 (.string (f t)) = some (.string (f t).data.toList) := WideMaps.keyOf_string_mk Try.underlying9 (unhide HF t hlt)
      obtain ⟨w1, hrun, hm1, hg1⟩ := (World.ownsMap.drew (hmap.alloc (.cells #[.string (f t), .pointer none] 42))).update law9 Try.underlying36 (by unfold maxLen; omega) hkt unitElem_mk
      have hVr2 : (wr.alloc (.cells #[.string (f t), .pointer none] 42)).cell? ⟨V, 0, none⟩ = some (.map (some w.heap.size)) := by rw [World.cell?_alloc_past _ _ _ (by omega)]; exact hVr
      clear hM hc hge
      go_wp2_with fail
      go_region
      all_goals
        have hmne : w.heap.size ≠ V := by omega
        have hkv1 := ((hkv.alloc (by omega) (.cells #[.string (f t), .pointer none] 42)).drew).map (World.ownsMap.drew (hmap.alloc _)) (by omega) hg1
        have hV1 : w1.cell? ⟨V, 0, none⟩ = some (.map (some w.heap.size)) := by
          rw [hg1.cell_far _ (by simp; omega) (by simp; omega)]; exact hVr2
        have hs1 := hg1.size
        clear hrun hg1 hkv hmap hVr hVr2
        go_wp2_with fail
        go_roundw
        case rel =>
          refine ⟨t + 1, by omega, by go_num, ?_, hkv1, hV1, by simp at hs1; omega⟩
          rw [keys_succ, setOf_snoc]
          exact hm1
        case measure => simp [intOf]; omega
    · obtain rfl : k = t := by omega
      cases bo with
      | true =>
        have hh := unhide HH
        go_wp2_with (first
          | (at_lookup; refine wpList_lookup_own_unit _ rfl _ _ 36 rfl 9 43 law9 Try.underlying36 (zero43 _) w.heap.size k _ rfl hmap _ _ rfl hkey ?_))
        go_ret
        refine ⟨rfl, w.heap.size, by omega, (hmap.mono (by omega)).alloc _, hkv.alloc (by omega) _, ?_⟩
        rw [World.cell?_alloc_past _ _ _ (by omega)]; exact hVr
      | false =>
        have hh := unhide HH
        have hmne : w.heap.size ≠ V := by omega
        have hVlr : V < wr.heap.size := by omega
        go_wp2_with (first
          | (at_lookup; refine wpList_lookup_own_unit _ rfl _ _ 36 rfl 9 43 law9 Try.underlying36 (zero43 _) w.heap.size k _ rfl hmap _ _ rfl hkey ?_)
          | (at_mapUpdate; refine wpList_mapUpdate_own _ rfl _ _ _ 36 rfl 9 43 law9 Try.underlying36 (unitElem (H := Unit)) w.heap.size k _ rfl (hmap.alloc _) (by unfold maxLen; omega) _ _ _ rfl rfl hkey _ [] unitElem_mk ?_; intro w1 hm1 hg1))
        go_ret
        refine ⟨rfl, w.heap.size, by omega, ?_, (hkv.alloc (by omega) _).map (hmap.alloc _) (by omega) hg1, ?_⟩
        · rw [setOf_snoc]; exact hm1
        · rw [hg1.cell_far _ (by simp; omega) (by simp; omega), World.cell?_alloc_past _ _ _ (by omega)]; exact hVr

end Go.Proofs.Qxb6600580a.Rep

import Derived.Test.Qxb6600580aFlags
namespace Go.Proofs.Qxb6600580a.Rep
set_option linter.unusedVariables false
open Go.RowKit Go.Maps

set_option maxRecDepth 100000 in
set_option maxHeartbeats 800000 in
theorem bytes9 (a : Option Addr) (n c : Nat) (f : Nat → ByteArray) (nm : ByteArray) (w : World) (h : Read w a n c f) :
    Calls Try.prog 25 #[.slice a n c, .string nm] w fun e w' => OutT e n ∧ w = w' := by
  by_cases hn : 1048576 < n
  · go_enter Try.func25, Try.ntmps25
    go_wp2_with fail
    go_ret
    exact ⟨.inl rfl, rfl⟩
  · have hd : decide (1048576 < (n : Int)) = false := by simp; omega
    go_enter Try.func25, Try.ntmps25
    go_wp2_with fail
    go_loop [5, 6] (fun z j => ∃ t y : Nat, t ≤ n ∧ y ≤ 1048576 ∧ j = .int .i64 t ∧ z = .int .i64 y) (fun _ j => n - (intOf j).toNat)
    case atStart => exact ⟨0, n, Nat.zero_le _, by omega, rfl, rfl⟩
    case round =>
      obtain ⟨t, y, ht, hy, rfl, rfl⟩ := hrel
      by_cases hlt : t < n
      · obtain ⟨x, rfl, hc⟩ : ∃ x, a = some x ∧ ∀ i, i < n → w.cell? (x.add i) = some (.string (f i)) := by
          rcases h with ⟨_, h, _⟩ | h
          · omega
          · exact h
        have hct := hc t hlt
        clear h hc
        generalize f t = s at hct
        by_cases h1 : 1048576 < s.size
        · go_wp2_with fail
          go_ret
          exact ⟨.inl rfl, rfl⟩
        · by_cases h2 : 1048576 < y + s.size
          · go_wp2_with fail
            go_ret
            exact ⟨.inl rfl, rfl⟩
          · go_wp2_with fail
            go_round
            case rel => exact ⟨t + 1, y + s.size, by omega, by omega, by go_num, by go_num⟩
            case measure => simp [intOf]; omega
      · by_cases h1 : 1048576 < nm.size
        · go_wp2_with fail
          go_ret
          exact ⟨.inl rfl, rfl⟩
        · by_cases h2 : 1048576 < y + nm.size
          · go_wp2_with fail
            go_ret
            exact ⟨.inl rfl, rfl⟩
          · go_wp2_with fail
            go_ret
            exact ⟨.inr ⟨rfl, by omega⟩, rfl⟩

set_option maxRecDepth 100000 in
set_option maxHeartbeats 800000 in
theorem zz_small (ma : Option Addr) (k mc : Nat) (s : Value) (f : Nat → ByteArray) (nm : ByteArray) (w : World) (hk : k < 16) (h : Mem w ma k f) :
    Calls Try.prog 23 #[.slice ma k mc, s, .string nm] w fun e w' => e = .returned (.bool (occ f k nm)) ∧ Below w.heap.size w w' := by
  have HM := hide h
  clear h
  cases ho : occ f k nm with
  | true =>
    obtain ⟨j0, hj0, hx⟩ := occ_true ho
    clear ho
    have HX := hide hx
    clear hx
    go_enter Try.func23, Try.ntmps23
    go_wp2_with fail
    refine (small_yes _ _ ma k mc f nm _ hk ((unhide HM).alloc _) j0 hj0 (unhide HX)).mono ?_
    rintro e w1 ⟨rfl, h1⟩
    go_wp2_with fail
    go_ret
    exact ⟨rfl, ((Below.refl _ _).alloc (Nat.le_refl _) _).trans (h1.mono (by simp))⟩
  | false =>
    have HX := hide (occ_false ho)
    clear ho
    go_enter Try.func23, Try.ntmps23
    go_wp2_with fail
    refine (small_no _ _ ma k mc f nm _ hk ((unhide HM).alloc _) (unhide HX)).mono ?_
    rintro e w1 ⟨rfl, h1⟩
    go_wp2_with fail
    go_ret
    exact ⟨rfl, ((Below.refl _ _).alloc (Nat.le_refl _) _).trans (h1.mono (by simp))⟩

/-- The set that is left. -/
def endSet (f : Nat → ByteArray) (k : Nat) (nm : ByteArray) : DataW Unit := if occ f k nm then setOf (H := Unit) (.agg []) (keys f k) else setOf (H := Unit) (.agg []) (keys f k ++ [.string nm.data.toList])

set_option maxRecDepth 100000 in
set_option maxHeartbeats 800000 in
theorem zz_new (ma : Option Addr) (k mc V B : Nat) (f : Nat → ByteArray) (nm : ByteArray) (w : World) (hk : 16 ≤ k) (hk2 : k ≤ 100000) (hnm : nm.size ≤ maxLen) (hfs : ∀ i, i < k → (f i).size ≤ maxLen)
    (hV : w.heap[V]? = some (.cells #[.map none] 36 (0, 0))) (hB : B ≤ V) (h : Mem w ma k f) :
    Calls Try.prog 23 #[.slice ma k mc, .pointer (some ⟨V, 0, none⟩), .string nm] w fun e w' => e = .returned (.bool (occ f k nm)) ∧ ∃ mb, B ≤ mb ∧
      w'.ownsMap Try.prog 9 unitElem mb (k + 1) (endSet f k nm) ∧ KeepV B V w w' ∧ w'.cell? ⟨V, 0, none⟩ = some (.map (some mb)) := by
  have hVl : V < w.heap.size := (Array.getElem?_eq_some_iff.1 hV).1
  have HF := hide hfs
  have HV := hide hV
  have HM := hide h
  generalize hoc : occ f k nm = bo
  have HO := hide ((has_keys f k nm).trans hoc)
  have HO2 := hide hoc
  clear hfs hV h hoc
  go_enter Try.func23, Try.ntmps23
  go_wp2_with fail
  refine (big_new _ ma k mc V B f nm bo _ hk hk2 hnm (unhide HF) ((Below.heap_alloc _ _ _ hVl).trans (unhide HV)) hB ((unhide HM).alloc _) (unhide HO)).mono ?_
  rintro e w1 ⟨rfl, mb, h1, h2, h3, h4⟩
  have h2' : w1.ownsMap Try.prog 9 unitElem mb (k + 1) (endSet f k nm) := by unfold endSet; rw [unhide HO2]; exact h2
  clear h2
  go_wp2_with fail
  go_ret
  exact ⟨rfl, mb, h1, h2', ((KeepV.refl B V w).alloc (by omega) _).trans h3, h4⟩

/-- How many different names there are among the first k. -/
def dc (f : Nat → ByteArray) : Nat → Nat
  | 0 => 0
  | k + 1 => dc f k + if occ f k (f k) then 0 else 1

theorem dc_le (f : Nat → ByteArray) : ∀ k, dc f k ≤ k
  | 0 => Nat.le_refl _
  | k + 1 => by rw [dc]; have := dc_le f k; split <;> omega

theorem size_keys (f : Nat → ByteArray) : ∀ k, Maps.size (setOf (H := Unit) (.agg []) (keys f k)) = dc f k
  | 0 => rfl
  | k + 1 => by
    rw [keys_succ, setOf_snoc, size_put (tidy_setOf _ _ (key_lit _ f k rfl)), has_keys, size_keys f k, dc]
    cases occ f k (f k) <;> simp

theorem endSet_size (f : Nat → ByteArray) (k : Nat) (nm : ByteArray) : Maps.size (endSet f k nm) = dc f k + if occ f k nm then 0 else 1 := by
  unfold endSet
  cases ho : occ f k nm with
  | true => simp [size_keys]
  | false =>
    simp only [Bool.false_eq_true, if_false]
    rw [setOf_snoc, size_put (tidy_setOf _ _ (key_lit _ f k rfl)), has_keys, ho, size_keys]
    simp

theorem endSet_nm (f : Nat → ByteArray) (k : Nat) (nm : ByteArray) : Maps.has (endSet f k nm) (.string nm.data.toList) = true := by
  unfold endSet
  cases ho : occ f k nm with
  | true => simp only [if_true]; rw [has_keys]; exact ho
  | false =>
    simp only [Bool.false_eq_true, if_false]
    rw [setOf_snoc, has_put_same (tidy_setOf _ _ (key_lit _ f k rfl)).isMap (show WideAt.IsKeyLit (.string _) from trivial)]

theorem endSet_all (f : Nat → ByteArray) (k : Nat) (nm : ByteArray) (i : Nat) (hi : i < k) : Maps.has (endSet f k nm) (.string (f i).data.toList) = true := by
  have h1 : occ f k (f i) = true := occ_of hi rfl
  unfold endSet
  cases ho : occ f k nm with
  | true => simp only [if_true]; rw [has_keys]; exact h1
  | false =>
    simp only [Bool.false_eq_true, if_false]
    rw [setOf_snoc]
    have hne : (Lit.string (f i).data.toList) ≠ Lit.string nm.data.toList := fun e => by
      have e2 : (f i).toList = nm.toList := by rw [ByteArray.toList_eq, ByteArray.toList_eq]; injection e
      exact occ_false ho i hi e2
    rw [has_put_other hne, has_keys]; exact h1

/-- The members while their names are laid in: the first t are. -/
def Half (w : World) (W n t : Nat) (f : Nat → ByteArray) : Prop :=
  ∃ cur, w.heap[W]? = some (.cells cur 42 (0, 0)) ∧ ∀ i, i < n → cur[i * 2 + 1]? = some (.pointer none) ∧ ∃ s, cur[i * 2]? = some (.string s) ∧ (i < t → s = f i)

theorem made_get (n j : Nat) (hj : j < n) : (madeCells #[.string ByteArray.empty, .pointer none] n)[j]? = some (if j % 2 = 0 then .string ByteArray.empty else .pointer none) := by
  unfold madeCells
  rw [Array.getElem?_map, Array.getElem?_range, if_pos hj]
  have h2 : j % 2 = 0 ∨ j % 2 = 1 := by omega
  rcases h2 with h | h <;> simp [h]

theorem Half.start {w : World} {B W n : Nat} {f : Nat → ByteArray} (h : w.ownsRow B 42 2 (.slice (some ⟨W, 0, none⟩) n n) n (madeCells #[.string ByteArray.empty, .pointer none] (n * 2)).toList) : Half w W n 0 f := by
  rcases h.2 with ⟨hv, _⟩ | ⟨g, cap, cur, hv, _, hg, _, _, hsz, htake⟩
  · simp at hv
  · simp at hv
    obtain ⟨rfl, rfl⟩ := hv
    refine ⟨cur, hg, fun i hi => ?_⟩
    have hget : ∀ j, j < n * 2 → cur[j]? = some (if j % 2 = 0 then .string ByteArray.empty else .pointer none) := fun j hj => by
      have h1 := congrArg (fun l => l[j]?) htake
      simp only [List.getElem?_take, if_pos hj] at h1
      rw [← made_get (n * 2) j hj]
      simpa using h1
    refine ⟨by rw [hget _ (by omega), if_neg (by omega)], ByteArray.empty, by rw [hget _ (by omega), if_pos (by omega)], fun h => by omega⟩

theorem Half.step {w : World} {W n t : Nat} {f : Nat → ByteArray} (h : Half w W n t f) (ht : t < n) : Half (w.setCell ⟨W, t * 2, none⟩ (.string (f t))) W n (t + 1) f := by
  obtain ⟨cur, hW, hc⟩ := h
  refine ⟨cur.setIfInBounds (t * 2) (.string (f t)), by simp [World.setCell, Array.getElem?_modify, hW], fun i hi => ?_⟩
  have hb : t * 2 < cur.size := by
    obtain ⟨_, s, hs, _⟩ := hc t ht
    exact (Array.getElem?_eq_some_iff.1 hs).1
  obtain ⟨h1, s, h2, h3⟩ := hc i hi
  refine ⟨by rw [Array.getElem?_setIfInBounds, if_neg (by omega)]; exact h1, ?_⟩
  by_cases e : i = t
  · subst e
    exact ⟨f i, by rw [Array.getElem?_setIfInBounds, if_pos rfl, if_pos hb], fun _ => rfl⟩
  · exact ⟨s, by rw [Array.getElem?_setIfInBounds, if_neg (by omega)]; exact h2, fun hlt => h3 (by omega)⟩

theorem Half.mem {w : World} {W n : Nat} {f : Nat → ByteArray} (h : Half w W n n f) : Mem w (some ⟨W, 0, none⟩) n f := by
  obtain ⟨cur, hW, hc⟩ := h
  refine .inr ⟨W, cur, rfl, hW, fun i hi => ?_⟩
  obtain ⟨h1, s, h2, h3⟩ := hc i hi
  exact ⟨by rw [h2, h3 hi], h1⟩

theorem Half.cell {w : World} {W n t : Nat} {f : Nat → ByteArray} (h : Half w W n t f) (i : Nat) (hi : i < n) : (∃ s, w.cell? ⟨W, i * 2, none⟩ = some (.string s)) ∧ w.frozen? ⟨W, i * 2, none⟩ = false := by
  obtain ⟨cur, hW, hc⟩ := h
  obtain ⟨h1, s, h2, h3⟩ := hc i hi
  exact ⟨⟨s, by simp [World.cell?, hW, h2]⟩, by simp [World.frozen?, hW]⟩

theorem ownsMap_below {w w' : World} {mb n : Nat} {D : DataW Unit} (h : w.ownsMap Try.prog 9 unitElem mb n D) (hb : Below w.heap.size w w') : w'.ownsMap Try.prog 9 unitElem mb n D := by
  obtain ⟨es, cl, hbm, r⟩ := h
  exact ⟨es, cl, (hb.block mb (Array.getElem?_eq_some_iff.1 hbm).1).trans hbm, r⟩

theorem look_run {w : World} {mb n : Nat} {D : DataW Unit} {s : ByteArray} (h : w.ownsMap Try.prog 9 unitElem mb n D) (hs : s.size ≤ maxLen) (hh : Maps.has D (.string s.data.toList) = true) :
    (Instr.lookup 36 (.map (some mb)) (.string s) true).run Try.prog w = .ok (.tuple #[.agg #[], .bool true]) w := by
  obtain ⟨v, ps, hrun, hv⟩ := h.look_ok law9 Try.underlying36 (zero43 _) unitElem_mk (WideMaps.keyOf_string_mk Try.underlying9 hs)
  obtain ⟨rfl, _⟩ := unitElem_inv hv
  rw [hrun, hh]

set_option maxRecDepth 100000 in
set_option maxHeartbeats 3200000 in
theorem member_main (a : Option Addr) (n c : Nat) (f : Nat → ByteArray) (nm : ByteArray) (w : World) (hnm : nm.size ≤ maxLen) (hfs : ∀ i, i < n → (f i).size ≤ maxLen) (h : Read w a n c f) :
    Calls Try.prog 9 #[.slice a n c, .string nm] w fun e w' => e = .returned (.bool true) ∧ Below w.heap.size w w' := by
  obtain ⟨i0, hi0, hz0, hz1, hz2⟩ := info_parts info42
  have qm : ∀ (w : World) (r : Option Nat), (binOp .eql 36 (.map r) (.map none)).run Try.prog w = .ok (.bool r.isNone) w := fun w r => run_eql_map_nil w _ _ _ r Try.underlying36
  have HF := hide hfs
  clear hfs
  go_enter Try.func9, Try.ntmps9
  go_wp2_with fail
  refine (bytes9 a n c f nm _ h).mono ?_
  rintro e w' ⟨ho, rfl⟩
  rcases ho with rfl | ⟨rfl, hn1⟩
  · go_wp2_with fail
    go_ret
    exact ⟨rfl, Below.refl _ _⟩
  go_wp2_with fail
  refine (toobig a n c f nm _ hn1 h).mono ?_
  rintro e w' ⟨ho, rfl⟩
  rcases ho with rfl | ⟨rfl, hn2⟩
  · go_wp2_with fail
    go_ret
    exact ⟨rfl, Below.refl _ _⟩
  go_wp2_with fail
  refine (clone_any a n c f _ hn1 h).mono ?_
  rintro e w1 ⟨a1, c1, rfl, hS, hbel1⟩
  have hs1 := hbel1.size
  go_wp2_with (at_make; refine wpList_make_full _ rfl _ _ 35 rfl w.heap.size 42 i0 _ 2 Try.underlying35 hi0 hz0 hz1 _ _ _ _ n rfl rfl rfl rfl (by rw [hz2]; omega) (by unfold maxLen; omega) hs1 ?_; intro w2 hown2 hgrow2)
  have hb2 := (hbel1.grown hgrow2 hs1 (by simp))
  have hS2 : Strs w2 a1 n c1 f := hS.kept fun b hr => hgrow2.block b hr.lt (by simp)
  have hH2 : Half w2 w1.heap.size n 0 f := Half.start hown2
  clear hgrow2 hS hbel1 hown2
  go_loopw [6] (fun i wr => ∃ t : Nat, t ≤ n ∧ i = .int .i64 t ∧ Half wr w1.heap.size n t f ∧ Strs wr a1 n c1 f ∧ Below w.heap.size w wr)
    (fun i _ => n - (intOf i).toNat)
  case atStart => exact ⟨0, Nat.zero_le _, rfl, hH2, hS2, hb2⟩
  case round =>
    clear hH2 hS2 hb2
    obtain ⟨t, ht, rfl, hH, hS, hbel⟩ := hrel
    have hsr := hbel.size
    by_cases hlt : t < n
    · obtain ⟨b, rfl, hrow⟩ := hS.form (by omega)
      have q1 := hrow.cell hlt
      obtain ⟨⟨s, q2⟩, q3⟩ := hH.cell t hlt
      have HH := hide hH
      clear hH
      go_wp2_with fail
      go_roundw
      case rel =>
        refine ⟨t + 1, by omega, by go_num, (unhide HH).step hlt, hS.kept (fun b' hr => Below.heap_setCell _ _ _ _ (fun e => ?_)), hbel.setCell hs1 _⟩
        obtain ⟨cur, hW, _⟩ := unhide HH
        obtain ⟨cs, hb, _⟩ := hr
        simp at e; subst e; rw [hW] at hb; simp at hb
      case measure => simp [intOf]; omega
    · obtain rfl : n = t := by omega
      have hM := hH.mem
      have HM := hide hM
      have hWlt : w1.heap.size < wr.heap.size := by obtain ⟨cur, hW, _⟩ := hH; exact (Array.getElem?_eq_some_iff.1 hW).1
      clear hH hM
      have hVat : (wr.alloc (.cells #[.map none] 36)).heap[wr.heap.size]? = some (.cells #[.map none] 36 (0, 0)) := heap_alloc_new _ _
      by_cases h16 : n < 16
      · go_wp2_with fail
        refine (zz_small _ n n _ f nm _ h16 ((unhide HM).alloc _)).mono ?_
        rintro e w5 ⟨rfl, hb5⟩
        have hV5 : w5.cell? ⟨wr.heap.size, 0, none⟩ = some (.map none) := by rw [hb5.cell (by simp)]; simp
        have hS5 : Strs w5 a1 n c1 f := hS.kept fun b hr => by
          have := hr.lt
          rw [hb5.block b (by simp; omega), Below.heap_alloc _ _ _ hr.lt]
        have hbel5 := (hbel.alloc hsr (.cells #[.map none] 36)).trans (hb5.mono (by simp; omega))
        generalize hoc : occ f n nm = oc
        have HO := hide hoc
        clear hoc hb5 hbel hS
        go_wp2_with fail
        refine (occ_any _ n c1 n f nm _ hn1 (Nat.le_refl _) hS5).mono ?_
        rintro e w' ⟨rfl, rfl⟩
        rw [unhide HO]
        go_wp2_with fail
        go_ret
        exact ⟨rfl, hbel5⟩
      · go_wp2_with fail
        refine (zz_new _ n n wr.heap.size w.heap.size f nm _ (by omega) (by omega) hnm (unhide HF) hVat hsr ((unhide HM).alloc _)).mono ?_
        rintro e w5 ⟨rfl, mb, hmb, hm5, hk5, hV5⟩
        have hS5 : Strs w5 a1 n c1 f := hS.kept fun b hr => by
          have hlt := hr.lt
          obtain ⟨cs, hb, _⟩ := hr
          rw [hk5.rows b cs 9 (0, 0) (by omega) ((Below.heap_alloc _ _ _ hlt).trans hb), Below.heap_alloc _ _ _ hlt]
        have hbel5 := (hbel.alloc hsr (.cells #[.map none] 36)).trans hk5.below
        have hs5 := hbel5.size
        have hVlt := World.block_lt_of_cell? w5 _ hV5
        generalize hoc : occ f n nm = oc
        have HO := hide hoc
        clear hoc hk5 hbel hS
        go_wp2_with fail
        refine (occ_any _ n c1 n f nm _ hn1 (Nat.le_refl _) hS5).mono ?_
        rintro e w' ⟨rfl, rfl⟩
        rw [unhide HO]
        generalize wr.heap.size = V at *
        go_upto_region 20 with fail
        go_cut [10] (fun v wx => v = .int .i64 0 ∧ wx = w5)
        case first =>
          go_wp2_with fail
          go_meet
          case rel => exact ⟨rfl, rfl⟩
        case rest =>
        obtain ⟨rfl, hw⟩ := hcut
        subst hw
        go_wp2_with fail
        go_loopw [10] (fun i wr => ∃ t : Nat, t ≤ n ∧ i = .int .i64 t ∧ Below wc.heap.size wc wr) (fun i _ => n - (intOf i).toNat)
        case atStart => exact ⟨0, Nat.zero_le _, rfl, Below.refl _ _⟩
        case round =>
          obtain ⟨t, ht, rfl, hb6⟩ := hrel
          have hs6 := hb6.size
          have hVr := (hb6.cell (p := ⟨V, 0, none⟩) hVlt).trans hV5
          have hmr := ownsMap_below hm5 hb6
          by_cases hlt : t < n
          · obtain ⟨b, rfl, hrow⟩ := hS5.form (by omega)
            have q1 := (hb6.cell (p := ⟨b, t, none⟩) hrow.lt).trans (hrow.cell hlt)
            have l1 := look_run (w := wr.drew) (s := f t) hmr (unhide HF t hlt) (endSet_all f n nm t hlt)
            have l2 := look_run (w := (wr.alloc (.cells #[] 43)).drew) (s := f t) (hmr.alloc _) (unhide HF t hlt) (endSet_all f n nm t hlt)
            have g1 : (t : Int) < (n : Int) := by omega
            have g0 : (0 : Int) ≤ (t : Int) := by omega
            have hVlr : V < wr.heap.size := Nat.lt_of_lt_of_le hVlt hs6
            have hblr : b < wr.heap.size := by have := hrow.lt; omega
            have v2 : (wr.alloc (.cells #[] 43)).cell? ⟨V, 0, none⟩ = some (.map (some mb)) := by rw [World.cell?_alloc_past _ _ _ hVlr]; exact hVr
            have v3 : (wr.alloc (.cells #[] 43)).cell? ⟨b, t, none⟩ = some (.string (f t)) := by rw [World.cell?_alloc_past _ _ _ hblr]; exact q1
            go_wp2_with fail
            go_region
            all_goals
              clear l1 l2 v2 v3
              go_wp2_with fail
              go_roundw
              case rel => exact ⟨t + 1, by omega, by go_num, (hb6.alloc hs6 _).drew⟩
              case measure => simp [intOf]; omega
          · have hkey : keyOf Try.prog 9 (.string nm) = some (.string nm.data.toList) := WideMaps.keyOf_string_mk Try.underlying9 hnm
            have hh := endSet_nm f n nm
            have hVlr : V < wr.heap.size := Nat.lt_of_lt_of_le hVlt hs6
            go_wp2_with (first
              | (at_lookup; refine wpList_lookup_own_unit _ rfl _ _ 36 rfl 9 43 law9 Try.underlying36 (zero43 _) mb (n + 1) _ rfl hmr _ _ rfl hkey ?_))
            have hb7 := hb6.alloc hs6 (.cells #[] 43)
            clear hb6 hmr hVr hs6 hh hVlr
            go_loopw [15, 16] (fun z i wr => ∃ t : Nat, t ≤ n ∧ i = .int .i64 t ∧ z = .int .i64 (dc f t) ∧ Below wc.heap.size wc wr) (fun _ i _ => n - (intOf i).toNat)
            case atStart => exact ⟨0, Nat.zero_le _, rfl, rfl, hb7⟩
            case round =>
              clear hb7
              obtain ⟨t, ht, rfl, rfl, hb6⟩ := hrel
              have hs6 := hb6.size
              have hdl := dc_le f t
              by_cases hlt : t < n
              · have hS6 : Strs wr a1 n c1 f := hS5.kept fun b hr => hb6.block b hr.lt
                obtain ⟨b, rfl, hrow⟩ := hS6.form (by omega)
                have q1 := hrow.cell hlt
                cases ho : occ f t (f t) with
                | true =>
                  have HO3 := hide ho
                  clear ho
                  go_wp2_with fail
                  refine (occ_any _ n c1 t f (f t) _ hn1 (by omega) hS6).mono ?_
                  rintro e w' ⟨rfl, rfl⟩
                  rw [unhide HO3]
                  go_wp2_with fail
                  go_roundw
                  case rel => exact ⟨t + 1, by omega, by go_num, by rw [dc, unhide HO3]; simp, hb6⟩
                  case measure => simp [intOf]; omega
                | false =>
                  have HO3 := hide ho
                  clear ho
                  go_wp2_with fail
                  refine (occ_any _ n c1 t f (f t) _ hn1 (by omega) hS6).mono ?_
                  rintro e w' ⟨rfl, rfl⟩
                  rw [unhide HO3]
                  go_wp2_with fail
                  go_roundw
                  case rel => exact ⟨t + 1, by omega, by go_num, by rw [dc, unhide HO3]; simp, hb6⟩
                  case measure => simp [intOf]; omega
              · obtain rfl : n = t := by omega
                have hVr := (hb6.cell (p := ⟨V, 0, none⟩) hVlt).trans hV5
                have hmr := ownsMap_below hm5 hb6
                have hsz := endSet_size f n nm
                rw [unhide HO] at hsz
                have hbel7 := hbel5.trans (hb6.mono hs5)
                have HSZ := hide hsz
                clear hsz
                cases oc with
                | true =>
                  go_wp2_with (at_len; refine wpList_len_own _ rfl _ 36 rfl 9 43 Try.underlying36 _ mb (n + 1) _ rfl hmr ?_)
                  go_ret
                  exact ⟨by rw [unhide HSZ]; simp, hbel7⟩
                | false =>
                  go_wp2_with (at_len; refine wpList_len_own _ rfl _ 36 rfl 9 43 Try.underlying36 _ mb (n + 1) _ rfl hmr ?_)
                  go_ret
                  exact ⟨by rw [unhide HSZ]; simp, hbel7⟩
end Go.Proofs.Qxb6600580a.Rep

import Derived.Test.Qxb6600486aRingCalls
import Derived.Deep.RegionHeld3
import Derived.Deep.DrawnRows
namespace Go.Proofs.Qxb6600486a
set_option linter.unusedVariables false
open Go.RowKit Csr
attribute [local go_sem ↓] Go.wp_at_zero Go.wp_at_succ

theorem wrapEq (x : Int) : IntKind.i64.wrap x = wrap64 x := by rw [IntKind.wrap_i64]; unfold wrap64; rfl
theorem wrap_id (x : Int) (h : 0 ≤ x) (h2 : x ≤ 1000000) : IntKind.i64.wrap x = x := by rw [wrapEq]; unfold wrap64; omega

theorem Try.info4 : (Try.prog.info? 4).map (fun i => (i.zero, i.size, i.bytes)) = some (some (.bool false), 1, 1) := by kernel_rfl

theorem edge_keep {w wr w5 : World} {B n k cp : Nat} {a : Option Addr} {f : Nat → Int} {g : Nat → Value} {o : Obj} (hown : OwnF wr (B + 1) a k cp f) (hg : (wr.alloc o).drew.grownBy w5 (Value.slice a k cp).ownBlock)
    (hrow : wr.rowIs B 4 n g) (hbel : Below B w wr) (hs : B + 1 ≤ wr.heap.size) : w5.rowIs B 4 n g ∧ Below B w w5 ∧ B + 1 ≤ w5.heap.size := by
  have hne : ∀ k', (Value.slice a k cp).ownBlock = some k' → B + 1 ≤ k' := fun k' h => (World.ownsRow.lt hown k' h).1
  refine ⟨hrow.of_block ?_, ?_, ?_⟩
  · rw [hg.block B (by simp; omega) (fun e => by have := hne B e.symm; omega)]
    exact Below.heap_alloc _ _ _ (by omega)
  · exact (hbel.alloc (by omega) o).drew.grown hg (by simp; omega) (fun k' h => by have := hne k' h; omega)
  · have := hg.size; simp at this; omega

set_option maxRecDepth 100000 in
set_option maxHeartbeats 3200000 in
theorem ring_main (n p : Nat) (b1 o1 l cap1 : Nat) (a2 : Option Addr) (len2 cap2 : Nat) (z x : Nat → Int) (w : World)
    (hn : n ≤ 65536) (h2 : 2 ≤ l) (hl : l ≤ 4096) (hl2 : len2 ≤ 8192) (hp : p ≤ len2 / 2) (hb1 : b1 < w.heap.size)
    (hz : ∀ i, i < l → w.cell? ⟨b1, o1 + i, none⟩ = some (.int .i64 (z i)))
    (hx : len2 = 0 ∨ ∃ b2 o2, a2 = some ⟨b2, o2, none⟩ ∧ b2 < w.heap.size ∧ ∀ i, i < len2 → w.cell? ⟨b2, o2 + i, none⟩ = some (.int .i64 (x i))) :
    Calls Try.prog 6 #[.int .i64 n, .slice (some ⟨b1, o1, none⟩) l cap1, .slice a2 len2 cap2, .int .i64 p] w fun e w' => e = .returned (.bool true) ∧ Below w.heap.size w w' := by
  have hmk := run_make_row' (P := Try.prog) 30 4 (.bool false) 1 Try.underlying30 Try.info4 rfl .i64 .i64 n (by omega) (by omega)
  obtain ⟨m, hm⟩ : ∃ m, m = len2 / 2 := ⟨_, rfl⟩
  have hmi : (len2 : Int) / 2 = (m : Int) := by omega
  have HM := hide hm
  have HX := hide hx
  rw [← hm] at hp
  have hm4 : m ≤ 4096 := by omega
  clear hm hx
  go_enter Try.func6, Try.ntmps6
  go_wp2_with fail
  refine (bytesC_ok _ _ _ _ _ _ _ _ _ (by omega)).mono ?_
  rintro e w' ⟨rfl, rfl⟩
  go_upto_region 16 with fail
  go_cut [12] (fun i wx => i = .int .i64 0 ∧ wx = w.alloc (.cells (madeCells #[.bool false] n) 4))
  case first =>
    go_wp2_with fail
    go_meet
    case rel => exact ⟨rfl, rfl⟩
  case rest =>
  obtain ⟨rfl, rfl⟩ := hcut
  go_wp2_with fail
  go_loopw [12] (fun i wr => ∃ t : Nat, t ≤ l ∧ i = .int .i64 t ∧ wr.rowIs w.heap.size 4 n (fun v => .bool (mem z v t)) ∧ Hid ((∀ i, i < t → 0 ≤ z i ∧ z i < n) ∧ ∀ i j, i < t → j < t → z i = z j → i = j) ∧ Below w.heap.size w wr ∧ wr.heap.size = w.heap.size + 1)
    (fun i _ => l - (intOf i).toNat)
  case atStart => exact ⟨0, Nat.zero_le _, rfl, World.rowIs_made w (.bool false) n 4, ⟨fun i h => by omega, fun i j h => by omega⟩, (Below.refl _ _).alloc (Nat.le_refl _) _, by simp⟩
  case round =>
    obtain ⟨t, ht, rfl, hrow, HG, hbel, hsz⟩ := hrel
    by_cases hlt : t < l
    · have hcz := (hbel.cell (p := ⟨b1, o1 + t, none⟩) hb1).trans (hz t hlt)
      clear hz
      by_cases c1 : z t < 0
      · go_wp2_with fail
        go_ret
        exact ⟨rfl, hbel⟩
      · by_cases c2 : (n : Int) ≤ z t
        · have c3 : 0 ≤ z t := by omega
          clear c1
          go_wp2_with fail
          go_ret
          exact ⟨rfl, hbel⟩
        · obtain ⟨q, hq⟩ := Int.eq_ofNat_of_zero_le (show 0 ≤ z t by omega)
          have HQ := hide hq
          rw [hq] at hcz
          have hqn : q < n := by omega
          clear c1 c2 hq
          have hcq := hrow.cell hqn
          have hfq := hrow.frozen q
          cases hmq : mem z (q : Int) t with
          | true =>
            rw [hmq] at hcq
            clear hmq
            go_wp2_with fail
            go_ret
            exact ⟨rfl, hbel⟩
          | false =>
            rw [hmq] at hcq
            have HMQ := hide hmq
            clear hmq
            go_wp2_with fail
            go_roundw
            case rel =>
              refine ⟨t + 1, by omega, by go_num, (hrow.set q _).congr (fun j hj => mem_step z t q j (unhide HQ)), ⟨fun i hi => ?_, inj_step HG.2 (by rw [unhide HQ]; exact unhide HMQ)⟩, hbel.setCell (Nat.le_refl _) _, by simp [hsz]⟩
              by_cases e : i = t
              · subst e; rw [unhide HQ]; omega
              · exact HG.1 i (by omega)
            case measure => simp [intOf]; omega
    · obtain rfl : l = t := by omega
      go_wp2_with fail
      go_loopw [14] (fun i wr => ∃ t : Nat, t ≤ m ∧ i = .int .i64 t ∧ wr.rowIs w.heap.size 4 n (fun v => .bool (mem z v l)) ∧ Hid (∀ j, j < t → (0 ≤ x (2 * j) ∧ x (2 * j) < l) ∧ 0 ≤ x (2 * j + 1) ∧ x (2 * j + 1) < n ∧ mem z (x (2 * j + 1)) l = false) ∧ Below w.heap.size w wr ∧ wr.heap.size = w.heap.size + 1)
        (fun i _ => m - (intOf i).toNat)
      case atStart => exact ⟨0, Nat.zero_le _, rfl, hrow, fun j h => by omega, hbel, hsz⟩
      case round =>
        clear hrow hbel hsz
        obtain ⟨t, ht, rfl, hrow, HE, hbel, hsz⟩ := hrel
        by_cases hlt1 : t < m
        · have hm2 := unhide HM
          obtain ⟨b2, o2, rfl, hb2, hx⟩ : ∃ b2 o2, a2 = some ⟨b2, o2, none⟩ ∧ b2 < w.heap.size ∧ ∀ i, i < len2 → w.cell? ⟨b2, o2 + i, none⟩ = some (.int .i64 (x i)) := by
            rcases unhide HX with h | h
            · omega
            · exact h
          have hl3 : 2 * t + 1 < len2 := by omega
          have hc0 := (hbel.cell (p := ⟨b2, o2 + 2 * t, none⟩) hb2).trans (hx (2 * t) (by omega))
          have hc1 := (hbel.cell (p := ⟨b2, o2 + (2 * t + 1), none⟩) hb2).trans (hx (2 * t + 1) (by omega))
          clear hx hz hm2
          by_cases c1 : x (2 * t) < 0
          · go_wp2_with fail
            go_ret
            exact ⟨rfl, hbel⟩
          by_cases c2 : (l : Int) ≤ x (2 * t)
          · have c3 : 0 ≤ x (2 * t) := by omega
            clear c1
            go_wp2_with fail
            go_ret
            exact ⟨rfl, hbel⟩
          have d1 : 0 ≤ x (2 * t) := by omega
          have d2 : x (2 * t) < l := by omega
          clear c1 c2
          by_cases c1 : x (2 * t + 1) < 0
          · go_wp2_with fail
            go_ret
            exact ⟨rfl, hbel⟩
          by_cases c2 : (n : Int) ≤ x (2 * t + 1)
          · have c3 : 0 ≤ x (2 * t + 1) := by omega
            clear c1
            go_wp2_with fail
            go_ret
            exact ⟨rfl, hbel⟩
          obtain ⟨q, hq⟩ := Int.eq_ofNat_of_zero_le (show 0 ≤ x (2 * t + 1) by omega)
          have HQ := hide hq
          rw [hq] at hc1
          have hqn : q < n := by omega
          clear c1 c2 hq
          have hcq := hrow.cell hqn
          cases hmq : mem z (q : Int) l with
          | true =>
            rw [hmq] at hcq
            clear hmq
            go_wp2_with fail
            go_ret
            exact ⟨rfl, hbel⟩
          | false =>
            rw [hmq] at hcq
            have HMQ := hide hmq
            clear hmq
            go_wp2_with fail
            go_roundw
            case rel =>
              refine ⟨t + 1, by omega, by go_num, hrow, fun j hj => ?_, hbel, hsz⟩
              by_cases e : j = t
              · subst e; rw [unhide HQ]; exact ⟨⟨d1, d2⟩, by omega, by omega, unhide HMQ⟩
              · exact HE j (by omega)
            case measure => simp [intOf]; omega
        · obtain rfl : m = t := by omega
          obtain ⟨i0, hi0, hz0, hz1, hz2⟩ := info_parts Try.info3
          have hgood : Good n l m p z x := ⟨h2, hl, hm4, hp, HG.1, HG.2, fun j hj => (HE j hj).1, fun j hj => ⟨(HE j hj).2.1, (HE j hj).2.2.1, mem_false.1 (HE j hj).2.2.2⟩⟩
          have hsB : w.heap.size + 1 ≤ wr.heap.size := by omega
          go_wp2_with (at_make; refine wpList_make_own _ rfl _ _ 22 rfl (w.heap.size + 1) 3 i0 _ 1 Try.underlying22 hi0 hz0 hz1 _ _ _ (2 * (l + m)) rfl rfl (by omega) (by rw [hz2]; omega) (by unfold maxLen; omega) hsB ?_; intro w2 hown2 hgrow2)
          have hrow2 : w2.rowIs w.heap.size 4 n (fun v => .bool (mem z v l)) := hrow.of_block (hgrow2.block _ hrow.lt (by simp))
          have hbel2 := hbel.grown hgrow2 (by omega) (by simp)
          have hs2 := hgrow2.size
          rw [hsz] at hown2
          have HG2 := hide hgood
          clear hrow hbel hsz hgrow2 HE HG hgood
          go_loopw [17, 18] (fun v i wr => ∃ (t : Nat) (a : Option Addr) (cp : Nat), t ≤ p ∧ i = .int .i64 t ∧ v = .slice a (2 * t) cp ∧ OwnF wr (w.heap.size + 1) a (2 * t) cp (ef z x l p) ∧ wr.rowIs w.heap.size 4 n (fun v => .bool (mem z v l)) ∧ Below w.heap.size w wr ∧ w.heap.size + 1 ≤ wr.heap.size)
            (fun _ i _ => p - (intOf i).toNat)
          case atStart => exact ⟨0, _, _, Nat.zero_le _, rfl, rfl, hown2, hrow2, hbel2, by omega⟩
          case round =>
            clear hown2 hrow2 hbel2 hs2
            obtain ⟨t, a, cp, ht, rfl, rfl, hown, hrow, hbel, hsB⟩ := hrel
            by_cases hlt1 : t < p
            · --A3
              have hm2 := unhide HM
              obtain ⟨b2, o2, rfl, hb2, hx⟩ : ∃ b2 o2, a2 = some ⟨b2, o2, none⟩ ∧ b2 < w.heap.size ∧ ∀ i, i < len2 → w.cell? ⟨b2, o2 + i, none⟩ = some (.int .i64 (x i)) := by
                rcases unhide HX with h | h
                · omega
                · exact h
              have hl3 : 2 * t + 1 < len2 := by omega
              obtain ⟨q, hq⟩ := Int.eq_ofNat_of_zero_le ((unhide HG2).ix t (by omega)).1
              have hql : q < l := by have := ((unhide HG2).ix t (by omega)).2; omega
              have HQ := hide hq
              have hc0 := (hbel.cell (p := ⟨b2, o2 + 2 * t, none⟩) hb2).trans (hx (2 * t) (by omega))
              have hc1 := (hbel.cell (p := ⟨b2, o2 + (2 * t + 1), none⟩) hb2).trans (hx (2 * t + 1) (by omega))
              have hc2 := (hbel.cell (p := ⟨b1, o1 + q, none⟩) hb1).trans (hz q hql)
              rw [hq] at hc0
              have hne1 : (Value.slice a (2 * t) cp).ownBlock ≠ some b1 := fun h => by have := (World.ownsRow.lt hown _ h).1; omega
              have hne2 : (Value.slice a (2 * t) cp).ownBlock ≠ some b2 := fun h => by have := (World.ownsRow.lt hown _ h).1; omega
              have r1 : (0 : Int) ≤ (q : Int) := by omega
              have r2 : (q : Int) < (l : Int) := by omega
              have r3 : (0 : Int) ≤ 2 * (t : Int) := by omega
              have r4 : 2 * (t : Int) < (len2 : Int) := by omega
              have r5 : (0 : Int) ≤ 2 * (t : Int) + 1 := by omega
              have r6 : 2 * (t : Int) + 1 < (len2 : Int) := by omega
              have r7 := wrap_id (2 * (t : Int)) (by omega) (by omega)
              have r8 := wrap_id (2 * (t : Int) + 1) (by omega) (by omega)
              have r9 : (2 * (t : Int)).toNat = 2 * t := by omega
              have r10 : (2 * (t : Int) + 1).toNat = 2 * t + 1 := by omega
              have hlb1 : b1 < wr.heap.size := by omega
              have hlb2 : b2 < wr.heap.size := by omega
              clear hx hz hm2 hq
              go_wp2_with fail
              go_region_held3 (fun w' => w'.cell? ⟨b2, o2 + 2 * t, none⟩ = some (.int .i64 q) ∧ w'.cell? ⟨b2, o2 + (2 * t + 1), none⟩ = some (.int .i64 (x (2 * t + 1))) ∧ w'.cell? ⟨b1, o1 + q, none⟩ = some (.int .i64 (z q)))
                (first
                  | go_keep
                  | (go_split_ands
                     refine ⟨?_, ?_, ?_⟩
                     · (rw [hgrow5.cell_far _ (by simp; omega) (Ne.symm hne2)]; assumption)
                     · (rw [hgrow5.cell_far _ (by simp; omega) (Ne.symm hne2)]; assumption)
                     · (rw [hgrow5.cell_far _ (by simp; omega) (Ne.symm hne1)]; assumption)))
                ((refine step_append_lies _ (by rfl) _ _ _ (by rfl) (w.heap.size + 1) 3 i0 _ 1 8 Try.underlying22 hi0 hz0 hz1 hz2 rfl (by omega) (.slice a (2 * t) cp) (2 * t) _ (by rfl) ((World.ownsRow.alloc hown _).drew)
                    ⟨wr.heap.size, 0, none⟩ 2 2 [.int .i64 (z q), .int .i64 (x (2 * t + 1))] (by rfl) (by rfl) (World.news_of_block (cs := #[.int .i64 (z q), .int .i64 (x (2 * t + 1))]) (t := 3) (fr := (0, 0)) (heap_alloc_new wr _)) (ints_oneCell .i64 [z q, x (2 * t + 1)])
                    (by omega) (by unfold maxLen; omega) (by omega) (by simp; omega) (wr.heap.size + 1) (by simp) ?_; intro g5 cp5 w5 hown5 hgrow5 hat5 hlt5))
              all_goals
                have hown6 := OwnF.snoc2 hown5 (by rw [ef_even]; unfold es; rw [if_pos hlt1, unhide HQ, Int.toNat_natCast]) (by rw [ef_odd]; unfold ed; rw [if_pos hlt1])
                obtain ⟨hrow6, hbel6, hs6⟩ := edge_keep hown hgrow5 hrow hbel hsB
                clear hown5 hgrow5 hown hrow hbel hsB
                go_wp2_with fail
                go_roundw
                case rel => exact ⟨t + 1, _, _, by omega, by go_num, rfl, hown6, hrow6, hbel6, hs6⟩
                case measure => simp [intOf]; omega
              --B3
            · obtain rfl : p = t := by omega
              go_wp2_with fail
              go_loopw [17, 19] (fun v i wr => ∃ (t : Nat) (a : Option Addr) (cp : Nat), t ≤ l ∧ i = .int .i64 t ∧ v = .slice a (2 * (p + t)) cp ∧ OwnF wr (w.heap.size + 1) a (2 * (p + t)) cp (ef z x l p) ∧ wr.rowIs w.heap.size 4 n (fun v => .bool (mem z v l)) ∧ Below w.heap.size w wr ∧ w.heap.size + 1 ≤ wr.heap.size)
                (fun _ i _ => l - (intOf i).toNat)
              case atStart => exact ⟨0, _, _, Nat.zero_le _, rfl, rfl, hown, hrow, hbel, hsB⟩
              case round =>
                clear hown hrow hbel hsB
                obtain ⟨t, a, cp, ht, rfl, rfl, hown, hrow, hbel, hsB⟩ := hrel
                by_cases hlt1 : t < l
                · --A4
                  obtain ⟨q, hq⟩ : ∃ q, q = (t + 1) % l := ⟨_, rfl⟩
                  have hql : q < l := by rw [hq]; exact Nat.mod_lt _ (by omega)
                  have hqi : ((t : Int) + 1) % (l : Int) = (q : Int) := by rw [hq]; norm_cast
                  have HQ := hide hq
                  have hc0 := (hbel.cell (p := ⟨b1, o1 + t, none⟩) hb1).trans (hz t hlt1)
                  have hc2 := (hbel.cell (p := ⟨b1, o1 + q, none⟩) hb1).trans (hz q hql)
                  have hne1 : (Value.slice a (2 * (p + t)) cp).ownBlock ≠ some b1 := fun h => by have := (World.ownsRow.lt hown _ h).1; omega
                  have r1 : (0 : Int) ≤ (q : Int) := by omega
                  have r2 : (q : Int) < (l : Int) := by omega
                  have r3 : (0 : Int) ≤ (t : Int) := by omega
                  have r4 : (t : Int) < (l : Int) := by omega
                  have r7 := wrap_id ((t : Int) + 1) (by omega) (by omega)
                  have r8 : ¬ l = 0 := by omega
                  have r9 : ((t : Int) + 1).tmod (l : Int) = (q : Int) := by rw [Int.tmod_eq_emod_of_nonneg (by omega)]; exact hqi
                  have r10 := wrap_id (q : Int) (by omega) (by omega)
                  have hlb1 : b1 < wr.heap.size := by omega
                  clear hz hq
                  go_wp2_with fail
                  go_region_held3 (fun w' => w'.cell? ⟨b1, o1 + t, none⟩ = some (.int .i64 (z t)) ∧ w'.cell? ⟨b1, o1 + q, none⟩ = some (.int .i64 (z q)))
                    (first
                      | go_keep
                      | (go_split_ands
                         refine ⟨?_, ?_⟩
                         · (rw [hgrow5.cell_far _ (by simp; omega) (Ne.symm hne1)]; assumption)
                         · (rw [hgrow5.cell_far _ (by simp; omega) (Ne.symm hne1)]; assumption)))
                    ((refine step_append_lies _ (by rfl) _ _ _ (by rfl) (w.heap.size + 1) 3 i0 _ 1 8 Try.underlying22 hi0 hz0 hz1 hz2 rfl (by omega) (.slice a (2 * (p + t)) cp) (2 * (p + t)) _ (by rfl) ((World.ownsRow.alloc hown _).drew)
                        ⟨wr.heap.size, 0, none⟩ 2 2 [.int .i64 (z t), .int .i64 (z q)] (by rfl) (by rfl) (World.news_of_block (cs := #[.int .i64 (z t), .int .i64 (z q)]) (t := 3) (fr := (0, 0)) (heap_alloc_new wr _)) (ints_oneCell .i64 [z t, z q])
                        (by omega) (by unfold maxLen; omega) (by omega) (by simp; omega) (wr.heap.size + 1) (by simp) ?_; intro g5 cp5 w5 hown5 hgrow5 hat5 hlt5))
                  all_goals
                    have hown6 := OwnF.snoc2 hown5 (by rw [ef_even]; unfold es; rw [if_neg (by omega), if_pos (by omega), Nat.add_sub_cancel_left]) (by rw [ef_odd]; unfold ed; rw [if_neg (by omega), if_pos (by omega), Nat.add_sub_cancel_left, ← unhide HQ])
                    obtain ⟨hrow6, hbel6, hs6⟩ := edge_keep hown hgrow5 hrow hbel hsB
                    clear hown5 hgrow5 hown hrow hbel hsB
                    go_wp2_with fail
                    go_roundw
                    case rel => exact ⟨t + 1, _, _, by omega, by go_num, rfl, hown6, hrow6, hbel6, hs6⟩
                    case measure => simp [intOf]; omega
                  --B4
                · obtain rfl : l = t := by omega
                  go_wp2_with fail
                  go_loopw [17, 20] (fun v i wr => ∃ (t : Nat) (a : Option Addr) (cp : Nat), p ≤ t ∧ t ≤ m ∧ i = .int .i64 t ∧ v = .slice a (2 * (l + t)) cp ∧ OwnF wr (w.heap.size + 1) a (2 * (l + t)) cp (ef z x l p) ∧ wr.rowIs w.heap.size 4 n (fun v => .bool (mem z v l)) ∧ Below w.heap.size w wr ∧ w.heap.size + 1 ≤ wr.heap.size)
                    (fun _ i _ => m - (intOf i).toNat)
                  case atStart => exact ⟨p, a, cp, Nat.le_refl _, hp, rfl, by rw [Nat.add_comm], by rw [Nat.add_comm l p]; exact hown, hrow, hbel, hsB⟩
                  case round =>
                    clear hown hrow hbel hsB
                    obtain ⟨t, a, cp, htp, ht, rfl, rfl, hown, hrow, hbel, hsB⟩ := hrel
                    by_cases hlt1 : t < m
                    · --A5
                      have hm2 := unhide HM
                      obtain ⟨b2, o2, rfl, hb2, hx⟩ : ∃ b2 o2, a2 = some ⟨b2, o2, none⟩ ∧ b2 < w.heap.size ∧ ∀ i, i < len2 → w.cell? ⟨b2, o2 + i, none⟩ = some (.int .i64 (x i)) := by
                        rcases unhide HX with h | h
                        · omega
                        · exact h
                      have hl3 : 2 * t + 1 < len2 := by omega
                      obtain ⟨q, hq⟩ := Int.eq_ofNat_of_zero_le ((unhide HG2).ix t (by omega)).1
                      have hql : q < l := by have := ((unhide HG2).ix t (by omega)).2; omega
                      have HQ := hide hq
                      have hc0 := (hbel.cell (p := ⟨b2, o2 + 2 * t, none⟩) hb2).trans (hx (2 * t) (by omega))
                      have hc1 := (hbel.cell (p := ⟨b2, o2 + (2 * t + 1), none⟩) hb2).trans (hx (2 * t + 1) (by omega))
                      have hc2 := (hbel.cell (p := ⟨b1, o1 + q, none⟩) hb1).trans (hz q hql)
                      rw [hq] at hc0
                      have hne1 : (Value.slice a (2 * (l + t)) cp).ownBlock ≠ some b1 := fun h => by have := (World.ownsRow.lt hown _ h).1; omega
                      have hne2 : (Value.slice a (2 * (l + t)) cp).ownBlock ≠ some b2 := fun h => by have := (World.ownsRow.lt hown _ h).1; omega
                      have r1 : (0 : Int) ≤ (q : Int) := by omega
                      have r2 : (q : Int) < (l : Int) := by omega
                      have r3 : (0 : Int) ≤ 2 * (t : Int) := by omega
                      have r4 : 2 * (t : Int) < (len2 : Int) := by omega
                      have r5 : (0 : Int) ≤ 2 * (t : Int) + 1 := by omega
                      have r6 : 2 * (t : Int) + 1 < (len2 : Int) := by omega
                      have r7 := wrap_id (2 * (t : Int)) (by omega) (by omega)
                      have r8 := wrap_id (2 * (t : Int) + 1) (by omega) (by omega)
                      have r9 : (2 * (t : Int)).toNat = 2 * t := by omega
                      have r10 : (2 * (t : Int) + 1).toNat = 2 * t + 1 := by omega
                      have hlb1 : b1 < wr.heap.size := by omega
                      have hlb2 : b2 < wr.heap.size := by omega
                      clear hx hz hm2 hq
                      go_wp2_with fail
                      go_region_held3 (fun w' => w'.cell? ⟨b2, o2 + 2 * t, none⟩ = some (.int .i64 q) ∧ w'.cell? ⟨b2, o2 + (2 * t + 1), none⟩ = some (.int .i64 (x (2 * t + 1))) ∧ w'.cell? ⟨b1, o1 + q, none⟩ = some (.int .i64 (z q)))
                        (first
                          | go_keep
                          | (go_split_ands
                             refine ⟨?_, ?_, ?_⟩
                             · (rw [hgrow5.cell_far _ (by simp; omega) (Ne.symm hne2)]; assumption)
                             · (rw [hgrow5.cell_far _ (by simp; omega) (Ne.symm hne2)]; assumption)
                             · (rw [hgrow5.cell_far _ (by simp; omega) (Ne.symm hne1)]; assumption)))
                        ((refine step_append_lies _ (by rfl) _ _ _ (by rfl) (w.heap.size + 1) 3 i0 _ 1 8 Try.underlying22 hi0 hz0 hz1 hz2 rfl (by omega) (.slice a (2 * (l + t)) cp) (2 * (l + t)) _ (by rfl) ((World.ownsRow.alloc hown _).drew)
                            ⟨wr.heap.size, 0, none⟩ 2 2 [.int .i64 (z q), .int .i64 (x (2 * t + 1))] (by rfl) (by rfl) (World.news_of_block (cs := #[.int .i64 (z q), .int .i64 (x (2 * t + 1))]) (t := 3) (fr := (0, 0)) (heap_alloc_new wr _)) (ints_oneCell .i64 [z q, x (2 * t + 1)])
                            (by omega) (by unfold maxLen; omega) (by omega) (by simp; omega) (wr.heap.size + 1) (by simp) ?_; intro g5 cp5 w5 hown5 hgrow5 hat5 hlt5))
                      all_goals
                        have hown6 := OwnF.snoc2 hown5 (by rw [ef_even]; unfold es; rw [if_neg (by omega), if_neg (by omega), Nat.add_sub_cancel_left, unhide HQ, Int.toNat_natCast]) (by rw [ef_odd]; unfold ed; rw [if_neg (by omega), if_neg (by omega), Nat.add_sub_cancel_left])
                        obtain ⟨hrow6, hbel6, hs6⟩ := edge_keep hown hgrow5 hrow hbel hsB
                        clear hown5 hgrow5 hown hrow hbel hsB
                        go_wp2_with fail
                        go_roundw
                        case rel => exact ⟨t + 1, _, _, by omega, by omega, by go_num, rfl, hown6, hrow6, hbel6, hs6⟩
                        case measure => simp [intOf]; omega
                      --B5
                    · obtain rfl : m = t := by omega
                      go_wp2_with fail
                      obtain ⟨eb, rfl, heb1, heb2⟩ := hown.form (by omega)
                      have hes := fun t ht => (unhide HG2).es_rng t ht
                      refine (csr_any n (l + m) eb cp (fun t => (es z x l p t).toNat) (ed z x l p) _ hn (by omega) (fun t ht => by have := hes t ht; omega)
                        (fun t ht => by have h1 := hes t ht; rw [hown.cell (j := 2 * t) (by omega), ef_even]; simp only [Int.toNat_of_nonneg h1.1]) (fun t ht => by rw [hown.cell (j := 2 * t + 1) (by omega), ef_odd]) heb2).mono ?_
                      rintro e w7 ⟨fb, sb, sf, rfl, hF, hS, hlaid, hb7, hs7⟩
                      have hrow7 : w7.rowIs w.heap.size 4 n (fun v => .bool (mem z v l)) := hrow.of_block (hb7.block _ hrow.lt)
                      have hbel7 := hbel.trans (hb7.mono (by omega))
                      have HL := hide hlaid
                      clear hown hrow hbel hb7 heb1 heb2 hes hlaid hs7
                      go_wp2_with (at_make; refine wpList_make_own _ rfl _ _ 22 rfl w7.heap.size 3 i0 _ 1 Try.underlying22 hi0 hz0 hz1 _ _ _ l rfl rfl (by omega) (by rw [hz2]; omega) (by unfold maxLen; omega) (Nat.le_refl _) ?_; intro w8 hown8 hgrow8)
                      have hb8 : Below w7.heap.size w7 w8 := (Below.refl _ _).grown hgrow8 (Nat.le_refl _) (by simp)
                      have hs8 := hb8.size
                      clear hgrow8
                      go_loopw [23, 24] (fun v i wr => ∃ (t k : Nat) (a : Option Addr) (cp : Nat) (c : Nat → Int), t ≤ n ∧ k ≤ t ∧ i = .int .i64 t ∧ v = .slice a k cp ∧ OwnF wr w7.heap.size a k cp c ∧ Hid (CompTo l k t z c) ∧ Below w7.heap.size w7 wr)
                        (fun _ i _ => n - (intOf i).toNat)
                      case atStart => exact ⟨0, 0, _, _, fun _ => 0, Nat.zero_le _, Nat.le_refl _, rfl, rfl, hown8, CompTo.zero _ _ _, hb8⟩
                      case round =>
                        clear hown8 hb8 hs8
                        obtain ⟨t, k, a, cp, c, ht, hkt, rfl, rfl, hown, HCT, hb8⟩ := hrel
                        have hs8 := hb8.size
                        by_cases hlt1 : t < n
                        · --A6
                          have hcq := (hb8.cell (p := ⟨w.heap.size, t, none⟩) hrow7.lt).trans (hrow7.cell hlt1)
                          cases hmq : mem z (t : Int) l with
                          | false =>
                            rw [hmq] at hcq
                            have HMQ := hide hmq
                            clear hmq
                            go_wp2_with fail
                            go_roundw
                            case rel => exact ⟨t + 1, k, a, cp, c, by omega, by omega, by go_num, rfl, hown, (unhide HCT).skip (unhide HMQ), hb8⟩
                            case measure => simp [intOf]; omega
                          | true =>
                            rw [hmq] at hcq
                            have HMQ := hide hmq
                            clear hmq
                            go_wp2_with (at_builtin; refine wpList_append_lies _ rfl _ _ 22 rfl w7.heap.size 3 i0 (.int .i64 0) 1 8 Try.underlying22 hi0 hz0 hz1 hz2 rfl (by decide) (.slice a k cp) k _ rfl (World.ownsRow.alloc hown _) ⟨wr.heap.size, 0, none⟩ 1 1 [.int .i64 (t : Int)] rfl rfl (cell_one_new _ _ _) (ints_oneCell .i64 [(t : Int)]) (by omega) (by unfold maxLen; omega) (by omega) (by simp; omega) (wr.heap.size + 1) (by simp) ?_; intro g5 cp5 w5 hown5 hgrow5 _ _)
                            have hown6 := OwnF.snoc hown5
                            have hb9 := (hb8.alloc hs8 (.cells #[.int .i64 (t : Int)] 3)).grown hgrow5 (by simp; omega) (fun k' h => (World.ownsRow.lt hown k' h).1)
                            clear hown5 hgrow5 hown
                            go_wp2_with fail
                            go_roundw
                            case rel => exact ⟨t + 1, k + 1, _, _, _, by omega, by omega, by go_num, rfl, hown6, (unhide HCT).add (unhide HMQ), hb9⟩
                            case measure => simp [intOf]; omega
                          --B6
                        · obtain rfl : n = t := by omega
                          have hcomp := (unhide HCT).comp (unhide HG2)
                          have HCO := hide hcomp
                          have hk0 : 0 < k := by obtain ⟨i, hi, _⟩ := hcomp.all 0 (by omega); omega
                          clear hcomp HCT
                          obtain ⟨cb, rfl, hcb1, hcb2⟩ := hown.form hk0
                          go_wp2_with fail
                          go_loopw [25, 26] (fun s i wr => ∃ t s0 : Nat, t ≤ l ∧ i = .int .i64 t ∧ s = .int .i64 s0 ∧ s0 < l ∧ Hid ((∀ i, i < t → z i ≠ c 0) ∨ z s0 = c 0) ∧ OwnF wr w7.heap.size (some ⟨cb, 0, none⟩) k cp c ∧ Below w7.heap.size w7 wr)
                            (fun _ i _ => l - (intOf i).toNat)
                          case atStart => exact ⟨0, 0, Nat.zero_le _, rfl, rfl, by omega, .inl (fun i h => by omega), hown, hb8⟩
                          case round =>
                            clear hown hb8 hs8 hcb2
                            obtain ⟨t, s0, ht, rfl, rfl, hs0, HS0, hown, hb8⟩ := hrel
                            have hs8 := hb8.size
                            have hb10 := hbel7.trans (hb8.mono hbel7.size)
                            by_cases hlt2 : t < l
                            · --A7
                              have q1 := (hb10.cell (p := ⟨b1, o1 + t, none⟩) hb1).trans (hz t hlt2)
                              have q2 := hown.cell (j := 0) hk0
                              have q3 : (0 : Int) < (k : Int) := by omega
                              have q4 : (0 : Int) ≤ (t : Int) := by omega
                              have q5 : (t : Int) < (l : Int) := by omega
                              by_cases hzc : z t = c 0
                              · rw [hzc] at q1
                                have HZC := hide hzc
                                clear hzc hz
                                go_wp2_with fail
                                go_quiet (fail)
                                go_wp2_with fail
                                go_roundw
                                case rel => exact ⟨t + 1, t, by omega, by go_num, rfl, by omega, .inr (unhide HZC), hown, below_drewN hb8 _⟩
                                case measure => simp [intOf]; omega
                              · have hzb : (z t == c 0) = false := by rw [beq_eq_false_iff_ne]; exact hzc
                                have HZC := hide hzc
                                clear hzc hz
                                go_wp2_with fail
                                go_quiet (fail)
                                go_wp2_with fail
                                go_roundw
                                case rel =>
                                  refine ⟨t + 1, s0, by omega, by go_num, rfl, hs0, ?_, hown, below_drewN hb8 _⟩
                                  rcases HS0 with h | h
                                  · refine .inl (fun i hi => ?_)
                                    by_cases e : i = t
                                    · rw [e]; exact unhide HZC
                                    · exact h i (by omega)
                                  · exact .inr h
                                case measure => simp [intOf]; omega
                              --B7
                            · obtain rfl : l = t := by omega
                              have hsc : z s0 = c 0 := by
                                rcases HS0 with h | h
                                · obtain ⟨j, hj, hzj⟩ := (unhide HCO).on 0 hk0
                                  exact absurd hzj (h j hj)
                                · exact h
                              have hring := ring_of (unhide HG2) (unhide HCO) hs0 hsc (unhide HL)
                              have HR := hide hring
                              clear hring hsc HS0
                              have hkn : k ≤ 65536 := by omega
                              go_wp2_with fail
                              refine (zzcycle_any n (l + m) k l fb sb cb cp _ sf c (node z l s0) _ (unhide HR) hn (by omega) (by omega) (hF.of_block (hb8.block _ hF.lt)) (hS.of_block (hb8.block _ hS.lt)) (fun i hi => hown.cell hi) hown.lt.2).mono ?_
                              rintro e w9 ⟨g9, cp9, rfl, hown9, hb9⟩
                              have hb11 := hb10.trans (hb9.mono (by have := hbel7.size; omega))
                              have hg9 := hown9.lt
                              clear hown hb8 hb10 hb9
                              go_wp2_with fail
                              go_loopw [28] (fun i wr => ∃ t : Nat, t ≤ l ∧ i = .int .i64 t ∧ Below w9.heap.size w9 wr) (fun i _ => l - (intOf i).toNat)
                              case atStart => exact ⟨0, Nat.zero_le _, rfl, Below.refl _ _⟩
                              case round =>
                                obtain ⟨t, ht, rfl, hb12⟩ := hrel
                                have hb13 := hb11.trans (hb12.mono hb11.size)
                                by_cases hlt3 : t < l
                                · --A8
                                  obtain ⟨q, hq⟩ : ∃ q, q = (s0 + t) % l := ⟨_, rfl⟩
                                  have hql : q < l := by rw [hq]; exact Nat.mod_lt _ (by omega)
                                  have hqi : ((s0 : Int) + (t : Int)) % (l : Int) = (q : Int) := by rw [hq]; norm_cast
                                  have q1 := (hb13.cell (p := ⟨b1, o1 + q, none⟩) hb1).trans (hz q hql)
                                  have q2 := (hb12.cell (p := ⟨g9, t, none⟩) hg9.2).trans (hown9.cell hlt3)
                                  rw [hq, node_eq (unhide HG2), ← hq] at q1
                                  have q4 : (0 : Int) ≤ (t : Int) := by omega
                                  have q5 : (t : Int) < (l : Int) := by omega
                                  have q6 : (0 : Int) ≤ (q : Int) := by omega
                                  have q7 : (q : Int) < (l : Int) := by omega
                                  have r7 := wrap_id ((s0 : Int) + (t : Int)) (by omega) (by omega)
                                  have r8 : ¬ l = 0 := by omega
                                  have r9 : ((s0 : Int) + (t : Int)).tmod (l : Int) = (q : Int) := by rw [Int.tmod_eq_emod_of_nonneg (by omega)]; exact hqi
                                  clear hz hq
                                  go_wp2_with fail
                                  go_quiet (fail)
                                  go_wp2_with fail
                                  go_roundw
                                  case rel => exact ⟨t + 1, by omega, by go_num, below_drewN hb12 _⟩
                                  case measure => simp [intOf]; omega
                                · go_wp2_with fail
                                  go_ret
                                  exact ⟨rfl, hb13⟩
end Go.Proofs.Qxb6600486a

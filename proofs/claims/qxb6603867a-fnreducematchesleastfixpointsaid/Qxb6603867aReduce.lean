import Derived.Test.Qxb6603867aMade
namespace Go.Proofs.Qxb6603867a
set_option linter.unusedVariables false
open Go.RowKit

set_option maxRecDepth 100000 in
set_option maxHeartbeats 3200000 in
theorem reduce_any (Sb nb sb n m n3 c3 lc : Nat) (la : Option Addr) (s0 s2 : Value) (v u st : Nat → Int) (w : World) (hn : n ≤ 1048576) (hm : m ≤ 1048576) (hn3 : n3 ≤ 1048576) (hv : I32 m v)
    (hsnap : snapAt w Sb s0 (.slice la n lc) s2 (.slice (some ⟨sb, 0, none⟩) n3 c3) (.slice (some ⟨nb, 0, none⟩) m m)) (hst : w.rowIs sb 21 n3 (fun i => .int .i32 (st i))) (h3 : n + 1 ≤ n3)
    (hc0 : ∀ x, x < m → w.cell? ⟨nb, x * 2, none⟩ = some (.int .i32 (v x))) (hc1 : ∀ x, x < m → w.cell? ⟨nb, x * 2 + 1, none⟩ = some (.int .i32 (u x))) (hnb : nb < w.heap.size)
    (act F H : Nat → Bool) (hact : ∀ p, p < n → act p = decide (st p = st (p + 1))) (hc : Pl.Closed n m v u act F H) (hd : Pl.Dom n m u) :
    Calls Try.prog 30 #[.pointer (some ⟨Sb, 0, none⟩)] w fun e w' => Reduced w Sb n m v u act F H e w' := by
  have cS4 : w.cell? ⟨Sb, 4, none⟩ = some (.slice (some ⟨nb, 0, none⟩) m m) := by simp [World.cell?, show w.heap[Sb]? = _ from hsnap]
  have hSlt : Sb < w.heap.size := (Array.getElem?_eq_some_iff.1 hsnap).1
  have HSN := hide hsnap
  have HST := hide hst
  have HACT := hide hact
  have hslt := hst.lt
  have HC0 := hide hc0
  have HCS := hide cS4
  have HC1 := hide hc1
  have hmk1 := run_make_row' (P := Try.prog) 22 21 (.int .i32 0) 4 Try.underlying22 info21 rfl .i64 .i64 m (by omega) (by omega)
  have hmk2 := run_make_row' (P := Try.prog) 22 21 (.int .i32 0) 4 Try.underlying22 info21 rfl .i32 .i32 (n + 1) (by omega) (by omega)
  rw [show ((n + 1 : Nat) : Int) = (n : Int) + 1 by omega] at hmk2
  have hmk3 := run_make_row' (P := Try.prog) 29 4 (.bool false) 1 Try.underlying29 info4 rfl .i32 .i32 n (by omega) (by omega)
  have hw1 : IntKind.i32.wrap ((n : Int) + 1) = (n : Int) + 1 := by rw [IntKind.wrap_i32]; omega
  have hw2 : IntKind.i32.wrap (n : Int) = (n : Int) := by rw [IntKind.wrap_i32]; omega
  clear hsnap hst hc0 hc1 hact
  go_enter Try.func30, Try.ntmps30
  go_wp2_with fail
  refine (len_any Sb la n lc s0 s2 _ _ _ (unhide HSN)).mono ?_
  rintro e w1 ⟨rfl, rfl⟩
  go_upto_region 2 with fail
  go_cut [4] (fun v4 wx => ∃ Rb eb ab fb, v4 = .pointer (some ⟨Rb, 0, none⟩) ∧ Made w Sb n m (fun _ => 0) (fun _ => 0) Rb eb ab fb wx)
  case first =>
    go_region
    all_goals
      go_wp2_with fail
      go_meet
      first
        | exact ⟨w.heap.size + 1 + 1 + 1, w.heap.size, w.heap.size + 1, w.heap.size + 1 + 1, rfl, made_mk (a3 w _ _ _ _) (a0 w _ _ _ _) (a1 w _ _ _ _) (a2 w _ _ _ _) (by omega) (by omega) (by omega) (by omega) (by omega) (by omega) (by omega) (by omega) (by omega) (by omega) (bel4 w _ _ _ _)⟩
        | exact ⟨w.heap.size + 1 + 1 + 1, w.heap.size, w.heap.size + 1 + 1, w.heap.size + 1, rfl, made_mk (a3 w _ _ _ _) (a0 w _ _ _ _) (a2 w _ _ _ _) (a1 w _ _ _ _) (by omega) (by omega) (by omega) (by omega) (by omega) (by omega) (by omega) (by omega) (by omega) (by omega) (bel4 w _ _ _ _)⟩
        | exact ⟨w.heap.size + 1 + 1 + 1, w.heap.size + 1, w.heap.size, w.heap.size + 1 + 1, rfl, made_mk (a3 w _ _ _ _) (a1 w _ _ _ _) (a0 w _ _ _ _) (a2 w _ _ _ _) (by omega) (by omega) (by omega) (by omega) (by omega) (by omega) (by omega) (by omega) (by omega) (by omega) (bel4 w _ _ _ _)⟩
        | exact ⟨w.heap.size + 1 + 1 + 1, w.heap.size + 1, w.heap.size + 1 + 1, w.heap.size, rfl, made_mk (a3 w _ _ _ _) (a1 w _ _ _ _) (a2 w _ _ _ _) (a0 w _ _ _ _) (by omega) (by omega) (by omega) (by omega) (by omega) (by omega) (by omega) (by omega) (by omega) (by omega) (bel4 w _ _ _ _)⟩
        | exact ⟨w.heap.size + 1 + 1 + 1, w.heap.size + 1 + 1, w.heap.size, w.heap.size + 1, rfl, made_mk (a3 w _ _ _ _) (a2 w _ _ _ _) (a0 w _ _ _ _) (a1 w _ _ _ _) (by omega) (by omega) (by omega) (by omega) (by omega) (by omega) (by omega) (by omega) (by omega) (by omega) (bel4 w _ _ _ _)⟩
        | exact ⟨w.heap.size + 1 + 1 + 1, w.heap.size + 1 + 1, w.heap.size + 1, w.heap.size, rfl, made_mk (a3 w _ _ _ _) (a2 w _ _ _ _) (a1 w _ _ _ _) (a0 w _ _ _ _) (by omega) (by omega) (by omega) (by omega) (by omega) (by omega) (by omega) (by omega) (by omega) (by omega) (bel4 w _ _ _ _)⟩
  case rest =>
    obtain ⟨Rb, eb, ab, fb, rfl, hmade⟩ := hcut
    have hSx : wc.cell? ⟨Sb, 4, none⟩ = some (.slice (some ⟨nb, 0, none⟩) m m) := (hmade.2.2.2.2.2.2.2.2.2.2.2.2.2.2.cell (p := ⟨Sb, 4, none⟩) hSlt).trans cS4
    have HM := hide hmade
    clear hmade cS4 hmk1 hmk2 hmk3 hw1 hw2
    go_wp2_with fail
    go_loopg [5, 33] m (fun gk s5 s33 wr => ∃ (t : Nat) (ea : Option Addr) (ec : Nat), gk = m - t ∧ t ≤ m ∧ s33 = .int .i64 t ∧ s5 = .slice ea (emp v t).length ec ∧ wr.ownsRow wc.heap.size 21 1 (.slice ea (emp v t).length ec) (emp v t).length (ints (emp v t)) ∧
      Made w Sb n m (nd0 v t) (ct0 n v t) Rb eb ab fb wr ∧ wc.heap.size ≤ wr.heap.size)
    case atStart => exact ⟨0, none, 0, rfl, Nat.zero_le _, rfl, rfl, World.ownsRow_nil _ _ _ _, (unhide HM).congr (fun x _ => nd0_zero v x) (fun p _ => ct0_zero n v p), Nat.le_refl _⟩
    case round =>
      obtain ⟨t, ea, ec, rfl, ht, rfl, rfl, hown, hmade, hsz⟩ := hrel
      obtain ⟨b1, b2, b3, b4, b5, b6, b7, b8, b9⟩ := (unhide HM).bounds
      have hel := emp_len v t
      by_cases hlt : t < m
      · have cv : wr.cell? ⟨nb, t * 2, none⟩ = some (.int .i32 (v t)) := (hmade.below.cell (p := ⟨nb, t * 2, none⟩) hnb).trans (unhide HC0 t hlt)
        have cu : wr.cell? ⟨nb, t * 2 + 1, none⟩ = some (.int .i32 (u t)) := (hmade.below.cell (p := ⟨nb, t * 2 + 1, none⟩) hnb).trans (unhide HC1 t hlt)
        obtain ⟨hv1, hv2⟩ := hv t hlt
        have hx := xor32 (v t) hv1 hv2
        have r1 := hmade.1.c1
        have r3 := hmade.1.c3
        have l1 : Rb < wr.heap.size := by omega
        have l2 : eb < wr.heap.size := by omega
        have l3 : ab < wr.heap.size := by omega
        by_cases h0 : 0 ≤ v t
        · by_cases h1 : v t < n
          · obtain ⟨z, hz⟩ : ∃ z : Nat, v t = (z : Int) := ⟨(v t).toNat, by omega⟩
            have hzn : z < n := by omega
            have ca := hmade.2.2.1.cell (i := z) (by omega)
            have fa := hmade.2.2.1.frozen z
            have hcl := ct0_le n v t z
            rw [hz] at cv
            have HZ := hide hz
            have HM2 := hide hmade
            clear hmade hx r1 hv1 hv2 hz
            go_wp2_with fail
            have e0 : (wr.alloc (.cells #[.int .i32 (z : Int), .int .i32 (u t)] 67)).cell? ⟨Rb, 3, none⟩ = some (.slice (some ⟨ab, 0, none⟩) (n + 1) (n + 1)) := by rw [World.cell?_alloc_past _ _ _ l1]; exact r3
            have e1 : (wr.alloc (.cells #[.int .i32 (z : Int), .int .i32 (u t)] 67)).cell? ⟨ab, z, none⟩ = some (.int .i32 (ct0 n v t z : Nat)) := by rw [World.cell?_alloc_past _ _ _ l3]; exact ca
            have e2 : (wr.alloc (.cells #[.int .i32 (z : Int), .int .i32 (u t)] 67)).frozen? ⟨ab, z, none⟩ = false := by rw [World.frozen?_alloc_past _ _ _ l3]; exact fa
            have e3 : (wr.alloc (.cells #[.int .i32 (z : Int), .int .i32 (u t)] 67)).cell? ⟨wr.heap.size, 0, none⟩ = some (.int .i32 z) := by simp
            have HW : Hid (Made w Sb n m (nd0 v (t + 1)) (ct0 n v (t + 1)) Rb eb ab fb ((wr.alloc (.cells #[.int .i32 (z : Int), .int .i32 (u t)] 67)).setCell ⟨ab, z, none⟩ (.int .i32 ((ct0 n v t z : Nat) + 1)))) :=
              (((unhide HM2).alloc _).setAt z (ct0 n v t z + 1)).congr (fun x _ => nd0_leaf v t x h0) (fun p _ => ct0_in n v t p z (unhide HZ) hzn)
            have HO : Hid (((wr.alloc (.cells #[.int .i32 (z : Int), .int .i32 (u t)] 67)).setCell ⟨ab, z, none⟩ (.int .i32 ((ct0 n v t z : Nat) + 1))).ownsRow wc.heap.size 21 1 (.slice ea (emp v t).length ec) (emp v t).length (ints (emp v t))) :=
              ownsRow_setCell_below (hown.alloc _) (a := ⟨ab, z, none⟩) b3 _
            have HL : Hid (wc.heap.size ≤ ((wr.alloc (.cells #[.int .i32 (z : Int), .int .i32 (u t)] 67)).setCell ⟨ab, z, none⟩ (.int .i32 ((ct0 n v t z : Nat) + 1))).heap.size) := by show _ ≤ _; simp; omega
            generalize wr.alloc (.cells #[.int .i32 (z : Int), .int .i32 (u t)] 67) = wz at *
            clear r3 ca fa cv cu
            generalize wr.heap.size = nd at *
            generalize hk : ct0 n v t z = k at *
            clear hk
            have i1 : (0 : Int) ≤ (z : Int) := by omega
            have i2 : (z : Int) < (n : Int) + 1 := by omega
            have i5 : IntKind.i32.wrap ((k : Int) + 1) = (k : Int) + 1 := by rw [IntKind.wrap_i32]; omega
            go_region
            all_goals
              go_wp2_with fail
              go_roundg (m - (t + 1))
              case measure => omega
              case rel => exact ⟨t + 1, ea, ec, rfl, by omega, by go_num, by rw [emp_no v t (by omega)], by rw [emp_no v t (by omega)]; exact unhide HO, (unhide HW).drew, unhide HL⟩
          · have HM2 := hide hmade
            clear hmade
            go_wp2_with fail
            go_roundg (m - (t + 1))
            case measure => omega
            case rel => exact ⟨t + 1, ea, ec, rfl, by omega, by go_num, by rw [emp_no v t (by omega)], by rw [emp_no v t (by omega)]; exact hown.alloc _, ((unhide HM2).alloc _).congr (fun x _ => nd0_leaf v t x h0) (fun p _ => ct0_out n v t p (by omega)), by simp; omega⟩
        · by_cases h1 : v t = -1
          · have cn := hmade.2.1.cell hlt
            have fn := hmade.2.1.frozen t
            rw [h1] at cv
            have HM2 := hide hmade
            have hx1 := xor32 (-1) (by omega) (by omega)
            clear hmade hx r3 hv1 hv2
            obtain ⟨i0, hi, hz0, hz1, hz2⟩ := info_parts info21
            have hown2 := ((ownsRow_setCell_below hown (a := ⟨eb, t, none⟩) b2 (.int .i32 1)).alloc (.cells #[.int .i32 (-1), .int .i32 (u t)] 67))
            go_wp2_with (at_builtin; refine wpList_append_lies _ rfl _ _ 22 rfl wc.heap.size 21 i0 (.int .i32 0) 1 4 Try.underlying22 hi hz0 hz1 hz2 rfl (by decide) (.slice ea (emp v t).length ec) (emp v t).length (ints (emp v t)) rfl (World.ownsRow.alloc hown2 _) ⟨wr.heap.size + 1, 0, none⟩ 1 1 [.int .i32 t] rfl rfl (new_one _ t (by simp)) (ints_oneCell .i32 [(t : Int)]) (by omega) (by unfold maxLen; omega) (by omega) (by simp; omega) (wr.heap.size + 1 + 1) (by simp) ?_; intro g cp w1 how1 hgrow hat hlt1)
            go_roundg (m - (t + 1))
            case measure => omega
            case rel =>
              have hM3 := (((unhide HM2).setNeed t 1).alloc (.cells #[.int .i32 (-1), .int .i32 (u t)] 67)).alloc (.cells #[.int .i32 (t : Int)] 21)
              refine ⟨t + 1, some ⟨g, 0, none⟩, cp, rfl, by omega, by go_num, by rw [emp_yes v t h1, List.length_append]; rfl, by rw [emp_yes v t h1, List.length_append, ints_snoc]; exact how1, (hM3.grown hgrow (fun k hk => ?_)).congr (fun x _ => ?_) (fun p _ => ct0_out n v t p (by omega)), ?_⟩
              · have := (hown.lt k hk).1; omega
              · have := nd0_inner v t x (by omega)
                rw [← this]; unfold Pl.kk; rw [h1]; rfl
              · have := hgrow.size; simp at this; omega
          · have cn := hmade.2.1.cell hlt
            have fn := hmade.2.1.frozen t
            have HM2 := hide hmade
            have hkk : (max (Pl.kk v t) 1 : Nat) = (-1 - v t).toNat := by unfold Pl.kk; omega
            obtain ⟨q, hq⟩ : ∃ q : Nat, -1 - v t = (q : Int) := ⟨(-1 - v t).toNat, by omega⟩
            have hq0 : (q : Int) ≠ 0 := by omega
            rw [hq] at hx hkk
            have HKK := hide hkk
            clear hmade r3 hq hkk
            go_wp2_with fail
            have e0 : (wr.alloc (.cells #[.int .i32 (v t), .int .i32 (u t)] 67)).cell? ⟨Rb, 1, none⟩ = some (.slice (some ⟨eb, 0, none⟩) m m) := by rw [World.cell?_alloc_past _ _ _ l1]; exact r1
            have e1 : (wr.alloc (.cells #[.int .i32 (v t), .int .i32 (u t)] 67)).cell? ⟨eb, t, none⟩ = some (.int .i32 (nd0 v t t : Nat)) := by rw [World.cell?_alloc_past _ _ _ l2]; exact cn
            have e2 : (wr.alloc (.cells #[.int .i32 (v t), .int .i32 (u t)] 67)).frozen? ⟨eb, t, none⟩ = false := by rw [World.frozen?_alloc_past _ _ _ l2]; exact fn
            have e3 : (wr.alloc (.cells #[.int .i32 (v t), .int .i32 (u t)] 67)).cell? ⟨wr.heap.size, 0, none⟩ = some (.int .i32 (v t)) := by simp
            have HW : Hid (Made w Sb n m (nd0 v (t + 1)) (ct0 n v (t + 1)) Rb eb ab fb ((wr.alloc (.cells #[.int .i32 (v t), .int .i32 (u t)] 67)).setCell ⟨eb, t, none⟩ (.int .i32 (q : Nat)))) :=
              (((unhide HM2).alloc _).setNeed t q).congr (fun x _ => by rw [← nd0_inner v t x (by omega), unhide HKK]; rfl) (fun p _ => ct0_out n v t p (by omega))
            have HO : Hid (((wr.alloc (.cells #[.int .i32 (v t), .int .i32 (u t)] 67)).setCell ⟨eb, t, none⟩ (.int .i32 (q : Nat))).ownsRow wc.heap.size 21 1 (.slice ea (emp v t).length ec) (emp v t).length (ints (emp v t))) :=
              ownsRow_setCell_below (hown.alloc _) (a := ⟨eb, t, none⟩) b2 _
            have HL : Hid (wc.heap.size ≤ ((wr.alloc (.cells #[.int .i32 (v t), .int .i32 (u t)] 67)).setCell ⟨eb, t, none⟩ (.int .i32 (q : Nat))).heap.size) := by show _ ≤ _; simp; omega
            generalize wr.alloc (.cells #[.int .i32 (v t), .int .i32 (u t)] 67) = wz at *
            clear r1 cn fn cv cu
            generalize wr.heap.size = nd at *
            have i1 : (0 : Int) ≤ (t : Int) := by omega
            have i2 : (t : Int) < (m : Int) := by omega
            go_region
            all_goals
              go_wp2_with fail
              go_roundg (m - (t + 1))
              case measure => omega
              case rel => exact ⟨t + 1, ea, ec, rfl, by omega, by go_num, by rw [emp_no v t h1], by rw [emp_no v t h1]; exact unhide HO, (unhide HW).drew, unhide HL⟩
      · obtain rfl : m = t := by omega
        have hb := hmade.below
        have x1 : wr.cell? ⟨Sb, 4, none⟩ = some (.slice (some ⟨nb, 0, none⟩) m m) := (hb.cell (p := ⟨Sb, 4, none⟩) hSlt).trans (unhide HCS)
        have x2 : Hid (∀ x, x < m → wr.cell? ⟨nb, x * 2, none⟩ = some (.int .i32 (v x))) := fun x hx => (hb.cell (p := ⟨nb, x * 2, none⟩) hnb).trans (unhide HC0 x hx)
        have x3 : Hid (∀ x, x < m → wr.cell? ⟨nb, x * 2 + 1, none⟩ = some (.int .i32 (u x))) := fun x hx => (hb.cell (p := ⟨nb, x * 2 + 1, none⟩) hnb).trans (unhide HC1 x hx)
        have HMM := hide hmade
        have HOW := hide hown
        have HX1 := hide x1
        obtain ⟨y1, y2, y3, y4, y5, y6, y7⟩ := b9
        clear hmade hown x1
        go_wp2_with fail
        refine (index_any Rb Sb nb eb ab fb n m v u wr hn hm hv (unhide HMM).1 (unhide HX1) (unhide x2) (unhide x3) (unhide HMM).2.2.1 b6 (by omega) (by omega) (by omega) (by omega) (by omega) (by omega)).mono ?_
        rintro e w2 ⟨rfl, nm, hraw2, hnm2, hlaid, hat2, hkeep2, hsz2⟩
        obtain ⟨henv, hst0, hemp, hbw⟩ := start_all (unhide HMM) hSlt hnb (unhide HCS) (unhide HC1) hraw2 hnm2 hat2 hkeep2 hsz2 (unhide HOW) ⟨b1, b2, b3, b4⟩
        have hidx := idx_mk hlaid
        have HENV := hide henv
        have HST0 := hide hst0
        have HEMP := hide hemp
        have HIDX := hide hidx
        have HLD := hide hlaid
        have HNM := hide hnm2
        have HAT := hide hat2
        have hap := henv.apart
        have hB1 : w.heap.size ≤ w2.heap.size := hbw.size
        have hSn : Hid (snapAt w2 Sb s0 (.slice la n lc) s2 (.slice (some ⟨sb, 0, none⟩) n3 c3) (.slice (some ⟨nb, 0, none⟩) m m)) := (hbw.block Sb hSlt).trans (unhide HSN)
        have hSt : Hid (w2.rowIs sb 21 n3 (fun i => .int .i32 (st i))) := (unhide HST).of_block (hbw.block sb hslt)
        generalize hdb : wr.heap.size = db at *
        generalize hB : w2.heap.size = B at *
        generalize hes : emp v m = es at *
        have HES := hide hes
        have hesl : es.length ≤ 1048576 := by omega
        clear henv hst0 hemp hidx hlaid hnm2 hat2 hraw2 hkeep2 hsz2 HMM HOW HX1 x2 x3 HM hes hdb
        go_wp2_with fail
        go_loopg [86] n (fun gk s86 wx => ∃ (k : Nat) (free : Nat → Bool) (stk : List Nat), gk = n - k ∧ k ≤ n ∧ s86 = .int .i32 k ∧ Pl.Inv n m v u F H (nd0 v m) free stk (fun _ => false) (fun _ => false) none ∧ Hid (∀ p, p < k → act p = true → free p = true) ∧ St B Rb Sb eb db ab fb n m (Pl.fs (Pl.sr n v) n m) w2 (nd0 v m) free stk wx)
        case atStart => exact ⟨0, fun _ => false, [], rfl, Nat.zero_le _, rfl, Pl.Inv.start (nd0_start v m), fun p h => (by omega), unhide HST0⟩
        case round =>
          clear HST0
          obtain ⟨k, free, stk, rfl, hk, rfl, hinv, hfr, hst⟩ := hrel
          have HI := hide hinv
          have HS := hide hst
          clear hinv hst
          by_cases hkn : k < n
          · have q1 : snapAt wr Sb s0 (.slice la n lc) s2 (.slice (some ⟨sb, 0, none⟩) n3 c3) (.slice (some ⟨nb, 0, none⟩) m m) := ((unhide HS).keep.block Sb (by omega) (by omega) (by omega) (by omega)).trans (unhide hSn)
            have q2 : wr.rowIs sb 21 n3 (fun i => .int .i32 (st i)) := (unhide hSt).of_block ((unhide HS).keep.block sb (by omega) (by omega) (by omega) (by omega))
            have Q1 := hide q1
            have Q2 := hide q2
            clear q1 q2
            have hak := unhide HACT k hkn
            go_wp2_with fail
            refine (active_any Sb sb n3 c3 k st _ _ _ _ wr hn3 (by omega) (unhide Q1) (unhide Q2)).mono ?_
            rintro e w3 ⟨rfl, kk, rfl⟩
            rw [← hak]
            clear hak
            cases ha : act k with
            | true =>
              cases hf : free k with
              | true =>
                go_wp2_with fail
                refine (release_known k _ hn hkn ((unhide HS).drewN kk) hf).mono ?_
                rintro e w4 ⟨rfl, rfl⟩
                go_wp2_with fail
                go_roundg (n - (k + 1))
                case measure => omega
                case rel => exact ⟨k + 1, free, stk, rfl, by omega, by go_num, unhide HI, fun p hp hap' => by
                  by_cases e : p = k
                  · rw [e]; exact hf
                  · exact hfr p (by omega) hap', (unhide HS).drewN kk⟩
              | false =>
                have hsl := (unhide HI).stk_le
                go_wp2_with fail
                refine (release_push k _ hn hkn hap ((unhide HS).drewN kk) (by omega) hf).mono ?_
                rintro e w4 ⟨rfl, hst4⟩
                have HS4 := hide hst4
                clear hst4
                go_wp2_with fail
                go_roundg (n - (k + 1))
                case measure => omega
                case rel => exact ⟨k + 1, _, _, rfl, by omega, by go_num, (unhide HI).push k hkn hf (hc.act_ k hkn ha), fun p hp hap' => by
                  by_cases e : p = k
                  · rw [e]; exact Pl.ins_self _ _
                  · exact Pl.ins_of _ _ _ (hfr p (by omega) hap'), unhide HS4⟩
            | false =>
              go_wp2_with fail
              go_roundg (n - (k + 1))
              case measure => omega
              case rel => exact ⟨k + 1, free, stk, rfl, by omega, by go_num, unhide HI, fun p hp hap' => by
                  by_cases e : p = k
                  · rw [e, ha] at hap'; cases hap'
                  · exact hfr p (by omega) hap', (unhide HS).drewN kk⟩
          · obtain rfl : n = k := by omega
            go_wp2_with fail
            go_loopg [99] es.length (fun gk s99 wx => ∃ (k : Nat) (need : Nat → Nat) (free : Nat → Bool) (stk : List Nat) (rep : Nat → Bool), gk = es.length - k ∧ k ≤ es.length ∧ s99 = .int .i64 k ∧ Pl.Inv n m v u F H need free stk rep (fun _ => false) none ∧ Hid (∀ p, p < n → act p = true → free p = true) ∧ Hid (∀ j, j < k → need (es.getD j 0) = 0) ∧ St B Rb Sb eb db ab fb n m (Pl.fs (Pl.sr n v) n m) w2 need free stk wx)
            case atStart => exact ⟨0, _, free, stk, _, rfl, Nat.zero_le _, rfl, unhide HI, hfr, fun j h => (by omega), unhide HS⟩
            case round =>
              clear HI HS hfr
              obtain ⟨k, need, free, stk, rep, rfl, hk, rfl, hinv, hfr, hnd, hst⟩ := hrel
              have HI := hide hinv
              have HS := hide hst
              clear hinv hst
              by_cases hkl : k < es.length
              · obtain ⟨g, rfl, g1, g2, g3, g4, g5⟩ := unhide HEMP k hkl
                have ck := ((unhide HS).keep.cell (p := ⟨g, k, none⟩) g1 g2 g3 g4).trans g5
                have hmem : es.getD k 0 ∈ emp v m := by rw [unhide HES]; simp [List.getD, hkl]
                obtain ⟨hx1, hx2⟩ := (emp_mem v m _).1 hmem
                generalize hxx : es.getD k 0 = x at *
                have hhd : Pl.Head n m v u F H (fun _ => false) (some x) need need free stk rep (x : Int) := ⟨fun _ h => h, .inr ⟨x, rfl, hx1, hx2, rfl, unhide HI⟩⟩
                have HHD := hide hhd
                clear hhd hmem g5
                go_wp2_with fail
                refine (satisfy_any (unhide HENV) hc hd hn hm hv _ (some x) need free stk rep (x : Int) _ (unhide HHD) (unhide HS)).mono ?_
                rintro e w4 ⟨rfl, need4, free4, stk4, rep4, hdone, hst4⟩
                have HS4 := hide hst4
                have HD4 := hide hdone
                clear hst4 hdone
                go_wp2_with fail
                go_roundg (es.length - (k + 1))
                case measure => omega
                case rel =>
                  refine ⟨k + 1, need4, free4, stk4, rep4, rfl, by omega, by go_num, (unhide HD4).inv, fun p hp ha => (unhide HD4).fmono p (hfr p hp ha), fun j hj => ?_, unhide HS4⟩
                  by_cases e : j = k
                  · rw [e, hxx]; exact (unhide HD4).hit x rfl
                  · exact (unhide HD4).nmono _ (hnd j (by omega))
              · go_wp2_with fail
                refine (settle_any (unhide HENV) (unhide HIDX) hc hd hn hm hv need free stk rep _ (unhide HI) (unhide HS)).mono ?_
                rintro e w4 ⟨rfl, need5, free5, rep5, hinv5, hfm5, hnm5, hst5⟩
                have HS5 := hide hst5
                have HI5 := hide hinv5
                clear hst5 hinv5
                go_wp2_with fail
                go_ret
                have hB5 := (unhide HS5).keep
                have hdbs := (unhide HENV).db
                have habs := (unhide HENV).ab
                refine ⟨B, Rb, eb, db, ab, fb, w2, need5, free5, rep5, nm, rfl, unhide HS5, unhide HI5, fun p hp ha => hfm5 p (hfr p hp ha), fun x hx hvx => ?_, (unhide HNM).of_block (hB5.block db hdbs.1 hdbs.2.1 hdbs.2.2.1 hdbs.2.2.2), unhide HLD, (unhide HAT).of_block (hB5.block ab habs.1 habs.2.1 habs.2.2.1 habs.2.2.2), below_keep hbw hB5 (by omega) (by omega) (by omega) (by omega)⟩
                have hmem := (emp_mem v m x).2 ⟨hx, hvx⟩
                rw [unhide HES] at hmem
                obtain ⟨j, hj, hjx⟩ := List.getElem_of_mem hmem
                refine hnm5 x ?_
                have := hnd j (by omega)
                rw [show es.getD j 0 = x by simp [List.getD, hj, hjx]] at this
                exact this
end Go.Proofs.Qxb6603867a

import Derived.Test.Qxb6600486aQueue
import Derived.Deep.LoopGhost
import Derived.Deep.DeepCutAuto
import Derived.Deep.AppendLies
import Derived.Maps.AppendAt
namespace Go.Proofs.Qxb6600486a
set_option linter.unusedVariables false
open Go.RowKit Go.Maps

/-- The ring N 0, .., N (l - 1), N l = N 0 in the graph (F, s), as shortestCycle meets it; comp: c 0 < .. < c (m - 1). -/
structure Ring (n M m l : Nat) (F : Nat → Nat) (s c : Nat → Int) (N : Nat → Nat) : Prop where
  two : 2 ≤ l
  small : l ≤ 100000
  wrap : N l = N 0
  lt : ∀ k, k < l → N k < n
  inj : ∀ j k, j < l → k < l → N j = N k → j = k
  fle : ∀ v, v < n → F v ≤ F (v + 1) ∧ F (v + 1) ≤ M
  only : ∀ k, k < l → ∀ e, F (N k) ≤ e → e < F (N k + 1) → s e = N (k + 1) ∨ ∀ i, i < m → c i ≠ s e
  some_ : ∀ k, k < l → ∃ e, F (N k) ≤ e ∧ e < F (N k + 1) ∧ s e = N (k + 1)
  inc : ∀ k, k < l → ∃ i, i < m ∧ c i = N k
  c0 : c 0 = N 0
  m0 : 0 < m
  sorted : ∀ i j, i < j → j < m → c i < c j

set_option maxRecDepth 100000 in
set_option maxHeartbeats 3200000 in
theorem cycle_any (n M m l G fb sb cb cc : Nat) (F : Nat → Nat) (s c : Nat → Int) (N : Nat → Nat) (w : World) (hR : Ring n M m l F s c N) (hn : n ≤ 65536) (hM : M ≤ 100000) (hm : m ≤ 1000000)
    (hG : w.heap[G]? = some (.cells #[.slice (some ⟨fb, 0, none⟩) (n + 1) (n + 1), .slice (some ⟨sb, 0, none⟩) M M] 47 (0, 0)))
    (hF : w.rowIs fb 3 (n + 1) (fun v => .int .i64 (F v))) (hS : w.rowIs sb 3 M (fun e => .int .i64 (s e))) (hC : ∀ i, i < m → w.cell? ⟨cb, i, none⟩ = some (.int .i64 (c i))) (hcb : cb < w.heap.size) :
    Calls Try.prog 26 #[.pointer (some ⟨G, 0, none⟩), .slice (some ⟨cb, 0, none⟩) m cc] w fun e w' => ∃ g cp, e = .returned (.slice (some ⟨g, 0, none⟩) l cp) ∧ OwnF w' w.heap.size (some ⟨g, 0, none⟩) l cp (fun i => (N i : Int)) ∧ Below w.heap.size w w' := by
  have hmm := run_makeMap_hint
  have hm0 := hR.m0
  have hc0 : w.cell? ⟨cb, 0, none⟩ = some (.int .i64 (N 0)) := by rw [hC 0 hm0, hR.c0]
  have hGlt : G < w.heap.size := (Array.getElem?_eq_some_iff.1 hG).1
  have g0 : w.cell? ⟨G, 0, none⟩ = some (.slice (some ⟨fb, 0, none⟩) (n + 1) (n + 1)) := by simp [World.cell?, hG]
  have g1 : w.cell? ⟨G, 1, none⟩ = some (.slice (some ⟨sb, 0, none⟩) M M) := by simp [World.cell?, hG]
  have HC := hide hC
  clear hC hG
  go_enter Try.func26, Try.ntmps26
  go_wp2_with fail
  go_loopg [7] l (fun gk q wr => ∃ (k b o qc : Nat) (D : DataW Unit), k < l ∧ gk = l - k ∧ q = .slice (some ⟨b, o, none⟩) 1 qc ∧ One wr w.heap.size b o qc (N k) ∧ wr.ownsMap Try.prog 3 (plainElem Try.prog 3) w.heap.size k D ∧ Back N k D ∧ Below w.heap.size w wr)
  case atStart =>
    refine ⟨0, w.heap.size + 1, 0, 1, .map [], by have := hR.two; omega, rfl, rfl, ?_, ?_, Back.zero N, ?_⟩
    · exact ⟨by omega, by omega, #[.int .i64 (N 0)], by simpa using heap_alloc_new (w.alloc (.map #[] 0)) (.cells #[.int .i64 (N 0)] 3), by simp, by simp⟩
    · exact (World.ownsMap_made _ _ _ _).alloc _
    · exact ((Below.refl _ _).alloc (Nat.le_refl _) _).alloc (by simp) _
  case round =>
    obtain ⟨k, b, o, qc, D, hk, rfl, rfl, hone, hmap, hback, hbel⟩ := hrel
    have hv := hR.lt k hk
    have hfl := hR.fle (N k) hv
    obtain ⟨e0, he1, he2, he3⟩ := hR.some_ k hk
    have hcell := hone.cell
    have hq1 := hone.2.1
    have k0 := (hbel.cell (p := ⟨G, 0, none⟩) hGlt).trans g0
    have k1 := (hbel.cell (p := ⟨G, 1, none⟩) hGlt).trans g1
    have k2 := (hbel.cell (p := ⟨fb, N k, none⟩) hF.lt).trans (hF.cell (i := N k) (by omega))
    have k3 := (hbel.cell (p := ⟨fb, N k + 1, none⟩) hF.lt).trans (hF.cell (i := N k + 1) (by omega))
    have i0 : (0 : Int) ≤ (N k : Int) := by omega
    have i1 : (N k : Int) < (n : Int) + 1 := by omega
    have i2 : (N k : Int) + 1 < (n : Int) + 1 := by omega
    go_upto_region 6 with fail
    go_cut [7] (fun v wx => ∃ qa, v = .slice qa 0 (qc - 1) ∧ Spare wx w.heap.size qa (qc - 1) ∧ wx = wr)
    case first =>
      have hsp := hone.spare
      by_cases h1 : qc = 1
      · subst h1
        go_wp2_with fail
        go_meet
        case rel => exact ⟨_, rfl, by simpa using hsp, rfl⟩
      · rw [if_neg h1] at hsp
        have h2 : 1 < qc := by omega
        go_wp2_with fail
        go_meet
        case rel => exact ⟨_, rfl, hsp, rfl⟩
    case rest =>
      obtain ⟨qa, rfl, hsp, hw⟩ := hcut
      subst hw
      clear hone hcell
      generalize qc - 1 = qc at *
      go_wp2_with fail
      go_quiet (fail)
      go_wp2_with fail
      have hb0 : Below w.heap.size w (wc.drewN nq) := below_drewN hbel _
      go_loopw [54, 7] (fun i q wr => ∃ t : Nat, t ≤ F (N k + 1) - F (N k) ∧ i = .int .i64 t ∧ Below w.heap.size w wr ∧
          ((∃ qa qc, q = .slice qa 0 qc ∧ Spare wr w.heap.size qa qc ∧ wr.ownsMap Try.prog 3 (plainElem Try.prog 3) w.heap.size k D ∧ ∀ t', t' < t → s (F (N k) + t') ≠ N (k + 1)) ∨
           (k + 1 < l ∧ ∃ b o qc D', q = .slice (some ⟨b, o, none⟩) 1 qc ∧ One wr w.heap.size b o qc (N (k + 1)) ∧ wr.ownsMap Try.prog 3 (plainElem Try.prog 3) w.heap.size (k + 1) D' ∧ Back N (k + 1) D')))
        (fun i _ _ => (F (N k + 1) - F (N k)) - (intOf i).toNat)
      case atStart => exact ⟨0, Nat.zero_le _, rfl, hb0, .inl ⟨qa, qc, rfl, hsp, hmap, fun t' h => by omega⟩⟩
      case round =>
        clear hsp hmap hbel hb0 k0 k1 k2 k3
        obtain ⟨t, ht, rfl, hbel, hst⟩ := hrel
        have HST := hide hst
        clear hst
        by_cases hlt : t < F (N k + 1) - F (N k)
        · have hce := (hbel.cell (p := ⟨sb, F (N k) + t, none⟩) hS.lt).trans (hS.cell (i := F (N k) + t) (by omega))
          have HCr : Hid (∀ i, i < m → wr.cell? ⟨cb, i, none⟩ = some (.int .i64 (c i))) := fun i hi => (hbel.cell hcb).trans (unhide HC i hi)
          by_cases hin : s (F (N k) + t) = N (k + 1)
          · rw [hin] at hce
            by_cases hlast : k + 1 < l
            · obtain ⟨ic, hic1, hic2⟩ := hR.inc (k + 1) hlast
              have hne0 : ((N (k + 1) : Int) == (N 0 : Int)) = false := by
                have : N (k + 1) ≠ N 0 := fun e => by have := hR.inj (k + 1) 0 hlast (by omega) e; omega
                rw [beq_eq_false_iff_ne]; omega
              have hN1 := hR.lt (k + 1) hlast
              have hkey : keyOf Try.prog 3 (.int .i64 (N (k + 1))) = some (.int .i64 (N (k + 1))) := keyOf_int_mk Try.underlying3 (wf_nat _ (by omega))
              have hsmall := hR.small
              rcases unhide HST with ⟨qa, qc, rfl, hsp, hmap, _⟩ | ⟨_, b', o', qc', D', rfl, hone, hmap, hback'⟩
              · have hhas : Maps.has D (.int .i64 (N (k + 1))) = false := hback.no _ (fun j h1 h2 e => by have := hR.inj (k + 1) j hlast (by omega) e; omega)
                have hBs := hbel.size
                go_wp2_with fail
                refine (search_yes cb m cc c _ _ hm (unhide HCr) hR.sorted ic hic1 hic2).mono ?_
                rintro e w' ⟨q', rfl, rfl⟩
                go_wp2_with (first
                  | (at_lookup; refine wpList_lookup_own_ok_int _ rfl _ _ 59 rfl 3 3 .i64 law3 Try.underlying59 Try.underlying3 (zero3 _) w.heap.size k D rfl hmap _ _ rfl hkey ?_; intro c' _ _)
                  | (at_mapUpdate; refine wpList_mapUpdate_own _ rfl _ _ _ 59 rfl 3 3 law3 Try.underlying59 _ w.heap.size k D rfl hmap (by unfold maxLen; omega) _ _ _ rfl rfl hkey _ [] (plainElem_int Try.underlying3 (wf_nat (N k) (by omega))) ?_; intro w1 hmap1 hgrow1)
                  | (at_builtin; refine wpList_append_spare _ rfl _ _ rfl w.heap.size qa qc rfl ((hsp.grown hmap hgrow1).alloc _) (by have := hgrow1.size; simp; omega) w1.heap.size 1 (N (k + 1)) rfl (cell_new1 _ _) ?_; intro b2 o2 cp2 w2 hone2 hkeep2))
                have hs1 := hgrow1.size
                have hkq := hkeep2.of_alloc (by omega)
                go_roundw
                case rel =>
                  refine ⟨t + 1, by omega, by go_num, (hbel.grown hgrow1 hBs (fun k hk => by cases hk; exact Nat.le_refl _)).trans hkq.below, .inr ⟨hlast, b2, o2, cp2, _, rfl, hone2, hkq.map hmap1, ?_⟩⟩
                  exact hback.step (fun j h1 h2 e => by have := hR.inj j (k + 1) (by omega) hlast e; omega)
                case measure => simp [intOf]; omega
              · have hhas : Maps.has D' (.int .i64 (N (k + 1))) = true := hback'.yes (k + 1) (by omega) (by omega)
                go_wp2_with fail
                refine (search_yes cb m cc c _ _ hm (unhide HCr) hR.sorted ic hic1 hic2).mono ?_
                rintro e w' ⟨q', rfl, rfl⟩
                go_wp2_with (first
                  | (at_lookup; refine wpList_lookup_own_ok_int _ rfl _ _ 59 rfl 3 3 .i64 law3 Try.underlying59 Try.underlying3 (zero3 _) w.heap.size (k + 1) D' rfl hmap _ _ rfl hkey ?_; intro c' _ _))
                go_roundw
                case rel => exact ⟨t + 1, by omega, by go_num, hbel, .inr ⟨hlast, b', o', qc', D', rfl, hone, hmap, hback'⟩⟩
                case measure => simp [intOf]; omega
            · have hkl : k + 1 = l := by omega
              have eN : N (k + 1) = N 0 := by rw [hkl, hR.wrap]
              obtain ⟨hmap, _⟩ : wr.ownsMap Try.prog 3 (plainElem Try.prog 3) w.heap.size k D ∧ True := by
                rcases unhide HST with ⟨qa, qc, _, _, h, _⟩ | ⟨h, _⟩
                · exact ⟨h, trivial⟩
                · omega
              rw [eN] at hce
              obtain ⟨i0, hi0, hz0, hz1, hz2⟩ := info_parts Try.info3
              have hBs := hmap.lt
              go_wp2_with fail
              refine (search_yes cb m cc c _ _ hm (unhide HCr) hR.sorted 0 hm0 hR.c0).mono ?_
              rintro e w' ⟨q', rfl, rfl⟩
              go_wp2_with fail
              have hsmall := hR.small
              clear HST hce HCr
              go_loopg [13, 14] k (fun gj cy u wr => gj ≤ k ∧ u = .int .i64 (N gj) ∧ ∃ a cp, cy = .slice a (k - gj) cp ∧ OwnF wr (w.heap.size + 1) a (k - gj) cp (fun i => (N (k - i) : Int)) ∧ wr.ownsMap Try.prog 3 (plainElem Try.prog 3) w.heap.size k D ∧ Below w.heap.size w wr)
              case atStart =>
                refine ⟨Nat.le_refl _, rfl, none, 0, by simp, ?_, hmap, hbel⟩
                rw [Nat.sub_self]; exact OwnF.nil _ _ _
              case round =>
                clear hmap hbel hBs
                obtain ⟨hgk, rfl, ca, ccp, rfl, hown, hmap, hbel⟩ := hrel
                have hBs := hmap.lt
                have hNk := hR.lt gk (by omega)
                by_cases hz : gk = 0
                · subst hz
                  have hq : ((N 0 : Int) != (N 0 : Int)) = false := by simp
                  go_wp2_with (at_builtin; refine wpList_append_lies _ rfl _ _ 22 rfl (w.heap.size + 1) 3 i0 (.int .i64 0) 1 8 Try.underlying22 hi0 hz0 hz1 hz2 rfl (by decide) (.slice ca (k - 0) ccp) (k - 0) _ rfl (World.ownsRow.alloc hown _) ⟨wr.heap.size, 0, none⟩ 1 1 [.int .i64 (N 0)] rfl rfl (cell_one_new _ _ _) (ints_oneCell .i64 [(N 0 : Int)]) (by omega) (by unfold maxLen; omega) (by omega) (by simp; omega) (wr.heap.size + 1) (by simp) ?_; intro g5 cp5 w5 hown5 hgrow5 _ _)
                  have hown6 := (OwnF.snoc hown5).congr (g := fun i => (N (k - i) : Int)) (fun i hi => by
                    by_cases e : i = k - 0
                    · rw [if_pos e, e, show k - (k - 0) = 0 by omega]
                    · rw [if_neg e])
                  rw [show k - 0 + 1 = l by omega] at hown6
                  have hbel5 := (hbel.alloc (by omega) (.cells #[.int .i64 (N 0)] 3)).grown hgrow5 (by simp; omega) (fun k hk => by have := (World.ownsRow.lt hown k hk).1; omega)
                  have hs5 := hbel5.size
                  clear hown5 hgrow5 hown
                  refine (reverse_any (w.heap.size + 1) g5 l cp5 (fun i => (N (k - i) : Int)) _ (by omega) (by omega) hown6).mono ?_
                  rintro e w6 ⟨rfl, h7, hb7⟩
                  go_wp2_with fail
                  go_ret
                  exact ⟨g5, cp5, rfl, (h7.base (by omega)).congr (fun i hi => by show (N (k - (l - 1 - i)) : Int) = N i; rw [show k - (l - 1 - i) = i by omega]), hbel5.trans (hb7.mono (by omega))⟩
                · have hne : ((N gk : Int) != (N 0 : Int)) = true := by
                    have : N gk ≠ N 0 := fun e => hz (hR.inj gk 0 (by omega) (by omega) e)
                    rw [bne_iff_ne]; omega
                  have hkey : keyOf Try.prog 3 (.int .i64 (N gk)) = some (.int .i64 (N gk)) := keyOf_int_mk Try.underlying3 (wf_nat _ (by omega))
                  have hat := hback.at_ gk (by omega) hgk
                  have HAT := hide hat
                  clear hat
                  have hnm := own_ne_map hown hmap
                  go_wp2_with (first
                    | (at_builtin; refine wpList_append_lies _ rfl _ _ 22 rfl (w.heap.size + 1) 3 i0 (.int .i64 0) 1 8 Try.underlying22 hi0 hz0 hz1 hz2 rfl (by decide) (.slice ca (k - gk) ccp) (k - gk) _ rfl (World.ownsRow.alloc hown _) ⟨wr.heap.size, 0, none⟩ 1 1 [.int .i64 (N gk)] rfl rfl (cell_one_new _ _ _) (ints_oneCell .i64 [(N gk : Int)]) (by omega) (by unfold maxLen; omega) (by omega) (by simp; omega) (wr.heap.size + 1) (by simp) ?_; intro g5 cp5 w5 hown5 hgrow5 _ _)
                    | (at_lookup; refine wpList_lookup_own_int _ rfl _ _ 59 rfl 3 3 .i64 law3 Try.underlying59 Try.underlying3 (zero3 _) w.heap.size k D rfl ((hmap.alloc _).kept hgrow5 hnm) _ _ rfl hkey ?_; intro c5 hat5 _))
                  have hc5 : c5 = (N (gk - 1) : Int) := by
                    rw [unhide HAT] at hat5
                    simpa using hat5.symm
                  have hown6 := (OwnF.snoc hown5).congr (g := fun i => (N (k - i) : Int)) (fun i hi => by
                    by_cases e : i = k - gk
                    · rw [if_pos e, e, show k - (k - gk) = gk by omega]
                    · rw [if_neg e])
                  have hmap5 := (hmap.alloc (.cells #[.int .i64 (N gk)] 3)).kept hgrow5 hnm
                  have hbel5 := (hbel.alloc (by omega) (.cells #[.int .i64 (N gk)] 3)).grown hgrow5 (by simp; omega) (fun k hk => by have := (World.ownsRow.lt hown k hk).1; omega)
                  go_roundg (gk - 1)
                  case measure => omega
                  case rel => exact ⟨by omega, by rw [hc5], some ⟨g5, 0, none⟩, cp5, by rw [show k - (gk - 1) = k - gk + 1 by omega], by rw [show k - (gk - 1) = k - gk + 1 by omega]; exact hown6, hmap5, hbel5⟩
          · have hno : ∀ i, i < m → c i ≠ s (F (N k) + t) := (hR.only k hk (F (N k) + t) (by omega) (by omega)).resolve_left hin
            have HNO := hide hno
            have HIN := hide hin
            clear hno hin
            go_wp2_with fail
            refine (search_no cb m cc c _ _ hm (unhide HCr) hR.sorted (unhide HNO)).mono ?_
            rintro e w' ⟨q', rfl, rfl⟩
            go_wp2_with fail
            go_roundw
            case rel =>
              refine ⟨t + 1, by omega, by go_num, hbel, ?_⟩
              rcases unhide HST with ⟨qa, qc, h1, h2, h3, h4⟩ | h
              · refine .inl ⟨qa, qc, h1, h2, h3, fun t' ht' => ?_⟩
                by_cases e : t' = t
                · rw [e]; exact unhide HIN
                · exact h4 t' (by omega)
              · exact .inr h
            case measure => simp [intOf]; omega
        · obtain ⟨hk1, b', o', qc', D', rfl, hone, hmap, hback'⟩ : k + 1 < l ∧ ∃ b o qc D', _ = Value.slice (some ⟨b, o, none⟩) 1 qc ∧ _ := by
            rcases unhide HST with ⟨qa, qc, h1, h2, h3, h4⟩ | h
            · exact absurd he3 (by have := h4 (e0 - F (N k)) (by omega); rwa [show F (N k) + (e0 - F (N k)) = e0 by omega] at this)
            · exact h
          go_wp2_with fail
          go_roundg (l - (k + 1))
          case measure => omega
          case rel => exact ⟨k + 1, b', o', qc', D', hk1, rfl, rfl, hone, hmap, hback', hbel⟩
end Go.Proofs.Qxb6600486a

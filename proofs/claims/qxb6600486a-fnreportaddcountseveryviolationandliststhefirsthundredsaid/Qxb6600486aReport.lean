import Derived.Test.Qxb6600486aList
import Derived.Deep.DeepCutAuto
namespace Go.Proofs.Qxb6600486a
set_option linter.unusedVariables false
open Go.RowKit

set_option maxRecDepth 100000 in
set_option maxHeartbeats 1600000 in
theorem report_main (found ops obj : Int) (P S K : Nat) (co : Bool) (a : Option Addr) (len cap : Nat) (f : Nat → Int) (w : World)
    (hP : P ≤ 4096) (hS : S ≤ 4096) (hK : K ≤ 4096) (hlen : len ≤ 65536) (hwf : (Lit.int .i64 found).wf = true) (hr : Read w a len cap f) :
    Calls Try.prog 7 #[.int .i64 found, .int .i64 P, .int .i64 S, .int .i64 K, .int .i64 ops, .int .i64 obj, .bool co, .slice a len cap] w fun e w' => e = .returned (.bool true) ∧ Below w.heap.size w w' := by
  go_enter Try.func7, Try.ntmps7
  go_wp2_with fail
  refine (bytesR_ok _ _ _ _ _ _ _ _ _ _ _ (by omega)).mono ?_
  rintro e w' ⟨rfl, rfl⟩
  go_wp2_with fail
  refine (clone_any a len cap f _ (by omega) hr).mono ?_
  rintro e w1 ⟨a1, c1, rfl, hi1, hn1, hb1⟩
  go_upto_if 60 with fail
  obtain ⟨i0, hi0, hz0, hz1, hz2⟩ := info_parts Try.info39
  have hs1 := hb1.size
  go_cut [17] (fun v wx => ∃ pa pc, v = .slice pa 0 pc ∧ wx.ownsRow w.heap.size 39 4 v 0 [] ∧ Ints wx a1 len c1 f ∧ Below w.heap.size w wx)
  case first =>
    by_cases hps : 0 < P + S
    · go_wp2_with (at_make; refine wpList_make_own _ rfl _ _ 37 rfl w.heap.size 39 i0 _ 4 Try.underlying37 hi0 hz0 hz1 _ _ _ (P + S) rfl rfl (by omega) (by rw [hz2]; omega) (by unfold maxLen; omega) hs1 ?_; intro w2 hown2 hgrow2)
      go_meet
      case rel => exact ⟨_, _, rfl, hown2, hi1.kept (fun b _ hr => hgrow2.block b hr.lt (by simp)), hb1.grown hgrow2 hs1 (by simp)⟩
    · go_wp2
      go_meet
      case rel => exact ⟨_, _, rfl, World.ownsRow_nil _ _ _ _, hi1, hb1⟩
  case rest =>
    clear hi1 hb1 hs1
    obtain ⟨pa, pc, rfl, hown2, hi2, hb2⟩ := hcut
    go_wp2
    go_loopw [17, 18] (fun v i wr => ∃ (k : Nat) (va : Option Addr) (vc : Nat) (L : Nat → Nat), k ≤ P ∧ i = .int .i64 k ∧ v = .slice va k vc ∧ Listed wr w.heap.size P v k L ∧ Ints wr a1 len c1 f ∧ Below w.heap.size w wr)
      (fun _ i _ => P - (intOf i).toNat)
    case atStart => exact ⟨0, pa, pc, fun _ => 0, Nat.zero_le _, rfl, rfl, ⟨hown2, fun j hj => by omega⟩, hi2, hb2⟩
    case round =>
      obtain ⟨k, va, vc, L, hk, rfl, rfl, hL, hi3, hb3⟩ := hrel
      have hs3 := hb3.size
      by_cases hlt : k < P
      · have hown := hL.1
        go_wp2_with (at_builtin; refine wpList_append_lies _ rfl _ _ 37 rfl w.heap.size 39 i0 _ 4 72 Try.underlying37 hi0 hz0 hz1 hz2 rfl (by omega) (.slice va k vc) k (cellsTo P L k) rfl ((hown.alloc _).alloc _) ⟨wr.heap.size + 1, 0, none⟩ 1 1 [.string { data := #[112, 114, 101, 115, 101, 116] }, .string { data := #[112, 111] }, .slice (some ⟨wr.heap.size, 0, none⟩) 2 2, .string { data := #[112, 109] }] rfl rfl ?q1 ?q2 (by omega) (by unfold maxLen; omega) (by omega) (by simp; omega) (wr.heap.size + 2) (by simp) ?_)
        case q1 => exact World.news_of_block (cs := #[.string { data := #[112, 114, 101, 115, 101, 116] }, .string { data := #[112, 111] }, .slice (some ⟨wr.heap.size, 0, none⟩) 2 2, .string { data := #[112, 109] }]) (t := 39) (fr := (0, 0)) (by simpa using heap_alloc_at (wr.alloc (.cells #[.int .i64 (-1 - (k : Int)), .int .i64 k] 3)) (.cells #[.string { data := #[112, 114, 101, 115, 101, 116] }, .string { data := #[112, 111] }, .slice (some ⟨wr.heap.size, 0, none⟩) 2 2, .string { data := #[112, 109] }] 39))
        case q2 => intro u hu; simp at hu; rcases hu with rfl | rfl | rfl | rfl <;> rfl
        intro g cp w4 hown4 hgrow4 _ _
        have hL4 := preset_step hlt hL hown4 hgrow4
        have hi4 := ints_grown hi3 hown hgrow4
        have hb4 := below_grown hb3 hs3 hown hgrow4
        clear hown4 hgrow4 hown hL hi3 hb3 hs3 hown2 hi2 hb2
        go_wp2
        go_roundw
        case rel => exact ⟨k + 1, _, _, _, by omega, by go_num, rfl, hL4, hi4, hb4⟩
        case measure => simp [intOf]; omega
      · obtain rfl : P = k := by omega
        clear hown2 hi2 hb2
        go_wp2_with fail
        refine (clone_any a1 len c1 f _ (by omega) hi3.read).mono ?_
        rintro e w4 ⟨a5, c5, rfl, hi5, hn5, hb5⟩
        have hi4 := (hi3.below hb5)
        have hL4 := listed_below hL hb5
        have hb4 := hb3.trans (hb5.mono hs3)
        have hs4 := hb4.size
        have HN : Hid (a5.isNone = a1.isNone) := hn5
        clear hi3 hL hb3 hb5 hs3 hn5
        go_wp2_with fail
        go_loopw [20] (fun i wq => ∃ (j : Nat) (va : Option Addr) (vc : Nat) (L : Nat → Nat), j ≤ K ∧ i = .int .i64 j ∧ wq.heap[w4.heap.size]? = some (.cells #[.int .i64 ops, .int .i64 obj, .bool co, .slice va (nl P j) vc, .slice a5 len c5, .int .i64 (wrap64 (found + (j : Int)))] 42 (0, 0)) ∧ Listed wq w.heap.size P (.slice va (nl P j) vc) (nl P j) L ∧ Ints wq a1 len c1 f ∧ Ints wq a5 len c5 f ∧ Below w.heap.size w wq)
          (fun i _ => K - (intOf i).toNat)
        case atStart =>
          have e0 : nl P 0 = P := by unfold nl; split <;> omega
          refine ⟨0, va, vc, L, Nat.zero_le _, rfl, ?_, ?_, ?_, ?_, ?_⟩
          · rw [wrap_start _ hwf, e0]; exact heap_alloc_at _ _
          · rw [e0]; exact listed_below hL4 ((Below.refl _ _).alloc (Nat.le_refl _) _)
          · exact hi4.below ((Below.refl _ _).alloc (Nat.le_refl _) _)
          · exact hi5.below ((Below.refl _ _).alloc (Nat.le_refl _) _)
          · exact hb4.alloc hs4 _
        case round =>
          obtain ⟨j, va, vc, L, hj, rfl, hR, hL, hi6, hi7, hb6⟩ := hrel
          have HR := hide hR
          have hs6 := hb6.size
          clear hR hi5 hi4 hL4 hb4
          by_cases hlt : j < K
          · by_cases hfull : nl P j < 100
            · obtain ⟨e1, e2⟩ := nl_lt hfull
              have E1 := hide e1
              have E2 := hide e2
              clear e1 e2
              generalize hnn : nl P j = n at *
              have HN2 := hide hnn
              clear hnn
              have hlR : w4.heap.size < wr.heap.size := (Array.getElem?_eq_some_iff.1 (unhide HR)).1
              have hR2 : (wr.alloc (.cells #[.int .i64 (j : Int)] 3)).heap[w4.heap.size]? = some (.cells #[.int .i64 ops, .int .i64 obj, .bool co, .slice va n vc, .slice a5 len c5, .int .i64 (wrap64 (found + (j : Int)))] 42 (0, 0)) := (Below.heap_alloc _ _ _ hlR).trans (unhide HR)
              have HR2 := hide hR2
              clear hR2
              go_wp2_with fail
              refine (zzadd_list w4.heap.size w.heap.size ops obj _ co (.slice va n vc) (.slice a5 len c5) _ _ _ _ va n vc (cellsTo P L n) _ rfl hfull (unhide HR2) (hL.1.alloc _) (by simp; omega) rfl rfl rfl rfl).mono ?_
              rintro e w7 ⟨rfl, g, cp, hR7, hown7, hk7⟩
              have HR7 := hide hR7
              have hL7 := add_step (unhide E1) hL (unhide HR) hown7 hk7
              have hi8 := ints_kept2 hi6 (unhide HR) (fun b m f hr => rowIs_ne_own hL.1 hr) hk7
              have hi9 := ints_kept2 hi7 (unhide HR) (fun b m f hr => rowIs_ne_own hL.1 hr) hk7
              have hb7 := below_kept2 hb6 hs6 hs4 (fun k hk => (hL.1.lt k hk).1) hk7
              clear hR7 hown7 hk7 hi6 hi7 hb6 hL
              go_wp2
              go_roundw
              case rel => exact ⟨j + 1, _, _, _, by omega, by go_num, by rw [unhide E2, ← wrap_step]; exact unhide HR7, by rw [unhide E2]; exact hL7, hi8, hi9, hb7⟩
              case measure => simp [intOf]; omega
            · have E2 := hide (nl_full hfull)
              have hn4 := nl_le P j hP
              generalize hnn : nl P j = n at *
              have HN2 := hide hnn
              clear hnn
              have hlR : w4.heap.size < wr.heap.size := (Array.getElem?_eq_some_iff.1 (unhide HR)).1
              have hR2 : (wr.alloc (.cells #[.int .i64 (j : Int)] 3)).heap[w4.heap.size]? = some (.cells #[.int .i64 ops, .int .i64 obj, .bool co, .slice va n vc, .slice a5 len c5, .int .i64 (wrap64 (found + (j : Int)))] 42 (0, 0)) := (Below.heap_alloc _ _ _ hlR).trans (unhide HR)
              have HR2 := hide hR2
              clear hR2
              go_wp2_with fail
              refine (zzadd_full w4.heap.size ops obj _ co (.slice va n vc) (.slice a5 len c5) _ _ _ _ va n vc _ rfl (by omega) (by omega) (unhide HR2)).mono ?_
              rintro e w7 ⟨rfl, hR7, hk7⟩
              have HR7 := hide hR7
              have hL7 := listed_kept2 hL (unhide HR) hk7
              have hi8 := ints_kept2 hi6 (unhide HR) (fun b m f hr => by simp) hk7
              have hi9 := ints_kept2 hi7 (unhide HR) (fun b m f hr => by simp) hk7
              have hb7 := below_kept2 hb6 hs6 hs4 (fun k hk => by simp at hk) hk7
              clear hR7 hk7 hi6 hi7 hb6 hL
              go_wp2
              go_roundw
              case rel => exact ⟨j + 1, _, _, _, by omega, by go_num, by rw [unhide E2, ← wrap_step]; exact unhide HR7, by rw [unhide E2]; exact hL7, hi8, hi9, hb7⟩
              case measure => simp [intOf]; omega
          · obtain rfl : K = j := by omega
            have hn4 := nl_le P K hP
            go_upto_if 99 with fail
            go_cut [21] (fun v wx => v = .int .i64 (nl P K : Nat) ∧ wx = wr)
            case first =>
              by_cases hp : P < 100
              · have hnl : nl P K = min (P + K) 100 := by unfold nl; rw [if_pos hp]
                have HNL := hide hnl
                clear hnl
                by_cases hp2 : 100 < P + K
                · go_wp2
                  go_meet
                  case rel => exact ⟨by rw [unhide HNL]; go_num, rfl⟩
                · go_wp2
                  go_meet
                  case rel => exact ⟨by rw [unhide HNL]; go_num, rfl⟩
              · have hnl : nl P K = P := by unfold nl; rw [if_neg hp]
                have HNL := hide hnl
                clear hnl
                go_wp2
                go_meet
                case rel => exact ⟨by rw [unhide HNL], rfl⟩
            case rest =>
              obtain ⟨rfl, hw⟩ := hcut
              subst hw
              have hlR : w4.heap.size < wc.heap.size := (Array.getElem?_eq_some_iff.1 (unhide HR)).1
              have d0 : wc.cell? ⟨w4.heap.size, 0, none⟩ = some (.int .i64 ops) := by simp [World.cell?, unhide HR]
              have d1 : wc.cell? ⟨w4.heap.size, 1, none⟩ = some (.int .i64 obj) := by simp [World.cell?, unhide HR]
              have d2 : wc.cell? ⟨w4.heap.size, 2, none⟩ = some (.bool co) := by simp [World.cell?, unhide HR]
              have d3 : wc.cell? ⟨w4.heap.size, 3, none⟩ = some (.slice va (nl P K) vc) := by simp [World.cell?, unhide HR]
              have d4 : wc.cell? ⟨w4.heap.size, 4, none⟩ = some (.slice a5 len c5) := by simp [World.cell?, unhide HR]
              have d5 : wc.cell? ⟨w4.heap.size, 5, none⟩ = some (.int .i64 (wrap64 (found + (K : Int)))) := by simp [World.cell?, unhide HR]
              have HL := hide hL
              rcases listed_form hL with h0 | ⟨g, rfl⟩
              · clear hL
                generalize nl P K = n at *
                subst h0
                go_wp2_with fail
                go_loopw [22] (fun i wx => i = .int .i64 0 ∧ wx = wc) (fun i _ => 0 - (intOf i).toNat)
                case atStart => exact ⟨rfl, rfl⟩
                case round =>
                  obtain ⟨rfl, rfl⟩ := hrel
                  go_wp2_with fail
                  refine (same_any a1 a5 len c1 c5 f _ (by omega) hi6 hi7 (unhide HN)).mono ?_
                  rintro e w9 ⟨rfl, hb9⟩
                  go_wp2
                  go_ret
                  exact ⟨rfl, hb6.trans (hb9.mono hs6)⟩
              · clear hL
                generalize nl P K = n at *
                have hg := listed_lt (unhide HL)
                go_wp2_with fail
                go_loopw [22] (fun i wx => ∃ j : Nat, j ≤ n ∧ i = .int .i64 j ∧ Below wc.heap.size wc wx) (fun i _ => n - (intOf i).toNat)
                case atStart => exact ⟨0, Nat.zero_le _, rfl, Below.refl _ _⟩
                case round =>
                  obtain ⟨j, hj, rfl, hb8⟩ := hrel
                  have hs8 := hb8.size
                  have k0 := (hb8.cell (p := ⟨w4.heap.size, 0, none⟩) hlR).trans d0
                  have k1 := (hb8.cell (p := ⟨w4.heap.size, 1, none⟩) hlR).trans d1
                  have k2 := (hb8.cell (p := ⟨w4.heap.size, 2, none⟩) hlR).trans d2
                  have k3 := (hb8.cell (p := ⟨w4.heap.size, 3, none⟩) hlR).trans d3
                  have k4 := (hb8.cell (p := ⟨w4.heap.size, 4, none⟩) hlR).trans d4
                  clear d0 d1 d2 d3 d4 d5
                  by_cases hlt : j < n
                  · have hc := fun i (hi : i < 4) => (hb8.cell (p := ⟨g, j * 4 + i, none⟩) hg).trans (listed_cell (unhide HL) j i hlt hi)
                    have g0 := hc 0 (by omega)
                    have g1 := hc 1 (by omega)
                    have g2 := hc 2 (by omega)
                    have g3 := hc 3 (by omega)
                    clear hc
                    have hrow := (unhide HL).2 j hlt
                    have hLj : L j < wr.heap.size := Nat.lt_of_lt_of_le hrow.lt hs8
                    by_cases hjP : j < P
                    · simp [ent, hjP] at g0 g1 g2 g3
                      have l0 := (hb8.cell (p := ⟨L j, 0, none⟩) hrow.lt).trans (hrow.cell (i := 0) (by simp [lineN, hjP]))
                      have l1 := (hb8.cell (p := ⟨L j, 1, none⟩) hrow.lt).trans (hrow.cell (i := 1) (by simp [lineN, hjP]))
                      simp [line, hjP] at l0 l1
                      clear hrow
                      go_wp2_with fail
                      go_roundw
                      case rel => exact ⟨j + 1, by omega, by go_num, hb8.alloc hs8 _⟩
                      case measure => simp [intOf]; omega
                    · simp [ent, hjP] at g0 g1 g2 g3
                      have l0 := (hb8.cell (p := ⟨L j, 0, none⟩) hrow.lt).trans (hrow.cell (i := 0) (by simp [lineN, hjP]))
                      simp [line, hjP] at l0
                      clear hrow
                      go_wp2_with fail
                      go_roundw
                      case rel => exact ⟨j + 1, by omega, by go_num, hb8.alloc hs8 _⟩
                      case measure => simp [intOf]; omega
                  · go_wp2_with fail
                    refine (same_any a1 a5 len c1 c5 f _ (by omega) (hi6.below hb8) (hi7.below hb8) (unhide HN)).mono ?_
                    rintro e w9 ⟨rfl, hb9⟩
                    go_wp2
                    go_ret
                    exact ⟨rfl, (hb6.trans (hb8.mono hs6)).trans (hb9.mono (by omega))⟩
end Go.Proofs.Qxb6600486a

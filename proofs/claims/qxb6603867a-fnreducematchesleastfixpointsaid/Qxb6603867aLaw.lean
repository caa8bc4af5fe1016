import Derived.Test.Qxb6603867aZZ
import Derived.Test.Qxb6603867aFix
import Derived.Test.Qxb6603867aDom
import Derived.Test.Qxb6603867aSmall
import Derived.Test.Qxb6603867aLaw0
namespace Go.Proofs.Qxb6603867a
set_option linter.unusedVariables false
open Go.RowKit

set_option maxRecDepth 100000 in
set_option maxHeartbeats 6400000 in
theorem law_any (a0 a1 a2 a3 a4 a5 : Option Addr) (n0 n n2 n3 m m' c0 c1 c2 c3 c4 c5 : Nat) (f : Nat → ByteArray) (g1 g2 st v u : Nat → Int) (w : World)
    (r0 : Read w a0 n0 c0 (fun i => .string (f i))) (r1 : Read w a1 n c1 (fun i => .int .i64 (g1 i))) (r2 : Read w a2 n2 c2 (fun i => .int .i64 (g2 i))) (r3 : Read w a3 n3 c3 (fun i => .int .i32 (st i))) (r4 : Read w a4 m c4 (fun i => .int .i32 (v i))) (r5 : Read w a5 m' c5 (fun i => .int .i32 (u i)))
    (hv : I32 m v) (hu : I32 m' u) :
    Calls Try.prog 6 #[.slice a0 n0 c0, .slice a1 n c1, .slice a2 n2 c2, .slice a3 n3 c3, .slice a4 m c4, .slice a5 m' c5] w fun e w' => e = .returned (.bool true) ∧ Below w.heap.size w w' := by
  have R0 := hide r0
  have R1 := hide r1
  have R2 := hide r2
  have R3 := hide r3
  have R4 := hide r4
  have R5 := hide r5
  clear r0 r1 r2 r3 r4 r5
  go_enter Try.func6, Try.ntmps6
  go_wp2_with fail
  refine (bytes_any a0 n0 c0 f a1 a2 a3 a4 a5 n n2 n3 m m' c1 c2 c3 c4 c5 w (unhide R0)).mono ?_
  rintro e w1 ⟨hout, rfl⟩
  rcases hout with rfl | ⟨rfl, l0, l1, l2, l3, l4, l5, HB⟩
  · go_wp2_with fail
    go_ret
    exact ⟨rfl, Below.refl _ _⟩
  · replace HB := hide HB
    by_cases hsz : 1048576 < 16 * n0 + 8 * n + 8 * n2 + 4 * (n3 + m + m')
    · go_wp2_with fail
      go_ret
      exact ⟨rfl, Below.refl _ _⟩
    · go_wp2_with fail
      go_loop [13, 14] (fun z j => ∃ t y : Nat, t ≤ n0 ∧ y ≤ 1048576 ∧ j = .int .i64 t ∧ z = .int .i64 y) (fun _ j => n0 - (intOf j).toNat)
      case atStart => exact ⟨0, 16 * n0 + 8 * n + 8 * n2 + 4 * (n3 + m + m'), Nat.zero_le _, by omega, rfl, by go_num⟩
      case round =>
        obtain ⟨t, y, ht, hy, rfl, rfl⟩ := hrel
        by_cases hlt : t < n0
        · obtain ⟨x, rfl, hc⟩ : ∃ x, a0 = some x ∧ ∀ i, i < n0 → w.cell? (x.add i) = some (.string (f i)) := by
            rcases (unhide R0) with ⟨_, h, _⟩ | h
            · omega
            · exact h
          have hct := hc t hlt
          have hsb := HB t hlt
          clear hc
          generalize f t = s at hct hsb
          by_cases h2 : 1048576 < y + s.size
          · go_wp2_with fail
            go_ret
            exact ⟨rfl, Below.refl _ _⟩
          · go_wp2_with fail
            go_round
            case rel => exact ⟨t + 1, y + s.size, by omega, by omega, by go_num, by go_num⟩
            case measure => simp [intOf]; omega
        · go_wp2_with fail
          refine (domain_any n a3 a4 a5 n3 m m' c3 c4 c5 u w l1 l4 l3 l5 (unhide R5) hu).mono ?_
          rintro e w1 ⟨hout, rfl⟩
          rcases hout with rfl | ⟨rfl, rfl, h3, hd⟩
          · go_wp2_with fail
            go_ret
            exact ⟨rfl, Below.refl _ _⟩
          · go_wp2_with fail
            refine (cstr_any a0 n0 c0 f w l0 (unhide R0)).mono ?_
            rintro e w1 ⟨b0, d0, rfl, o0, k1⟩
            go_wp2_with fail
            refine (cint_any a1 n c1 g1 w1 l1 ((unhide R1).below k1)).mono ?_
            rintro e w2 ⟨b1, d1, rfl, o1, k2'⟩
            have k2 := k1.trans (k2'.mono k1.size)
            clear k2' o0
            go_wp2_with fail
            refine (ci64_any a2 n2 c2 g2 w2 l2 ((unhide R2).below k2)).mono ?_
            rintro e w3 ⟨b2, d2, rfl, o2, k3'⟩
            have k3 := k2.trans (k3'.mono k2.size)
            clear k3' o1
            go_wp2_with fail
            refine (ci32_any a3 n3 c3 st w3 l3 ((unhide R3).below k3)).mono ?_
            rintro e w4 ⟨b3, d3, rfl, o3, k4'⟩
            have k4 := k3.trans (k4'.mono k3.size)
            clear k4' o2
            have O3 := hide o3
            clear o3
            go_wp2_with fail
            refine (ci32_any a4 m' c4 v w4 l4 ((unhide R4).below k4)).mono ?_
            rintro e w5 ⟨b4, d4, rfl, o4, k5'⟩
            have k5 := k4.trans (k5'.mono k4.size)
            have O3' := hide ((unhide O3).below (Nat.le_refl _) k5')
            have O4 := hide o4
            clear k5' o4 O3
            go_wp2_with fail
            refine (ci32_any a5 m' c5 u w5 l5 ((unhide R5).below k5)).mono ?_
            rintro e w6 ⟨b5, d5, rfl, o5, k6'⟩
            have k6 := k5.trans (k6'.mono k5.size)
            have O3 := hide ((unhide O3').below (Nat.le_refl _) k6')
            have O4' := hide ((unhide O4).below (Nat.le_refl _) k6')
            have O5 := hide o5
            clear k6' o5 O3' O4 k1 k2 k3 k4 k5 R0 R1 R2 R3 R4 R5
            obtain ⟨act, hact⟩ : ∃ act : Nat → Bool, ∀ p, p < n → act p = decide (st p = st (p + 1)) := ⟨_, fun _ _ => rfl⟩
            have HACT := hide hact
            obtain ⟨F, H, hleast⟩ := Pl.exists_least n m' v u act hd
            clear hact
            go_wp2_with fail
            refine (zzreduce_any n m' n3 b0 b1 b2 b3 b4 b5 n0 d0 d1 n2 d2 d3 d4 d5 v u st w6 l1 l4 l3 hv h3 (unhide O3) (unhide O4') (unhide O5) act F H (unhide HACT) hleast.closed hd).mono ?_
            rintro e w7 ⟨eb, db, ab, fb, need, free, rep, nm, rfl, q1, q2, q3, q4, hinv, ha, he, hlaid, k7'⟩
            obtain ⟨hfin1, hfin2⟩ := hinv.final hleast ha he
            have hlf := hinv.lf0
            have hneed := hinv.need_le (fun x hx => (hv x hx).1)
            have k7 := k6.trans (k7'.mono k6.size)
            have P3 := hide ((unhide O3).below (Nat.le_refl _) k7')
            have P4 := hide ((unhide O4').below (Nat.le_refl _) k7')
            have P5 := hide ((unhide O5).below (Nat.le_refl _) k7')
            have Q1 := hide q1
            have Q2 := hide q2
            have Q3 := hide q3
            have Q4 := hide q4
            have HLF := hide hlf
            have HND := hide hneed
            have HF1 := hide hfin1
            have HF2 := hide hfin2
            clear k7' q1 q2 q3 q4 hinv ha he O3 O4' O5 k6 hlf hneed hfin1 hfin2
            go_wp2_with fail
            refine (fix_any n m' n3 b3 b4 b5 d3 d4 d5 v u st w7 l1 l4 l3 hv hu h3 (unhide P3) (unhide P4) (unhide P5) act (unhide HACT) hd).mono ?_
            rintro e w8 ⟨F', H', rfl, hcl, hund, s1, s2, k8'⟩
            obtain ⟨eqF, eqH⟩ := Pl.least_of hleast hcl hund
            have k8 := k7.trans (k8'.mono k7.size)
            have eFree : Hid (∀ p, p < n → F' p = free p) := fun p hp => ((unhide HF1 p hp).trans (eqF p hp)).symm
            have eNeed : Hid (∀ x, x < m' → v x < 0 → (need x : Int) = if H' x = true then 0 else (Pl.kk v x : Int) - Pl.cc u H' x m') := fun x hx hv' => by
              rw [unhide HF2 x hx hv', eqH x hx, Pl.cc_congr u H H' x m' eqH]
            have T1 := hide (s1.congr (g := fun p => .bool (free p)) (fun p hp => by rw [unhide eFree p hp]))
            have T2 := hide s2
            have U1 := hide ((unhide Q1).of_block (k8'.block fb (unhide Q1).lt))
            have U2 := hide ((unhide Q2).of_block (k8'.block eb (unhide Q2).lt))
            have U3 := hide ((unhide Q3).of_block (k8'.block db (unhide Q3).lt))
            have U4 := hide ((unhide Q4).of_block (k8'.block ab (unhide Q4).lt))
            have V4 := hide ((unhide P4).below (Nat.le_refl _) k8')
            have V5 := hide ((unhide P5).below (Nat.le_refl _) k8')
            generalize w7.heap.size = hb at *
            clear k8' s1 s2 Q1 Q2 Q3 Q4 P3 P4 P5 hcl hund eqF eqH HF1 HF2 k7 hleast eFree
            have htot := Pl.fs_le (Pl.sr n v) n m'
            go_wp2_with fail
            go_loopw [28, 29] (fun s28 s29 wr => ∃ t : Nat, t ≤ n ∧ s29 = .int .i64 t ∧ s28 = .int .i64 (Pl.tr free t : Nat) ∧ Below w8.heap.size w8 wr) (fun _ s29 _ => n - (intOf s29).toNat)
            case atStart => exact ⟨0, Nat.zero_le _, rfl, rfl, Below.refl _ _⟩
            case round =>
              obtain ⟨t, ht, rfl, rfl, hbel⟩ := hrel
              have htr := Pl.tr_le free t
              by_cases hlt : t < n
              · have x1 := (hbel.cell (p := ⟨fb, t, none⟩) (unhide U1).lt).trans ((unhide U1).cell hlt)
                have x2 := (hbel.cell (p := ⟨hb, t, none⟩) (unhide T1).lt).trans ((unhide T1).cell hlt)
                have g0 : (0 : Int) ≤ (t : Int) := by omega
                have g1 : (t : Int) < (n : Int) := by omega
                cases hf : free t with
                | true =>
                  rw [hf] at x1 x2
                  have HT : Hid (Pl.tr free (t + 1) = Pl.tr free t + 1) := by show _ = _; rw [Pl.tr, if_pos hf]
                  clear hf
                  go_wp2_with fail
                  go_quiet (fail)
                  go_wp2_with fail
                  go_roundw
                  case rel => exact ⟨t + 1, by omega, by go_num, by rw [unhide HT]; go_num, below_drewN hbel _⟩
                  case measure => simp [intOf]; omega
                | false =>
                  rw [hf] at x1 x2
                  have HT : Hid (Pl.tr free (t + 1) = Pl.tr free t) := by show _ = _; rw [Pl.tr, if_neg (by rw [hf]; simp)]; rfl
                  clear hf
                  go_wp2_with fail
                  go_quiet (fail)
                  go_wp2_with fail
                  go_roundw
                  case rel => exact ⟨t + 1, by omega, by go_num, by rw [unhide HT], below_drewN hbel _⟩
                  case measure => simp [intOf]; omega
              · obtain rfl : n = t := by omega
                have V5' := hide ((unhide V5).below (Nat.le_refl _) hbel)
                have T2' := hide ((unhide T2).of_block (hbel.block _ (unhide T2).lt))
                go_wp2_with fail
                refine (held_any n m' b5 d5 (hb + 1) u H' wr l4 (unhide V5') hu hd (unhide T2')).mono ?_
                rintro e w9 ⟨rfl, hcnt, k9'⟩
                have hb9 := hbel.trans (k9'.mono hbel.size)
                have W2 := hide ((unhide T2).of_block (hb9.block _ (unhide T2).lt))
                have X2 := hide ((unhide U2).of_block (hb9.block _ (unhide U2).lt))
                have X3 := hide ((unhide U3).of_block (hb9.block _ (unhide U3).lt))
                have X4 := hide ((unhide U4).of_block (hb9.block _ (unhide U4).lt))
                have Y4 := hide ((unhide V4).below (Nat.le_refl _) hb9)
                have Y5 := hide ((unhide V5).below (Nat.le_refl _) hb9)
                have HC := hide hcnt
                have k10 := k8.trans (hb9.mono k8.size)
                generalize wr.heap.size = cb at *
                clear hcnt k9' hbel hb9 V4 V5 V5' U1 U2 U3 U4 T1 T2 T2' k8 htr
                go_wp2_with fail
                go_loopw [31] (fun s31 wr => ∃ t : Nat, t ≤ m' ∧ s31 = .int .i64 t ∧ Below w9.heap.size w9 wr) (fun s31 _ => m' - (intOf s31).toNat)
                case atStart => exact ⟨0, Nat.zero_le _, rfl, Below.refl _ _⟩
                case round =>
                  obtain ⟨t, ht, rfl, hbel⟩ := hrel
                  by_cases hlt : t < m'
                  · obtain ⟨vb, rfl, hvr⟩ := (unhide Y4).form (by omega)
                    have x1 := (hbel.cell (p := ⟨vb, t, none⟩) hvr.lt).trans (hvr.cell hlt)
                    have x2 := (hbel.cell (p := ⟨hb + 1, t, none⟩) (unhide W2).lt).trans ((unhide W2).cell hlt)
                    have x3 := (hbel.cell (p := ⟨cb, t, none⟩) (unhide HC).lt).trans ((unhide HC).cell hlt)
                    have x4 := (hbel.cell (p := ⟨eb, t, none⟩) (unhide X2).lt).trans ((unhide X2).cell hlt)
                    have g0 : (0 : Int) ≤ (t : Int) := by omega
                    have g1 : (t : Int) < (m' : Int) := by omega
                    obtain ⟨hv1, hv2⟩ := hv t hlt
                    have hnl := unhide HND t hlt
                    have hccl := Pl.cc_le u H' t m'
                    clear hvr
                    by_cases h0 : 0 ≤ v t
                    · have hn0 := unhide HLF t hlt h0
                      rw [hn0] at x4
                      go_wp2_with fail
                      go_roundw
                      case rel => exact ⟨t + 1, by omega, by go_num, hbel⟩
                      case measure => simp [intOf]; omega
                    · have hne := unhide eNeed t hlt (by omega)
                      by_cases h1 : H' t = true
                      · rw [if_pos h1] at hne
                        rw [show need t = 0 by omega] at x4
                        rw [h1] at x2
                        clear h1 hne
                        go_wp2_with fail
                        go_roundw
                        case rel => exact ⟨t + 1, by omega, by go_num, hbel⟩
                        case measure => simp [intOf]; omega
                      · have h1' : H' t = false := by simpa using h1
                        rw [if_neg h1] at hne
                        rw [h1'] at x2
                        have hx := xor32 (v t) hv1 hv2
                        obtain ⟨q, hq⟩ : ∃ q : Nat, -1 - v t = (q : Int) := ⟨(-1 - v t).toNat, by omega⟩
                        have hkq : Pl.kk v t = q := by unfold Pl.kk; omega
                        rw [hkq] at hne
                        rw [hq] at hx
                        have hqb : q ≤ 2147483647 := by omega
                        have hw1 : IntKind.i64.wrap (q : Int) = (q : Int) := by rw [IntKind.wrap_i64]; omega
                        have hw2 : IntKind.i64.wrap ((q : Int) - (Pl.cc u H' t m' : Int)) = (need t : Int) := by rw [IntKind.wrap_i64]; omega
                        clear h1 h1' hkq hq hne
                        go_wp2_with fail
                        go_quiet (fail)
                        go_wp2_with fail
                        go_roundw
                        case rel => exact ⟨t + 1, by omega, by go_num, below_drewN hbel _⟩
                        case measure => simp [intOf]; omega
                  · obtain rfl : m' = t := by omega
                    have k11 := k10.trans (hbel.mono k10.size)
                    have Z3 := hide ((unhide X3).of_block (hbel.block _ (unhide X3).lt))
                    have Z4 := hide ((unhide X4).of_block (hbel.block _ (unhide X4).lt))
                    have A4 := hide ((unhide Y4).below (Nat.le_refl _) hbel)
                    have A5 := hide ((unhide Y5).below (Nat.le_refl _) hbel)
                    clear X2 X3 X4 Y4 Y5 hbel HC W2 k10 eNeed HND HLF
                    generalize hsrc : Pl.sr n v = src at *
                    have HSRC := hide hsrc
                    clear hsrc
                    have y0 := (unhide Z4).cell (i := 0) (by omega)
                    rw [Pl.fs_zero] at y0
                    have y1 := (unhide Z4).cell (i := n) (by omega)
                    have hmk := run_make_row' (P := Try.prog) 22 21 (.int .i32 0) 4 Try.underlying22 info21 rfl .i64 .i64 n (by omega) (by omega)
                    go_wp2_with fail
                    clear y0 y1
                    generalize hwb : wr = wb at *
                    clear hwb
                    go_loopw [33] (fun s33 wr => ∃ t : Nat, t ≤ n ∧ s33 = .int .i64 t ∧ Below wb.heap.size wb wr) (fun s33 _ => n - (intOf s33).toNat)
                    case atStart => exact ⟨0, Nat.zero_le _, rfl, Below.refl _ _⟩
                    case round =>
                      obtain ⟨t, ht, rfl, hbel⟩ := hrel
                      by_cases hlt : t < n
                      · have x1 := (hbel.cell (p := ⟨ab, t, none⟩) (unhide Z4).lt).trans ((unhide Z4).cell (i := t) (by omega))
                        have x2 := (hbel.cell (p := ⟨ab, t + 1, none⟩) (unhide Z4).lt).trans ((unhide Z4).cell (i := t + 1) (by omega))
                        have hmo := Pl.fs_mono src m' (p := t) (p' := t + 1) (by omega)
                        have hd1 : decide ((Pl.fs src (t + 1) m' : Int) < (Pl.fs src t m' : Int)) = false := by simp; omega
                        have g0 : (0 : Int) ≤ (t : Int) := by omega
                        have g1 : (t : Int) < (n : Int) + 1 := by omega
                        have g2 : (t : Int) + 1 < (n : Int) + 1 := by omega
                        have g3 : (0 : Int) ≤ (t : Int) + 1 := by omega
                        go_wp2_with fail
                        go_quiet (fail)
                        go_wp2_with fail
                        go_roundw
                        case rel => exact ⟨t + 1, by omega, by go_num, below_drewN hbel _⟩
                        case measure => simp [intOf]; omega
                      · obtain rfl : n = t := by omega
                        have k12 := k11.trans (hbel.mono k11.size)
                        have B3 := hide ((unhide Z3).of_block (hbel.block _ (unhide Z3).lt))
                        have B4 := hide ((unhide Z4).of_block (hbel.block _ (unhide Z4).lt))
                        have C4 := hide ((unhide A4).below (Nat.le_refl _) hbel)
                        have C5 := hide ((unhide A5).below (Nat.le_refl _) hbel)
                        clear Z3 Z4 A4 A5 hbel k11
                        generalize hwc : wr = wq at *
                        clear hwc
                        have hql := (unhide B4).lt
                        have hqd := (unhide B3).lt
                        go_wp2_with fail
                        go_loopw [35] (fun s35 wr => ∃ t : Nat, t ≤ n ∧ s35 = .int .i64 t ∧ wr.rowIs wq.heap.size 21 n (fun j => .int .i32 (if j < t then Pl.fs src j m' else 0 : Nat)) ∧ Below wq.heap.size wq wr) (fun s35 _ => n - (intOf s35).toNat)
                        case atStart => exact ⟨0, Nat.zero_le _, rfl, World.rowIs_made wq (.int .i32 0) n 21, (Below.refl _ _).alloc (Nat.le_refl _) _⟩
                        case round =>
                          obtain ⟨t, ht, rfl, hcur, hbel⟩ := hrel
                          by_cases hlt : t < n
                          · have x1 := (hbel.cell (p := ⟨ab, t, none⟩) hql).trans ((unhide B4).cell (i := t) (by omega))
                            have x2 := hcur.cell hlt
                            have x3 := hcur.frozen t
                            have HCU := hide hcur
                            clear hcur
                            go_wp2_with fail
                            go_roundw
                            case rel => exact ⟨t + 1, by omega, by go_num, ((unhide HCU).set t _).congr (fun j hj => by
                              by_cases e : j = t
                              · subst e; rw [if_pos rfl, if_pos (by omega)]
                              · rw [if_neg e]
                                by_cases e2 : j < t
                                · rw [if_pos e2, if_pos (by omega)]
                                · rw [if_neg e2, if_neg (by omega)]), hbel.setCell (Nat.le_refl _) _⟩
                            case measure => simp [intOf]; omega
                          · obtain rfl : n = t := by omega
                            have HCU := hide (hcur.congr (g := fun j => .int .i32 (Pl.fs src j m' + Pl.cnt src j 0 : Nat)) (fun j hj => by rw [if_pos hj]; rfl))
                            clear hcur
                            go_wp2_with fail
                            go_loopw [36] (fun s36 wr => ∃ t : Nat, t ≤ m' ∧ s36 = .int .i64 t ∧ wr.rowIs wq.heap.size 21 n (fun j => .int .i32 (Pl.fs src j m' + Pl.cnt src j t : Nat)) ∧ Below wq.heap.size wq wr) (fun s36 _ => m' - (intOf s36).toNat)
                            case atStart => exact ⟨0, Nat.zero_le _, rfl, unhide HCU, hbel⟩
                            case round =>
                              clear HCU hbel
                              obtain ⟨t, ht, rfl, hcur, hbel⟩ := hrel
                              by_cases hlt : t < m'
                              · obtain ⟨vb, rfl, hvr⟩ := (unhide C4).form (by omega)
                                obtain ⟨ub, rfl, hur⟩ := (unhide C5).form (by omega)
                                have x1 := (hbel.cell (p := ⟨vb, t, none⟩) hvr.lt).trans (hvr.cell hlt)
                                have x2 := (hbel.cell (p := ⟨ub, t, none⟩) hur.lt).trans (hur.cell hlt)
                                obtain ⟨hv1, hv2⟩ := hv t hlt
                                clear hvr hur
                                by_cases h0 : 0 ≤ v t ∧ v t < n
                                · obtain ⟨z, hz⟩ : ∃ z : Nat, v t = (z : Int) := ⟨(v t).toNat, by omega⟩
                                  have hzn : z < n := by omega
                                  have hsz' : src t = z := by rw [← unhide HSRC, Pl.sr_in h0.1 h0.2]; omega
                                  rw [hz] at x1
                                  have x3 : wr.cell? ⟨wq.heap.size, z, none⟩ = some (.int .i32 (Pl.place src m' t : Nat)) := by
                                    rw [hcur.cell hzn, Pl.place, hsz']
                                  have x4 := hcur.frozen z
                                  have hpl := Pl.place_lt src m' t hlt
                                  rw [hsz'] at hpl
                                  have hfl := Pl.fs_le src (z + 1) m'
                                  have hfm := Pl.fs_mono src m' (p := z + 1) (p' := n) (by omega)
                                  have x5 := (hbel.cell (p := ⟨ab, z + 1, none⟩) hql).trans ((unhide B4).cell (i := z + 1) (by omega))
                                  have x6 := (hbel.cell (p := ⟨db, Pl.place src m' t, none⟩) hqd).trans ((unhide B3).cell (i := Pl.place src m' t) (by omega))
                                  have hlx : nm (Pl.place src m' t) = u t := by
                                    have := hlaid t (Nat.zero_le _) hlt (by rw [unhide HSRC, hsz']; exact hzn)
                                    rw [unhide HSRC] at this; exact this
                                  rw [hlx] at x6
                                  have HE : Hid (∀ j : Nat, (if j = z then (.int .i32 ((Pl.place src m' t : Nat) + 1 : Int) : Value) else .int .i32 (Pl.fs src j m' + Pl.cnt src j t : Nat)) = .int .i32 (Pl.fs src j m' + Pl.cnt src j (t + 1) : Nat)) := fun j => by
                                    rw [Pl.cnt]
                                    by_cases e : j = z
                                    · subst e; rw [if_pos rfl, if_pos hsz', Pl.place, hsz']; congr 1
                                    · rw [if_neg e, if_neg (fun h => e (by omega))]; rfl
                                  have HCU := hide hcur
                                  clear hcur hz h0 hv1 hv2 hlx hsz'
                                  generalize Pl.place src m' t = q at *
                                  have g0 : (0 : Int) ≤ (q : Int) := by omega
                                  have g1 : (q : Int) < (Pl.fs src n m' : Int) := by omega
                                  have g2 : (0 : Int) ≤ (t : Int) := by omega
                                  have g3 : (t : Int) < (m' : Int) := by omega
                                  go_wp2_with fail
                                  go_quiet (fail)
                                  go_wp2_with fail
                                  go_roundw
                                  case rel => exact ⟨t + 1, by omega, by go_num, World.rowIs.congr (World.rowIs.set (w := wr.drewN _) (unhide HCU) z _) (fun j _ => unhide HE j), (below_drewN hbel _).setCell (Nat.le_refl _) _⟩
                                  case measure => simp [intOf]; omega
                                · have hsz' : src t = n := by rw [← unhide HSRC, Pl.sr_out h0]
                                  have HE : Hid (∀ j : Nat, j < n → Pl.cnt src j t = Pl.cnt src j (t + 1)) := fun j hj => by rw [Pl.cnt, if_neg (by omega)]; rfl
                                  have HCU := hide hcur
                                  clear hcur hsz'
                                  by_cases h1 : v t < 0
                                  all_goals
                                    go_wp2_with fail
                                    go_roundw
                                    case rel => exact ⟨t + 1, by omega, by go_num, (unhide HCU).congr (fun j hj => by rw [unhide HE j hj]), hbel⟩
                                    case measure => simp [intOf]; omega
                              · obtain rfl : m' = t := by omega
                                have HCU := hide (hcur.congr (g := fun j => .int .i32 (Pl.fs src (j + 1) m' : Nat)) (fun j hj => by rw [Pl.fs_succ]))
                                clear hcur
                                go_wp2_with fail
                                go_loopw [39] (fun s39 wr => ∃ t : Nat, t ≤ n ∧ s39 = .int .i64 t ∧ wr.rowIs wq.heap.size 21 n (fun j => .int .i32 (Pl.fs src (j + 1) m' : Nat)) ∧ Below wq.heap.size wq wr) (fun s39 _ => n - (intOf s39).toNat)
                                case atStart => exact ⟨0, Nat.zero_le _, rfl, unhide HCU, hbel⟩
                                case round =>
                                  clear HCU hbel
                                  obtain ⟨t, ht, rfl, hcur, hbel⟩ := hrel
                                  by_cases hlt : t < n
                                  · have x1 := (hbel.cell (p := ⟨ab, t + 1, none⟩) hql).trans ((unhide B4).cell (i := t + 1) (by omega))
                                    have x2 := hcur.cell hlt
                                    have HCU := hide hcur
                                    clear hcur
                                    have g0 : (0 : Int) ≤ (t : Int) := by omega
                                    have g1 : (t : Int) < (n : Int) := by omega
                                    have g2 : (t : Int) + 1 < (n : Int) + 1 := by omega
                                    have g3 : (0 : Int) ≤ (t : Int) + 1 := by omega
                                    go_wp2_with fail
                                    go_quiet (fail)
                                    go_wp2_with fail
                                    go_roundw
                                    case rel => exact ⟨t + 1, by omega, by go_num, unhide HCU, below_drewN hbel _⟩
                                    case measure => simp [intOf]; omega
                                  · have k13 := k12.trans (hbel.mono k12.size)
                                    clear hcur
                                    go_wp2_with fail
                                    go_ret
                                    exact ⟨rfl, k13⟩
end Go.Proofs.Qxb6603867a

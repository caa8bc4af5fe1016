import Derived.Test.Qxb6603867aRel
import Derived.Test.Qxb6603867aCnt
namespace Go.Proofs.Qxb6603867a
set_option linter.unusedVariables false
open Go.RowKit

/-- The reduction's block before 'index'. -/
def rawAt (w : World) (Rb Sb eb ab fb n m : Nat) (nmv : Value) : Prop :=
  w.heap[Rb]? = some (.cells #[.pointer (some ⟨Sb, 0, none⟩), .slice (some ⟨eb, 0, none⟩) m m, nmv, .slice (some ⟨ab, 0, none⟩) (n + 1) (n + 1), .slice (some ⟨fb, 0, none⟩) n n, .slice none 0 0, .int .i64 0, .bool false, .slice none 0 0, .slice none 0 0] 74 (0, 0))

theorem rawAt.setNm {w : World} {Rb Sb eb ab fb n m : Nat} {nmv : Value} (h : rawAt w Rb Sb eb ab fb n m nmv) (v : Value) : rawAt (w.setCell ⟨Rb, 2, none⟩ v) Rb Sb eb ab fb n m v := heap_setCell_in 2 _ h
theorem rawAt.of_block {w w' : World} {Rb Sb eb ab fb n m : Nat} {nmv : Value} (h : rawAt w Rb Sb eb ab fb n m nmv) (e : w'.heap[Rb]? = w.heap[Rb]?) : rawAt w' Rb Sb eb ab fb n m nmv := e.trans h
theorem rawAt.c0 {w : World} {Rb Sb eb ab fb n m : Nat} {nmv : Value} (h : rawAt w Rb Sb eb ab fb n m nmv) : w.cell? ⟨Rb, 0, none⟩ = some (.pointer (some ⟨Sb, 0, none⟩)) := by simp [World.cell?, show w.heap[Rb]? = _ from h]
theorem rawAt.c2 {w : World} {Rb Sb eb ab fb n m : Nat} {nmv : Value} (h : rawAt w Rb Sb eb ab fb n m nmv) : w.cell? ⟨Rb, 2, none⟩ = some nmv := by simp [World.cell?, show w.heap[Rb]? = _ from h]
theorem rawAt.c3 {w : World} {Rb Sb eb ab fb n m : Nat} {nmv : Value} (h : rawAt w Rb Sb eb ab fb n m nmv) : w.cell? ⟨Rb, 3, none⟩ = some (.slice (some ⟨ab, 0, none⟩) (n + 1) (n + 1)) := by simp [World.cell?, show w.heap[Rb]? = _ from h]
theorem rawAt.fz {w : World} {Rb Sb eb ab fb n m : Nat} {nmv : Value} (h : rawAt w Rb Sb eb ab fb n m nmv) (i : Nat) : w.frozen? ⟨Rb, i, none⟩ = false := by simp [World.frozen?, show w.heap[Rb]? = _ from h]
theorem rawAt.lt {w : World} {Rb Sb eb ab fb n m : Nat} {nmv : Value} (h : rawAt w Rb Sb eb ab fb n m nmv) : Rb < w.heap.size := (Array.getElem?_eq_some_iff.1 h).1

/-- namedAt in the first loop of 'index'. -/
def n1 (src : Nat → Nat) (n m k p : Nat) : Nat := if p < k then Pl.fs src (p + 1) m else if p < n then Pl.cnt src p m else 0
/-- namedAt in the second loop. -/
def n2 (src : Nat → Nat) (n m t p : Nat) : Nat := if p < n then Pl.fs src p m + Pl.cnt src p t else Pl.fs src n m

theorem n1_step (src : Nat → Nat) (n m k j : Nat) : (if j = k then (.int .i32 (Pl.fs src (k + 1) m : Nat) : Value) else .int .i32 (n1 src n m k j : Nat)) = .int .i32 (n1 src n m (k + 1) j : Nat) := by
  unfold n1
  by_cases e : j = k
  · subst e; rw [if_pos rfl, if_pos (by omega)]
  · rw [if_neg e]
    by_cases h : j < k
    · rw [if_pos h, if_pos (by omega)]
    · rw [if_neg h, if_neg (by omega : ¬ j < k + 1)]

theorem n1_last (src : Nat → Nat) (n m j : Nat) (hj : j < n + 1) : (if j = n then (.int .i32 (Pl.fs src n m : Nat) : Value) else .int .i32 (n1 src n m n j : Nat)) = .int .i32 (n2 src n m m j : Nat) := by
  unfold n1 n2
  by_cases e : j = n
  · subst e; rw [if_pos rfl, if_neg (by omega)]
  · rw [if_neg e, if_pos (by omega), if_pos (by omega), Pl.fs_succ]

theorem n2_step (src : Nat → Nat) (n m t j : Nat) (hs : src t < n) : (if j = src t then (.int .i32 (Pl.place src m t : Nat) : Value) else .int .i32 (n2 src n m (t + 1) j : Nat)) = .int .i32 (n2 src n m t j : Nat) := by
  unfold n2
  by_cases e : j = src t
  · subst e; rw [if_pos rfl, if_pos hs]; rfl
  · rw [if_neg e, Pl.cnt, if_neg (Ne.symm e)]; rfl

theorem n2_skip (src : Nat → Nat) (n m t j : Nat) (hs : src t = n) : n2 src n m (t + 1) j = n2 src n m t j := by
  unfold n2
  by_cases e : j < n
  · rw [if_pos e, if_pos e, Pl.cnt, if_neg (by omega)]; rfl
  · rw [if_neg e, if_neg e]

theorem n2_le (src : Nat → Nat) (n m t j : Nat) (ht : t ≤ m) : n2 src n m t j ≤ m := by
  unfold n2
  split
  · have := Pl.cnt_mono src j ht
    have h2 := Pl.fs_succ src j m
    have h3 := Pl.fs_le src (j + 1) m
    omega
  · exact Pl.fs_le _ _ _

/-- What 'index' leaves. -/
def Indexed (w : World) (Rb Sb eb ab fb n m : Nat) (v u : Nat → Int) (w' : World) : Prop :=
  ∃ nm, rawAt w' Rb Sb eb ab fb n m (.slice (some ⟨w.heap.size, 0, none⟩) (Pl.fs (Pl.sr n v) n m) (Pl.fs (Pl.sr n v) n m)) ∧
    w'.rowIs w.heap.size 21 (Pl.fs (Pl.sr n v) n m) (fun e => .int .i32 (nm e)) ∧ Pl.Laid n m v u 0 nm ∧ w'.rowIs ab 21 (n + 1) (fun p => .int .i32 (Pl.fs (Pl.sr n v) p m : Nat)) ∧ Keep w.heap.size Rb ab ab w w' ∧ w.heap.size < w'.heap.size

/-- The second loop's state. -/
def Handover (w : World) (Rb Sb eb ab fb n m : Nat) (v u : Nat → Int) (src : Nat → Nat) (t : Nat) (wr : World) : Prop :=
  ∃ nm : Nat → Int, rawAt wr Rb Sb eb ab fb n m (.slice (some ⟨w.heap.size, 0, none⟩) (Pl.fs src n m) (Pl.fs src n m)) ∧
        wr.rowIs ab 21 (n + 1) (fun p => .int .i32 (n2 src n m t p : Nat)) ∧ wr.rowIs w.heap.size 21 (Pl.fs src n m) (fun e => .int .i32 (nm e)) ∧ Pl.Laid n m v u t nm ∧ Keep w.heap.size Rb ab ab w wr ∧ w.heap.size < wr.heap.size

set_option maxRecDepth 100000 in
set_option maxHeartbeats 3200000 in
theorem index_any (Rb Sb nb eb ab fb n m : Nat) (v u : Nat → Int) (w : World) (hn : n ≤ 1048576) (hm : m ≤ 1048576) (hv : I32 m v) (hraw : rawAt w Rb Sb eb ab fb n m (.slice none 0 0))
    (hsn : w.cell? ⟨Sb, 4, none⟩ = some (.slice (some ⟨nb, 0, none⟩) m m)) (hc0 : ∀ x, x < m → w.cell? ⟨nb, x * 2, none⟩ = some (.int .i32 (v x))) (hc1 : ∀ x, x < m → w.cell? ⟨nb, x * 2 + 1, none⟩ = some (.int .i32 (u x)))
    (hat : w.rowIs ab 21 (n + 1) (fun p => .int .i32 (if p < n then Pl.cnt (Pl.sr n v) p m else 0 : Nat)))
    (h1 : Rb ≠ ab) (h2 : Sb ≠ Rb) (h3 : Sb ≠ ab) (h4 : nb ≠ Rb) (h5 : nb ≠ ab) (h6 : Sb < w.heap.size) (h7 : nb < w.heap.size) :
    Calls Try.prog 32 #[.pointer (some ⟨Rb, 0, none⟩), .int .i32 n] w fun e w' => e = .returned (.tuple #[]) ∧ Indexed w Rb Sb eb ab fb n m v u w' := by
  obtain ⟨src, hsrc⟩ : ∃ src, src = Pl.sr n v := ⟨_, rfl⟩
  unfold Indexed
  rw [← hsrc] at hat ⊢
  have HSRC := hide hsrc
  clear hsrc
  have hRlt := hraw.lt
  have hAlt := hat.lt
  have htot := Pl.fs_le src n m
  have hmk := run_make_row' (P := Try.prog) 22 21 (.int .i32 0) 4 Try.underlying22 info21 rfl .i32 .i32 (Pl.fs src n m) (by omega) (by omega)
  go_enter Try.func32, Try.ntmps32
  go_wp2_with fail
  go_loopw [4, 9] (fun s4 s9 wr => ∃ k : Nat, k ≤ n ∧ s9 = .int .i32 k ∧ s4 = .int .i32 (Pl.fs src k m : Nat) ∧ wr.rowIs ab 21 (n + 1) (fun p => .int .i32 (n1 src n m k p : Nat)) ∧ Keep w.heap.size Rb ab ab w wr ∧ wr.heap.size = w.heap.size ∧ rawAt wr Rb Sb eb ab fb n m (.slice none 0 0))
    (fun _ s9 _ => n - (intOf s9).toNat)
  case atStart => exact ⟨0, Nat.zero_le _, rfl, by rw [Pl.fs_zero]; rfl, hat.congr (fun j hj => by unfold n1; rw [if_neg (Nat.not_lt_zero j : ¬ j < 0)]), Keep.refl _ _ _ _ _, rfl, hraw⟩
  case round =>
    clear hraw hat
    obtain ⟨k, hk, rfl, rfl, hat, hkeep, hsz, hraw⟩ := hrel
    have c3 := hraw.c3
    have hfk := Pl.fs_le src k m
    by_cases hlt : k < n
    · have ck := hat.cell (i := k) (by omega)
      have fk := hat.frozen k
      have hn1 : n1 src n m k k = Pl.cnt src k m := by unfold n1; rw [if_neg (by omega), if_pos hlt]
      rw [hn1] at ck
      have hq : (Pl.fs src k m : Int) + (Pl.cnt src k m : Int) = ((Pl.fs src (k + 1) m : Nat) : Int) := by rw [Pl.fs_succ]; omega
      have hfk1 := Pl.fs_le src (k + 1) m
      have HA := hide hat
      have HR := hide hraw
      clear hat hraw hn1
      go_wp2_with fail
      go_roundw
      case rel => exact ⟨k + 1, by omega, by go_num, by first | rfl | go_num, ((unhide HA).set k _).congr (fun j hj => by first | exact n1_step src n m k j | (rw [← n1_step src n m k j]; congr 1)), hkeep.setCell _ (.inr (.inr (.inl rfl))) _, by simp [hsz], (unhide HR).of_block (Below.heap_setCell _ _ _ _ (by simpa using h1))⟩
      case measure => simp [intOf]; omega
    · obtain rfl : n = k := by omega
      have cN : wr.cell? ⟨ab, n, none⟩ = some (.int .i32 (n1 src n m n n : Nat)) := hat.cell (i := n) (by omega)
      have fN := hat.frozen n
      have f2 := hraw.fz 2
      have c2 := hraw.c2
      have c0 := hraw.c0
      have cs : wr.cell? ⟨Sb, 4, none⟩ = some (.slice (some ⟨nb, 0, none⟩) m m) := (hkeep.cell (p := ⟨Sb, 4, none⟩) h6 h2 h3 h3).trans hsn
      have HA := hide hat
      have HR := hide hraw
      have HSZ := hide hsz
      have l1 : Rb < wr.heap.size := by omega
      have l2 : ab < wr.heap.size := by omega
      have l3 : Sb < wr.heap.size := by omega
      clear hat hraw hsz
      have hk2 : Keep w.heap.size Rb ab ab w (((wr.setCell ⟨ab, n, none⟩ (.int .i32 (Pl.fs src n m : Nat))).setCell ⟨Rb, 2, none⟩ (.slice (some ⟨wr.heap.size, 0, none⟩) (Pl.fs src n m) (Pl.fs src n m))).alloc (.cells (madeCells #[.int .i32 0] (Pl.fs src n m)) 21)) :=
        ((hkeep.setCell _ (.inr (.inr (.inl rfl))) _).setCell _ (.inr (.inl rfl)) _).alloc (by simp; rw [unhide HSZ]; omega) _
      have hr2 : rawAt (((wr.setCell ⟨ab, n, none⟩ (.int .i32 (Pl.fs src n m : Nat))).setCell ⟨Rb, 2, none⟩ (.slice (some ⟨wr.heap.size, 0, none⟩) (Pl.fs src n m) (Pl.fs src n m))).alloc (.cells (madeCells #[.int .i32 0] (Pl.fs src n m)) 21)) Rb Sb eb ab fb n m (.slice (some ⟨wr.heap.size, 0, none⟩) (Pl.fs src n m) (Pl.fs src n m)) :=
        (((unhide HR).of_block (Below.heap_setCell wr ⟨ab, n, none⟩ _ Rb (by simpa using h1))).setNm _).of_block (Below.heap_alloc _ _ _ (by simpa using l1))
      have ha2 : (((wr.setCell ⟨ab, n, none⟩ (.int .i32 (Pl.fs src n m : Nat))).setCell ⟨Rb, 2, none⟩ (.slice (some ⟨wr.heap.size, 0, none⟩) (Pl.fs src n m) (Pl.fs src n m))).alloc (.cells (madeCells #[.int .i32 0] (Pl.fs src n m)) 21)).rowIs ab 21 (n + 1) (fun p => .int .i32 (n2 src n m m p : Nat)) :=
        ((((unhide HA).set n _).setOther (by simpa using Ne.symm h1) _).alloc _).congr (fun j hj => n1_last src n m j hj)
      have hd2 := World.rowIs_made ((wr.setCell ⟨ab, n, none⟩ (.int .i32 (Pl.fs src n m : Nat))).setCell ⟨Rb, 2, none⟩ (.slice (some ⟨wr.heap.size, 0, none⟩) (Pl.fs src n m) (Pl.fs src n m))) (.int .i32 0) (Pl.fs src n m) 21
      have hs2 : (((wr.setCell ⟨ab, n, none⟩ (.int .i32 (Pl.fs src n m : Nat))).setCell ⟨Rb, 2, none⟩ (.slice (some ⟨wr.heap.size, 0, none⟩) (Pl.fs src n m) (Pl.fs src n m))).alloc (.cells (madeCells #[.int .i32 0] (Pl.fs src n m)) 21)).heap.size = w.heap.size + 1 := by simp; exact unhide HSZ
      have HK2 := hide hk2
      have HR2 := hide hr2
      have HA2 := hide ha2
      have HD2 := hide hd2
      have HS2 := hide hs2
      clear hk2 hr2 ha2 hd2 hs2 hkeep
      go_wp2_with fail
      rw [show ((wr.setCell ⟨ab, n, none⟩ (.int .i32 (Pl.fs src n m : Nat))).setCell ⟨Rb, 2, none⟩ (.slice (some ⟨wr.heap.size, 0, none⟩) (Pl.fs src n m) (Pl.fs src n m))).heap.size = w.heap.size by simp; exact unhide HSZ] at HD2
      rw [unhide HSZ] at HR2 HA2 HD2 HS2 HK2 ⊢
      generalize (((wr.setCell ⟨ab, n, none⟩ (.int .i32 (Pl.fs src n m : Nat))).setCell ⟨Rb, 2, none⟩ (.slice (some ⟨w.heap.size, 0, none⟩) (Pl.fs src n m) (Pl.fs src n m))).alloc (.cells (madeCells #[.int .i32 0] (Pl.fs src n m)) 21)) = wq at HK2 HR2 HA2 HD2 HS2 ⊢
      clear HA HR HSZ l1 l2 l3 cN fN f2 c2 c0 cs c3
      go_loopg [6] m (fun gk s6 wr => ∃ nm : Nat → Int, gk ≤ m ∧ s6 = .int .i64 ((gk : Int) - 1) ∧ rawAt wr Rb Sb eb ab fb n m (.slice (some ⟨w.heap.size, 0, none⟩) (Pl.fs src n m) (Pl.fs src n m)) ∧
        wr.rowIs ab 21 (n + 1) (fun p => .int .i32 (n2 src n m gk p : Nat)) ∧ wr.rowIs w.heap.size 21 (Pl.fs src n m) (fun e => .int .i32 (nm e)) ∧ Pl.Laid n m v u gk nm ∧ Keep w.heap.size Rb ab ab w wr ∧ w.heap.size < wr.heap.size)
      case atStart => exact ⟨fun _ => 0, Nat.le_refl _, rfl, unhide HR2, unhide HA2, unhide HD2, Pl.Laid.top _ _ _ _ _, unhide HK2, by rw [unhide HS2]; omega⟩
      case round =>
        clear HK2 HR2 HA2 HD2 HS2
        obtain ⟨nm, hgm, rfl, hraw, hat, hnm, hlaid, hkeep, hsz⟩ := hrel
        cases gk with
        | zero =>
          have HA := hide hat
          have HR := hide hraw
          have HN := hide hnm
          clear hat hraw hnm
          go_wp2_with fail
          go_end0
          refine ⟨rfl, nm, unhide HR, unhide HN, hlaid, (unhide HA).congr (fun j hj => ?_), hkeep, hsz⟩
          unfold n2
          by_cases e : j < n
          · rw [if_pos e]; rfl
          · rw [if_neg e, show j = n by omega]
        | succ t =>
          rw [show (((t + 1 : Nat) : Int) - 1) = (t : Int) by omega]
          have htm : t < m := by omega
          have c0 := hraw.c0
          have c2 := hraw.c2
          have c3 := hraw.c3
          have cs : wr.cell? ⟨Sb, 4, none⟩ = some (.slice (some ⟨nb, 0, none⟩) m m) := (hkeep.cell (p := ⟨Sb, 4, none⟩) h6 h2 h3 h3).trans hsn
          have cv : wr.cell? ⟨nb, t * 2, none⟩ = some (.int .i32 (v t)) := (hkeep.cell (p := ⟨nb, t * 2, none⟩) h7 h4 h5 h5).trans (hc0 t htm)
          have cu : wr.cell? ⟨nb, t * 2 + 1, none⟩ = some (.int .i32 (u t)) := (hkeep.cell (p := ⟨nb, t * 2 + 1, none⟩) h7 h4 h5 h5).trans (hc1 t htm)
          obtain ⟨hv1, hv2⟩ := hv t htm
          have l1 : Rb < wr.heap.size := by omega
          have l2 : ab < wr.heap.size := by omega
          have l3 : Sb < wr.heap.size := by omega
          have l4 : w.heap.size ≠ Rb := by omega
          have l5 : w.heap.size ≠ ab := by omega
          by_cases h0 : 0 ≤ v t ∧ v t < n
          · obtain ⟨z, hz⟩ : ∃ z : Nat, v t = (z : Int) := ⟨(v t).toNat, by omega⟩
            have hzn : z < n := by omega
            have hsz' : src t = z := by rw [unhide HSRC, Pl.sr_in h0.1 h0.2]; omega
            have ca := hat.cell (i := z) (by omega)
            have fa := hat.frozen z
            have hpl : n2 src n m (t + 1) z = Pl.place src m t + 1 := by
              unfold n2; rw [if_pos hzn, Pl.cnt, if_pos hsz', Pl.place, hsz']; omega
            rw [hpl] at ca
            have hplt : Pl.place src m t < Pl.fs src n m := by
              have := Pl.place_lt src m t htm
              have h' := Pl.fs_mono src m (p := src t + 1) (p' := n) (by omega)
              omega
            have cd := hnm.cell hplt
            have fd := hnm.frozen (Pl.place src m t)
            rw [hz] at cv
            have HZ := hide hz
            have HA := hide hat
            have HR := hide hraw
            have HN := hide hnm
            have HS := hide hsz'
            clear hat hraw hnm hz h0 hv1 hv2 hpl hsz'
            obtain ⟨q, hq⟩ : ∃ q, q = Pl.place src m t := ⟨_, rfl⟩
            rw [← hq] at ca cd fd hplt
            have HQ := hide hq
            clear hq
            go_wp2_with fail
            have e0 : (wr.alloc (.cells #[.int .i32 (z : Int), .int .i32 (u t)] 67)).cell? ⟨Rb, 3, none⟩ = some (.slice (some ⟨ab, 0, none⟩) (n + 1) (n + 1)) := by rw [World.cell?_alloc_past _ _ _ l1]; exact c3
            have e1 : (wr.alloc (.cells #[.int .i32 (z : Int), .int .i32 (u t)] 67)).cell? ⟨Rb, 2, none⟩ = some (.slice (some ⟨w.heap.size, 0, none⟩) (Pl.fs src n m) (Pl.fs src n m)) := by rw [World.cell?_alloc_past _ _ _ l1]; exact c2
            have e2 : (wr.alloc (.cells #[.int .i32 (z : Int), .int .i32 (u t)] 67)).cell? ⟨ab, z, none⟩ = some (.int .i32 ((q + 1 : Nat) : Int)) := by rw [World.cell?_alloc_past _ _ _ l2]; exact ca
            have e3 : (wr.alloc (.cells #[.int .i32 (z : Int), .int .i32 (u t)] 67)).cell? ⟨w.heap.size, q, none⟩ = some (.int .i32 (nm q)) := by rw [World.cell?_alloc_past _ _ _ hsz]; exact cd
            have e4 : (wr.alloc (.cells #[.int .i32 (z : Int), .int .i32 (u t)] 67)).frozen? ⟨ab, z, none⟩ = false := by rw [World.frozen?_alloc_past _ _ _ l2]; exact fa
            have e5 : (wr.alloc (.cells #[.int .i32 (z : Int), .int .i32 (u t)] 67)).frozen? ⟨w.heap.size, q, none⟩ = false := by rw [World.frozen?_alloc_past _ _ _ hsz]; exact fd
            have e6 : (wr.alloc (.cells #[.int .i32 (z : Int), .int .i32 (u t)] 67)).cell? ⟨wr.heap.size, 0, none⟩ = some (.int .i32 z) := by simp
            have e7 : (wr.alloc (.cells #[.int .i32 (z : Int), .int .i32 (u t)] 67)).cell? ⟨wr.heap.size, 1, none⟩ = some (.int .i32 (u t)) := by simp
            have HW : Hid (Handover w Rb Sb eb ab fb n m v u src t (((wr.alloc (.cells #[.int .i32 (z : Int), .int .i32 (u t)] 67)).setCell ⟨ab, z, none⟩ (.int .i32 (q : Nat))).setCell ⟨w.heap.size, q, none⟩ (.int .i32 (u t)))) := by
              refine ⟨fun e => if e = q then u t else nm e, (unhide HR).of_block ?_, ?_, ?_, ?_, ((hkeep.alloc (by omega) _).setCell _ (.inr (.inr (.inl rfl))) _).setCell _ (.inl (Nat.le_refl _)) _, by simp; omega⟩
              · rw [Below.heap_setCell _ _ _ _ (by simpa using Ne.symm l4), Below.heap_setCell _ _ _ _ (by simpa using h1), Below.heap_alloc _ _ _ l1]
              · refine ((((unhide HA).alloc _).set z _).setOther (by simpa using Ne.symm l5) _).congr (fun j hj => ?_)
                have := n2_step src n m t j (by rw [unhide HS]; exact hzn)
                rw [unhide HS, ← unhide HQ] at this
                exact this
              · refine ((((unhide HN).alloc _).setOther (by simpa using l5) _).set q _).congr (fun j hj => ?_)
                show _ = Value.int .i32 (if j = q then u t else nm j)
                split <;> rfl
              · have := hlaid.step htm
                rw [← unhide HSRC, ← unhide HQ] at this
                exact this
            generalize hwz : wr.alloc (.cells #[.int .i32 (z : Int), .int .i32 (u t)] 67) = wz at *
            have d1 : wr.heap.size ≠ ab := by omega
            have d2 : wr.heap.size ≠ w.heap.size := by omega
            generalize wr.heap.size = nd at *
            clear c0 c2 c3 cs cv cu ca fa cd fd
            have i1 : (0 : Int) ≤ (z : Int) := by omega
            have i2 : (z : Int) < (n : Int) + 1 := by omega
            have i3 : (0 : Int) ≤ (q : Int) := by omega
            have i4 : (q : Int) < (Pl.fs src n m : Int) := by omega
            have i5 : IntKind.i32.wrap (q : Int) = (q : Int) := by rw [IntKind.wrap_i32]; omega
            go_region
            all_goals
              go_wp2_with fail
              go_region
              all_goals
                go_wp2_with fail
                go_roundg t
                case measure => omega
                case rel =>
                  obtain ⟨nm', x1, x2, x3, x4, x5, x6⟩ := (unhide HW)
                  exact ⟨nm', by omega, rfl, x1, x2, x3, x4, x5.drew.drew, x6⟩
          · have h0' : v t < 0 ∨ (n : Int) ≤ v t := by omega
            have hsz' : src t = n := by rw [unhide HSRC, Pl.sr_out h0]
            have HA := hide hat
            have HR := hide hraw
            have HN := hide hnm
            have HS := hide hsz'
            clear hat hraw hnm hsz'
            by_cases h1' : v t < 0
            all_goals
              go_wp2_with fail
              go_roundg t
              case measure => omega
              case rel => exact ⟨nm, by omega, rfl, (unhide HR).of_block (Below.heap_alloc _ _ _ l1), ((unhide HA).alloc _).congr (fun j hj => by rw [n2_skip src n m t j (unhide HS)]), (unhide HN).alloc _, hlaid.skip h0, hkeep.alloc (by omega) _, by simp; omega⟩
end Go.Proofs.Qxb6603867a

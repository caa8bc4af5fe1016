import Derived.Test.Qxb6603867aHeld
namespace Go.Proofs.Qxb6603867a
set_option linter.unusedVariables false
open Go.RowKit

def mix {α : Type} (f g : Nat → α) (t x : Nat) : α := if x < t then g x else f x
theorem mix_zero {α : Type} (f g : Nat → α) (x : Nat) : mix f g 0 x = f x := if_neg (Nat.not_lt_zero x)
theorem mix_end {α : Type} (f g : Nat → α) {t x : Nat} (h : x < t) : mix f g t x = g x := if_pos h
theorem mix_at {α : Type} (f g : Nat → α) (t : Nat) : mix f g t t = f t := if_neg (Nat.lt_irrefl t)
theorem mix_no {α : Type} (f g : Nat → α) (t x : Nat) (h : f t = g t) : mix f g t x = mix f g (t + 1) x := by
  unfold mix
  by_cases e : x = t
  · subst e; rw [if_neg (Nat.lt_irrefl x), if_pos (by omega), h]
  · by_cases e2 : x < t
    · rw [if_pos e2, if_pos (by omega)]
    · rw [if_neg e2, if_neg (by omega)]
theorem mix_set {α : Type} (f g : Nat → α) (c : α → Value) (t x : Nat) : (if x = t then c (g t) else c (mix f g t x)) = c (mix f g (t + 1) x) := by
  unfold mix
  by_cases e : x = t
  · subst e; rw [if_pos rfl, if_pos (by omega)]
  · rw [if_neg e]
    by_cases e2 : x < t
    · rw [if_pos e2, if_pos (by omega)]
    · rw [if_neg e2, if_neg (by omega)]
theorem tn_set {f g : Nat → Bool} {t : Nat} (h1 : f t = false) (h2 : g t = true) : Pl.turned f g (t + 1) = true := by rw [Pl.turned, h1, h2]; simp
theorem tn_no {f g : Nat → Bool} {t : Nat} (h : f t = true ∨ g t = false) : Pl.turned f g (t + 1) = Pl.turned f g t := by rw [Pl.turned]; rcases h with h | h <;> rw [h] <;> simp

/-- The model's four rows. -/
structure Fx (w : World) (N n m : Nat) (F H : Nat → Bool) (C : Nat → Nat) (Rt : Nat → Bool) (wr : World) : Prop where
  free : wr.rowIs N 4 n (fun p => .bool (F p))
  held : wr.rowIs (N + 1) 4 m (fun x => .bool (H x))
  cnt : wr.rowIs (N + 2) 3 m (fun x => .int .i64 (C x : Nat))
  root : wr.rowIs (N + 3) 4 n (fun p => .bool (Rt p))
  below : Below N w wr

section
variable {w wr : World} {N n m : Nat} {F H Rt : Nat → Bool} {C : Nat → Nat}
theorem Fx.setFree (h : Fx w N n m F H C Rt wr) (p : Nat) (b : Bool) {F' : Nat → Bool} (e : ∀ j, j < n → (if j = p then (.bool b : Value) else .bool (F j)) = .bool (F' j)) : Fx w N n m F' H C Rt (wr.setCell ⟨N, p, none⟩ (.bool b)) :=
  ⟨(h.free.set p _).congr e, h.held.setOther (by simp) _, h.cnt.setOther (by simp) _, h.root.setOther (by simp) _, h.below.setCell (Nat.le_refl _) _⟩
theorem Fx.setHeld (h : Fx w N n m F H C Rt wr) (p : Nat) (b : Bool) {H' : Nat → Bool} (e : ∀ j, j < m → (if j = p then (.bool b : Value) else .bool (H j)) = .bool (H' j)) : Fx w N n m F H' C Rt (wr.setCell ⟨N + 1, p, none⟩ (.bool b)) :=
  ⟨h.free.setOther (by simp) _, (h.held.set p _).congr e, h.cnt.setOther (by simp) _, h.root.setOther (by simp) _, h.below.setCell (by simp) _⟩
theorem Fx.setCnt (h : Fx w N n m F H C Rt wr) (p : Nat) (k : Int) {C' : Nat → Nat} (e : ∀ j, j < m → (if j = p then (.int .i64 k : Value) else .int .i64 (C j : Nat)) = .int .i64 (C' j : Nat)) : Fx w N n m F H C' Rt (wr.setCell ⟨N + 2, p, none⟩ (.int .i64 k)) :=
  ⟨h.free.setOther (by simp) _, h.held.setOther (by simp) _, (h.cnt.set p _).congr e, h.root.setOther (by simp) _, h.below.setCell (by simp) _⟩
theorem Fx.setRoot (h : Fx w N n m F H C Rt wr) (p : Nat) (b : Bool) {R' : Nat → Bool} (e : ∀ j, j < n → (if j = p then (.bool b : Value) else .bool (Rt j)) = .bool (R' j)) : Fx w N n m F H C R' (wr.setCell ⟨N + 3, p, none⟩ (.bool b)) :=
  ⟨h.free.setOther (by simp) _, h.held.setOther (by simp) _, h.cnt.setOther (by simp) _, (h.root.set p _).congr e, h.below.setCell (by simp) _⟩
theorem Fx.congr {F' H' Rt' : Nat → Bool} {C' : Nat → Nat} (h : Fx w N n m F H C Rt wr) (h1 : ∀ p, p < n → F p = F' p) (h2 : ∀ x, x < m → H x = H' x) (h3 : ∀ x, x < m → C x = C' x) (h4 : ∀ p, p < n → Rt p = Rt' p) : Fx w N n m F' H' C' Rt' wr :=
  ⟨h.free.congr (fun p hp => by rw [h1 p hp]), h.held.congr (fun p hp => by rw [h2 p hp]), h.cnt.congr (fun p hp => by rw [h3 p hp]), h.root.congr (fun p hp => by rw [h4 p hp]), h.below⟩
theorem Fx.drewN (h : Fx w N n m F H C Rt wr) (k : Nat) : Fx w N n m F H C Rt (wr.drewN k) := ⟨h.free, h.held, h.cnt, h.root, below_drewN h.below k⟩
end

theorem b3 (w : World) (o0 o1 o2 o3 : Obj) : ((((w.alloc o0).alloc o1).alloc o2).alloc o3).heap[w.heap.size + 3]? = some o3 := by
  rw [show w.heap.size + 3 = (((w.alloc o0).alloc o1).alloc o2).heap.size by simp]; exact heap_alloc_new _ _
theorem b2 (w : World) (o0 o1 o2 o3 : Obj) : ((((w.alloc o0).alloc o1).alloc o2).alloc o3).heap[w.heap.size + 2]? = some o2 := by
  rw [Below.heap_alloc _ _ _ (by simp), show w.heap.size + 2 = ((w.alloc o0).alloc o1).heap.size by simp]; exact heap_alloc_new _ _
theorem b1 (w : World) (o0 o1 o2 o3 : Obj) : ((((w.alloc o0).alloc o1).alloc o2).alloc o3).heap[w.heap.size + 1]? = some o1 := by
  rw [Below.heap_alloc _ _ _ (by simp), Below.heap_alloc _ _ _ (by simp), show w.heap.size + 1 = (w.alloc o0).heap.size by simp]; exact heap_alloc_new _ _
theorem b0 (w : World) (o0 o1 o2 o3 : Obj) : ((((w.alloc o0).alloc o1).alloc o2).alloc o3).heap[w.heap.size]? = some o0 := by
  rw [Below.heap_alloc _ _ _ (by simp; omega), Below.heap_alloc _ _ _ (by simp; omega), Below.heap_alloc _ _ _ (by simp)]; exact heap_alloc_new _ _
theorem bel4' (w : World) (o0 o1 o2 o3 : Obj) : Below w.heap.size w ((((w.alloc o0).alloc o1).alloc o2).alloc o3) :=
  ((((Below.refl _ _).alloc (Nat.le_refl _) _).alloc (by simp) _).alloc (by simp; omega) _).alloc (by simp; omega) _
theorem madeRow4 {W : World} {b : Nat} {z : Value} {n : Nat} {t : TypeId} (h : W.heap[b]? = some (.cells (madeCells #[z] n) t (0, 0))) : W.rowIs b t n (fun _ => z) := ⟨_, h, size_madeCells _ _, fun i hi => by simp [madeCells, hi, Nat.mod_one]⟩

/-- What the model hands back. -/
def FixOut (w : World) (n m : Nat) (v u : Nat → Int) (act : Nat → Bool) (e : Ending) (w' : World) : Prop :=
  ∃ F H, e = .returned (.tuple #[.slice (some ⟨w.heap.size, 0, none⟩) n n, .slice (some ⟨w.heap.size + 1, 0, none⟩) m m]) ∧ Pl.Closed n m v u act F H ∧ Pl.Under n m v u act F H ∧ w'.rowIs w.heap.size 4 n (fun p => .bool (F p)) ∧ w'.rowIs (w.heap.size + 1) 4 m (fun x => .bool (H x)) ∧ Below w.heap.size w w'

set_option maxRecDepth 100000 in
set_option maxHeartbeats 6400000 in
theorem fix_any (n m n3 : Nat) (sa va ua : Option Addr) (c3 vc uc : Nat) (v u st : Nat → Int) (w : World) (hn : n ≤ 1048576) (hm : m ≤ 1048576) (hn3 : n3 ≤ 1048576) (hv : I32 m v) (hu : I32 m u) (h3 : n + 1 ≤ n3)
    (hst : Own 21 w sa n3 c3 (fun i => .int .i32 (st i))) (hvs : Own 21 w va m vc (fun i => .int .i32 (v i))) (hus : Own 21 w ua m uc (fun i => .int .i32 (u i)))
    (act : Nat → Bool) (hact : ∀ p, p < n → act p = decide (st p = st (p + 1))) (hd : Pl.Dom n m u) :
    Calls Try.prog 25 #[.int .i64 n, .slice sa n3 c3, .slice va m vc, .slice ua m uc] w fun e w' => FixOut w n m v u act e w' := by
  have hmk1 := run_make_row' (P := Try.prog) 29 4 (.bool false) 1 Try.underlying29 info4 rfl .i64 .i64 n (by omega) (by omega)
  have hmk2 := run_make_row' (P := Try.prog) 29 4 (.bool false) 1 Try.underlying29 info4 rfl .i64 .i64 m (by omega) (by omega)
  have hmk3 := run_make_row' (P := Try.prog) 31 3 (.int .i64 0) 8 Try.underlying31 info3 rfl .i64 .i64 m (by omega) (by omega)
  obtain ⟨sb, rfl, hsr⟩ := hst.form (by omega)
  have HST := hide hsr
  have HV := hide hvs
  have HU := hide hus
  have HACT := hide hact
  clear hst hsr hvs hus hact
  go_enter Try.func25, Try.ntmps25
  go_wp2_with fail
  clear hmk1 hmk2 hmk3
  go_loopw [15] (fun s15 wr => ∃ (r : Nat) (F H : Nat → Bool) (C : Nat → Nat) (Rt : Nat → Bool), r ≤ Pl.tr F n + Pl.tr H m ∧ s15 = .int .i64 r ∧ Pl.Under n m v u act F H ∧ Fx w w.heap.size n m F H C Rt wr) (fun s15 _ => n + m + 1 - (intOf s15).toNat)
  case atStart =>
    refine ⟨0, fun _ => false, fun _ => false, fun _ => 0, fun _ => false, Nat.zero_le _, rfl, Pl.Under.start, ⟨madeRow4 (b0 w _ _ _ _), madeRow4 (b1 w _ _ _ _), madeRow4 (b2 w _ _ _ _), madeRow4 (b3 w _ _ _ _), bel4' w _ _ _ _⟩⟩
  case round =>
    obtain ⟨r, F, H, C, Rt, hr, rfl, hun, hfx⟩ := hrel
    have ht1 := Pl.tr_le F n
    have ht2 := Pl.tr_le H m
    have HF := hide hfx
    have HUN := hide hun
    clear hfx hun
    generalize hN : w.heap.size = N at *
    go_wp2_with fail
    go_loopw [16] (fun s16 wr => ∃ t : Nat, t ≤ m ∧ s16 = .int .i64 t ∧ Fx w N n m F H (mix C (fun _ => 0) t) Rt wr) (fun s16 _ => m - (intOf s16).toNat)
    case atStart => exact ⟨0, Nat.zero_le _, rfl, (unhide HF).congr (fun _ _ => rfl) (fun _ _ => rfl) (fun x _ => (mix_zero _ _ x).symm) (fun _ _ => rfl)⟩
    case round =>
      clear HF
      obtain ⟨t, ht, rfl, hfx⟩ := hrel
      by_cases hlt : t < m
      · have cc := hfx.cnt.cell hlt
        have fc := hfx.cnt.frozen t
        have HF := hide hfx
        clear hfx
        go_wp2_with fail
        go_roundw
        case rel => exact ⟨t + 1, by omega, by go_num, (unhide HF).setCnt t 0 (fun j _ => mix_set C (fun _ => 0) (fun k => .int .i64 (k : Nat)) t j)⟩
        case measure => simp [intOf]; omega
      · obtain rfl : m = t := by omega
        have HF := hide (hfx.congr (fun _ _ => rfl) (fun _ _ => rfl) (fun x hx => mix_end C (fun _ => 0) hx) (fun _ _ => rfl))
        clear hfx
        go_wp2_with fail
        go_loopw [17] (fun s17 wr => ∃ t : Nat, t ≤ m ∧ s17 = .int .i64 t ∧ Fx w N n m F H (fun x => Pl.cc u H x t) Rt wr) (fun s17 _ => m - (intOf s17).toNat)
        case atStart => exact ⟨0, Nat.zero_le _, rfl, unhide HF⟩
        case round =>
          clear HF
          obtain ⟨t, ht, rfl, hfx⟩ := hrel
          by_cases hlt : t < m
          · obtain ⟨ub, rfl, hur⟩ := (unhide HU).form (by omega)
            have cu := (hfx.below.cell (p := ⟨ub, t, none⟩) (hN ▸ hur.lt)).trans (hur.cell hlt)
            have ch := hfx.held.cell hlt
            obtain ⟨hu1, hu2⟩ := hu t hlt
            have hdt := hd t hlt
            clear hur
            by_cases h1 : H t = true
            · rw [h1] at ch
              by_cases h2 : 0 ≤ u t
              · obtain ⟨z, hz⟩ : ∃ z : Nat, u t = (z : Int) := ⟨(u t).toNat, by omega⟩
                have hzm : z < m := by omega
                have HZ := hide hz
                have H1 := hide h1
                rw [hz] at cu
                have hcc := hfx.cnt.cell hzm
                have hf := hfx.cnt.frozen z
                have hle := Pl.cc_le u H z t
                have HF := hide hfx
                clear hz h2 h1 hdt hu1 hu2 hfx
                go_wp2_with fail
                go_roundw
                case rel => exact ⟨t + 1, by omega, by go_num, (unhide HF).setCnt z _ (fun j hj => cc_hit u H t j z (unhide H1) (unhide HZ))⟩
                case measure => simp [intOf]; omega
              · have HF := hide hfx
                clear hfx
                go_wp2_with fail
                go_roundw
                case rel => exact ⟨t + 1, by omega, by go_num, (unhide HF).congr (fun _ _ => rfl) (fun _ _ => rfl) (fun x _ => by rw [Pl.cc, if_neg (fun h => by omega)]; rfl) (fun _ _ => rfl)⟩
                case measure => simp [intOf]; omega
            · have h1' : H t = false := by simpa using h1
              rw [h1'] at ch
              have HF := hide hfx
              clear hfx
              go_wp2_with fail
              go_roundw
              case rel => exact ⟨t + 1, by omega, by go_num, (unhide HF).congr (fun _ _ => rfl) (fun _ _ => rfl) (fun x _ => by rw [Pl.cc, if_neg (fun h => h1 h.1)]; rfl) (fun _ _ => rfl)⟩
              case measure => simp [intOf]; omega
          · obtain rfl : m = t := by omega
            have HF := hide hfx
            clear hfx
            obtain ⟨H', hH'⟩ : ∃ H', H' = Pl.hN n m v u F H := ⟨_, rfl⟩
            have HH' := hide hH'
            clear hH'
            go_wp2_with fail
            go_loopw [18, 19] (fun s18 s19 wr => ∃ t : Nat, t ≤ m ∧ s19 = .int .i64 t ∧ s18 = .bool (Pl.turned H H' t) ∧ Fx w N n m F (mix H H' t) (fun x => Pl.cc u H x m) Rt wr) (fun _ s19 _ => m - (intOf s19).toNat)
            case atStart => exact ⟨0, Nat.zero_le _, rfl, rfl, (unhide HF).congr (fun _ _ => rfl) (fun x _ => (mix_zero _ _ x).symm) (fun _ _ => rfl) (fun _ _ => rfl)⟩
            case round =>
              clear HF
              obtain ⟨t, ht, rfl, rfl, hfx⟩ := hrel
              by_cases hlt : t < m
              · obtain ⟨vb, rfl, hvr⟩ := (unhide HV).form (by omega)
                have cv := (hfx.below.cell (p := ⟨vb, t, none⟩) (hN ▸ hvr.lt)).trans (hvr.cell hlt)
                have ch := hfx.held.cell hlt
                have fh := hfx.held.frozen t
                rw [mix_at] at ch
                obtain ⟨hv1, hv2⟩ := hv t hlt
                clear hvr
                by_cases h1 : H t = true
                · rw [h1] at ch
                  have HF := hide hfx
                  clear hfx
                  have e2 : H t = H' t := by rw [unhide HH']; unfold Pl.hN; rw [h1]; rfl
                  have HE := hide e2
                  have HT := hide (tn_no (g := H') (.inl h1))
                  clear e2 h1
                  go_wp2_with fail
                  go_roundw
                  case rel => exact ⟨t + 1, by omega, by go_num, by rw [unhide HT], (unhide HF).congr (fun _ _ => rfl) (fun x _ => mix_no H H' t x (unhide HE)) (fun _ _ => rfl) (fun _ _ => rfl)⟩
                  case measure => simp [intOf]; omega
                · have h1' : H t = false := by simpa using h1
                  rw [h1'] at ch
                  by_cases hok : Pl.ok n m v u F H t = true
                  · have e2 : H' t = true := by rw [unhide HH']; unfold Pl.hN; rw [hok]; simp
                    have HT := hide (tn_set h1' e2)
                    have HE := hide e2
                    unfold Pl.ok at hok
                    by_cases h2 : 0 ≤ v t
                    · rw [if_pos h2, Bool.and_eq_true, decide_eq_true_iff] at hok
                      obtain ⟨z, hz⟩ : ∃ z : Nat, v t = (z : Int) := ⟨(v t).toNat, by omega⟩
                      have hzn : z < n := by omega
                      have cf := hfx.free.cell hzn
                      rw [show F z = true by have := hok.2; rw [hz] at this; simpa using this] at cf
                      rw [hz] at cv
                      have HF := hide hfx
                      clear hfx hok h1 h1' e2 hz h2 hv1 hv2
                      go_wp2_with fail
                      go_roundw
                      case rel => exact ⟨t + 1, by omega, by go_num, by rw [unhide HT], (unhide HF).setHeld t true (fun j _ => by have := mix_set H H' Value.bool t j; rw [unhide HE] at this; exact this)⟩
                      case measure => simp [intOf]; omega
                    · rw [if_neg h2, decide_eq_true_iff] at hok
                      have hx := xor32 (v t) hv1 hv2
                      obtain ⟨q, hq⟩ : ∃ q : Nat, -1 - v t = (q : Int) := ⟨(-1 - v t).toNat, by omega⟩
                      have hkq : Pl.kk v t = q := by unfold Pl.kk; omega
                      rw [hkq] at hok
                      rw [hq] at hx
                      have ccn := hfx.cnt.cell hlt
                      have hqb : q ≤ 2147483647 := by omega
                      have hlec := Pl.cc_le u H t m
                      have HF := hide hfx
                      clear hfx h1 h1' e2 hq hkq
                      go_wp2_with fail
                      go_roundw
                      case rel => exact ⟨t + 1, by omega, by go_num, by rw [unhide HT], (unhide HF).setHeld t true (fun j _ => by have := mix_set H H' Value.bool t j; rw [unhide HE] at this; exact this)⟩
                      case measure => simp [intOf]; omega
                  · have hok' : Pl.ok n m v u F H t = false := by simpa using hok
                    have e2 : H' t = false := by rw [unhide HH']; unfold Pl.hN; rw [hok', h1']; rfl
                    have HT := hide (tn_no (f := H) (.inr e2))
                    have HE : Hid (H t = H' t) := h1'.trans e2.symm
                    unfold Pl.ok at hok'
                    by_cases h2 : 0 ≤ v t
                    · rw [if_pos h2] at hok'
                      by_cases h4 : v t < n
                      · obtain ⟨z, hz⟩ : ∃ z : Nat, v t = (z : Int) := ⟨(v t).toNat, by omega⟩
                        have hzn : z < n := by omega
                        have cf := hfx.free.cell hzn
                        rw [show F z = false by rw [hz] at hok'; simpa [hzn] using hok'] at cf
                        rw [hz] at cv
                        have HF := hide hfx
                        clear hfx hok hok' h1 h1' e2 hz h2 h4 hv1 hv2
                        go_wp2_with fail
                        go_roundw
                        case rel => exact ⟨t + 1, by omega, by go_num, by rw [unhide HT], (unhide HF).congr (fun _ _ => rfl) (fun x _ => mix_no H H' t x (unhide HE)) (fun _ _ => rfl) (fun _ _ => rfl)⟩
                        case measure => simp [intOf]; omega
                      · have HF := hide hfx
                        clear hfx hok hok' h1 h1' e2
                        go_wp2_with fail
                        go_roundw
                        case rel => exact ⟨t + 1, by omega, by go_num, by rw [unhide HT], (unhide HF).congr (fun _ _ => rfl) (fun x _ => mix_no H H' t x (unhide HE)) (fun _ _ => rfl) (fun _ _ => rfl)⟩
                        case measure => simp [intOf]; omega
                    · rw [if_neg h2, decide_eq_false_iff_not] at hok'
                      have hx := xor32 (v t) hv1 hv2
                      obtain ⟨q, hq⟩ : ∃ q : Nat, -1 - v t = (q : Int) := ⟨(-1 - v t).toNat, by omega⟩
                      have hkq : Pl.kk v t = q := by unfold Pl.kk; omega
                      rw [hkq] at hok'
                      rw [hq] at hx
                      have ccn := hfx.cnt.cell hlt
                      have hqb : q ≤ 2147483647 := by omega
                      have hlec := Pl.cc_le u H t m
                      have HF := hide hfx
                      clear hfx h1 h1' e2 hq hkq hok
                      go_wp2_with fail
                      go_roundw
                      case rel => exact ⟨t + 1, by omega, by go_num, by rw [unhide HT], (unhide HF).congr (fun _ _ => rfl) (fun x _ => mix_no H H' t x (unhide HE)) (fun _ _ => rfl) (fun _ _ => rfl)⟩
                      case measure => simp [intOf]; omega
              · obtain rfl : m = t := by omega
                have HF := hide (hfx.congr (fun _ _ => rfl) (fun x hx => mix_end H H' hx) (fun _ _ => rfl) (fun _ _ => rfl))
                clear hfx
                generalize hCh : Pl.turned H H' m = ch
                have HCH := hide hCh
                clear hCh
                go_wp2_with fail
                go_loopw [22] (fun s22 wr => ∃ t : Nat, t ≤ n ∧ s22 = .int .i64 t ∧ Fx w N n m F H' (fun x => Pl.cc u H x m) (mix Rt (fun _ => false) t) wr) (fun s22 _ => n - (intOf s22).toNat)
                case atStart => exact ⟨0, Nat.zero_le _, rfl, (unhide HF).congr (fun _ _ => rfl) (fun _ _ => rfl) (fun _ _ => rfl) (fun x _ => (mix_zero _ _ x).symm)⟩
                case round =>
                  clear HF
                  obtain ⟨t, ht, rfl, hfx⟩ := hrel
                  by_cases hlt : t < n
                  · have cr := hfx.root.cell hlt
                    have fr := hfx.root.frozen t
                    have HF := hide hfx
                    clear hfx
                    go_wp2_with fail
                    go_roundw
                    case rel => exact ⟨t + 1, by omega, by go_num, (unhide HF).setRoot t false (fun j _ => mix_set Rt (fun _ => false) Value.bool t j)⟩
                    case measure => simp [intOf]; omega
                  · obtain rfl : n = t := by omega
                    have HF := hide (hfx.congr (fun _ _ => rfl) (fun _ _ => rfl) (fun _ _ => rfl) (fun x hx => mix_end Rt (fun _ => false) hx))
                    clear hfx
                    go_wp2_with fail
                    go_loopw [23] (fun s23 wr => ∃ t : Nat, t ≤ m ∧ s23 = .int .i64 t ∧ Fx w N n m F H' (fun x => Pl.cc u H x m) (fun p => Pl.rootB u H' p t) wr) (fun s23 _ => m - (intOf s23).toNat)
                    case atStart => exact ⟨0, Nat.zero_le _, rfl, unhide HF⟩
                    case round =>
                      clear HF
                      obtain ⟨t, ht, rfl, hfx⟩ := hrel
                      by_cases hlt : t < m
                      · obtain ⟨ub, rfl, hur⟩ := (unhide HU).form (by omega)
                        have cu := (hfx.below.cell (p := ⟨ub, t, none⟩) (hN ▸ hur.lt)).trans (hur.cell hlt)
                        have ch2 := hfx.held.cell hlt
                        obtain ⟨hu1, hu2⟩ := hu t hlt
                        have hdt := hd t hlt
                        clear hur
                        by_cases h1 : H' t = true
                        · rw [h1] at ch2
                          by_cases h2 : 0 ≤ u t
                          · have HF := hide hfx
                            have HE : Hid (∀ p : Nat, Pl.rootB u H' p t = Pl.rootB u H' p (t + 1)) := fun p => by rw [Pl.rootB, show decide (u t = -1 - (p : Int)) = false by simp; omega]; simp
                            clear hfx h1
                            go_wp2_with fail
                            go_roundw
                            case rel => exact ⟨t + 1, by omega, by go_num, (unhide HF).congr (fun _ _ => rfl) (fun _ _ => rfl) (fun _ _ => rfl) (fun p _ => unhide HE p)⟩
                            case measure => simp [intOf]; omega
                          · obtain ⟨z, hz⟩ : ∃ z : Nat, -1 - u t = (z : Int) := ⟨(-1 - u t).toNat, by omega⟩
                            have hzn : z < n := by omega
                            have hx := xor32 (u t) hu1 hu2
                            rw [hz] at hx
                            have cr := hfx.root.cell hzn
                            have fr := hfx.root.frozen z
                            have HE : Hid (∀ j : Nat, (if j = z then (.bool true : Value) else .bool (Pl.rootB u H' j t)) = .bool (Pl.rootB u H' j (t + 1))) := fun j => by
                              rw [Pl.rootB, h1]
                              by_cases e : j = z
                              · rw [if_pos e, show decide (u t = -1 - (j : Int)) = true by simp; omega]; simp
                              · rw [if_neg e, show decide (u t = -1 - (j : Int)) = false by simp; omega]; simp
                            have HF := hide hfx
                            clear hfx h1 hz
                            go_wp2_with fail
                            go_roundw
                            case rel => exact ⟨t + 1, by omega, by go_num, (unhide HF).setRoot z true (fun j _ => unhide HE j)⟩
                            case measure => simp [intOf]; omega
                        · have h1' : H' t = false := by simpa using h1
                          rw [h1'] at ch2
                          have HF := hide hfx
                          have HE : Hid (∀ p : Nat, Pl.rootB u H' p t = Pl.rootB u H' p (t + 1)) := fun p => by rw [Pl.rootB, h1']; simp
                          clear hfx h1 h1'
                          go_wp2_with fail
                          go_roundw
                          case rel => exact ⟨t + 1, by omega, by go_num, (unhide HF).congr (fun _ _ => rfl) (fun _ _ => rfl) (fun _ _ => rfl) (fun p _ => unhide HE p)⟩
                          case measure => simp [intOf]; omega
                      · obtain rfl : m = t := by omega
                        have HF := hide hfx
                        clear hfx
                        obtain ⟨F', hF'⟩ : ∃ F', F' = Pl.fN m u act F H' := ⟨_, rfl⟩
                        have HF' := hide hF'
                        clear hF'
                        go_wp2_with fail
                        go_loopw [18, 24] (fun s18 s24 wr => ∃ t : Nat, t ≤ n ∧ s24 = .int .i64 t ∧ s18 = .bool (ch || Pl.turned F F' t) ∧ Fx w N n m (mix F F' t) H' (fun x => Pl.cc u H x m) (fun p => Pl.rootB u H' p m) wr) (fun _ s24 _ => n - (intOf s24).toNat)
                        case atStart => exact ⟨0, Nat.zero_le _, rfl, by simp [Pl.turned], (unhide HF).congr (fun x _ => (mix_zero _ _ x).symm) (fun _ _ => rfl) (fun _ _ => rfl) (fun _ _ => rfl)⟩
                        case round =>
                          clear HF
                          obtain ⟨t, ht, rfl, rfl, hfx⟩ := hrel
                          by_cases hlt : t < n
                          · have cf := hfx.free.cell hlt
                            have ff := hfx.free.frozen t
                            rw [mix_at] at cf
                            have cr := hfx.root.cell hlt
                            have cs1 := (hfx.below.cell (p := ⟨sb, t, none⟩) (hN ▸ (unhide HST).lt)).trans ((unhide HST).cell (i := t) (by omega))
                            have cs2 := (hfx.below.cell (p := ⟨sb, t + 1, none⟩) (hN ▸ (unhide HST).lt)).trans ((unhide HST).cell (i := t + 1) (by omega))
                            have g0 : (0 : Int) ≤ (t : Int) := by omega
                            have g1 : (t : Int) < (n : Int) := by omega
                            have g2 : (t : Int) < (n3 : Int) := by omega
                            have g3 : (t : Int) + 1 < (n3 : Int) := by omega
                            have g4 : (0 : Int) ≤ (t : Int) + 1 := by omega
                            have HF := hide hfx
                            clear hfx
                            have hak := unhide HACT t hlt
                            by_cases f1 : F t = true
                            · have HE : Hid (F t = F' t) := by show F t = F' t; rw [unhide HF']; unfold Pl.fN; rw [f1]; rfl
                              have HT := hide (tn_no (g := F') (.inl f1))
                              rw [f1] at cf
                              clear f1 hak
                              go_wp2_with fail
                              go_quiet (fail)
                              go_wp2_with fail
                              go_roundw
                              case rel => exact ⟨t + 1, by omega, by go_num, by rw [unhide HT], ((unhide HF).congr (fun x _ => mix_no F F' t x (unhide HE)) (fun _ _ => rfl) (fun _ _ => rfl) (fun _ _ => rfl)).drewN _⟩
                              case measure => simp [intOf]; omega
                            · have f1' : F t = false := by simpa using f1
                              rw [f1'] at cf
                              by_cases f2 : st t = st (t + 1)
                              · have e2 : F' t = true := by rw [unhide HF']; unfold Pl.fN; rw [hak, f2]; simp
                                have HE := hide e2
                                have HT := hide (tn_set f1' e2)
                                rw [← f2] at cs2
                                clear f1 f1' hak e2 f2
                                go_wp2_with fail
                                go_quiet (fail)
                                go_wp2_with fail
                                go_roundw
                                case rel => exact ⟨t + 1, by omega, by go_num, by rw [unhide HT]; simp, ((unhide HF).drewN _).setFree t true (fun j _ => by have := mix_set F F' Value.bool t j; rw [unhide HE] at this; exact this)⟩
                                case measure => simp [intOf]; omega
                              · have f2' : decide (st t = st (t + 1)) = false := by simpa using f2
                                have f2b : (st t == st (t + 1)) = false := beq_eq_false_iff_ne.2 f2
                                by_cases f3 : Pl.rootB u H' t m = true
                                · have e2 : F' t = true := by rw [unhide HF']; unfold Pl.fN; rw [f3]; simp
                                  have HE := hide e2
                                  have HT := hide (tn_set f1' e2)
                                  rw [f3] at cr
                                  clear f1 f1' hak e2 f3
                                  go_wp2_with fail
                                  go_quiet (fail)
                                  go_wp2_with fail
                                  go_roundw
                                  case rel => exact ⟨t + 1, by omega, by go_num, by rw [unhide HT]; simp, ((unhide HF).drewN _).setFree t true (fun j _ => by have := mix_set F F' Value.bool t j; rw [unhide HE] at this; exact this)⟩
                                  case measure => simp [intOf]; omega
                                · have f3' : Pl.rootB u H' t m = false := by simpa using f3
                                  have e2 : F' t = false := by rw [unhide HF']; unfold Pl.fN; rw [hak, f1', f3', f2']; rfl
                                  have HE : Hid (F t = F' t) := f1'.trans e2.symm
                                  have HT := hide (tn_no (f := F) (.inr e2))
                                  rw [f3'] at cr
                                  clear f1 f1' hak e2 f3 f3'
                                  go_wp2_with fail
                                  go_quiet (fail)
                                  go_wp2_with fail
                                  go_roundw
                                  case rel => exact ⟨t + 1, by omega, by go_num, by rw [unhide HT], ((unhide HF).congr (fun x _ => mix_no F F' t x (unhide HE)) (fun _ _ => rfl) (fun _ _ => rfl) (fun _ _ => rfl)).drewN _⟩
                                  case measure => simp [intOf]; omega
                          · obtain rfl : n = t := by omega
                            have HF := hide (hfx.congr (fun x hx => mix_end F F' hx) (fun _ _ => rfl) (fun _ _ => rfl) (fun _ _ => rfl))
                            clear hfx
                            have hun := unhide HUN
                            by_cases hch : (ch || Pl.turned F F' n) = true
                            · have hmore := Pl.more_of_turned (n := n) (m := m) (v := v) (u := u) (act := act) (F := F) (H := H) (by
                                rw [← unhide HH', ← unhide HF', unhide HCH]
                                simpa using hch)
                              rw [← unhide HH', ← unhide HF'] at hmore
                              have HUN2 : Hid (Pl.Under n m v u act F' H') := by
                                have := hun.nodes
                                rw [← unhide HH'] at this
                                have := this.procs
                                rw [← unhide HF'] at this
                                exact this
                              rw [hch]
                              clear hch
                              go_wp2_with fail
                              go_roundw
                              case rel => exact ⟨r + 1, F', H', _, _, by omega, by go_num, unhide HUN2, unhide HF⟩
                              case measure => simp [intOf]; omega
                            · have hch' : (ch || Pl.turned F F' n) = false := by simpa using hch
                              have hb := hch'
                              rw [Bool.or_eq_false_iff] at hb
                              have hcl : Pl.Closed n m v u act F H := Pl.closed_of_still hd (by rw [← unhide HH', unhide HCH]; exact hb.1) (by rw [← unhide HH', ← unhide HF']; exact hb.2)
                              have HO : Hid (FixOut w n m v u act (.returned (.tuple #[.slice (some ⟨N, 0, none⟩) n n, .slice (some ⟨N + 1, 0, none⟩) m m])) wr) := by
                                refine ⟨F, H, by rw [hN], hcl, hun, ?_, ?_, ?_⟩
                                · rw [hN]
                                  refine (unhide HF).free.congr (fun p hp => ?_)
                                  congr 1
                                  cases hfp : F' p with
                                  | true => exact (Pl.turned_false hb.2 p hp hfp).symm
                                  | false =>
                                    cases hfq : F p with
                                    | false => rfl
                                    | true => rw [unhide HF'] at hfp; unfold Pl.fN at hfp; rw [hfq] at hfp; simp at hfp
                                · rw [hN]
                                  refine (unhide HF).held.congr (fun p hp => ?_)
                                  congr 1
                                  cases hfp : H' p with
                                  | true => exact (Pl.turned_false (unhide HCH ▸ hb.1) p hp hfp).symm
                                  | false =>
                                    cases hfq : H p with
                                    | false => rfl
                                    | true => rw [unhide HH'] at hfp; unfold Pl.hN at hfp; rw [hfq] at hfp; simp at hfp
                                · rw [hN]; exact (unhide HF).below
                              rw [hch']
                              clear hch hch' hb hcl hun HF
                              go_wp2_with fail
                              go_ret2
                              exact unhide HO
end Go.Proofs.Qxb6603867a

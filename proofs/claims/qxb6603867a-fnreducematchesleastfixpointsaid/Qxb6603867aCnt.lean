/- The lists by process: counting. No Go in sight. -/
namespace Go.Proofs.Qxb6603867a.Pl
set_option linter.unusedVariables false

/-- The process that the node x names, n if none. -/
def sr (n : Nat) (v : Nat → Int) (x : Nat) : Nat := if 0 ≤ v x ∧ v x < n then (v x).toNat else n

/-- Of the first t nodes, how many name p. -/
def cnt (src : Nat → Nat) (p : Nat) : Nat → Nat
  | 0 => 0
  | t + 1 => cnt src p t + if src t = p then 1 else 0

/-- Of the first t nodes, how many name one below p. -/
def fs (src : Nat → Nat) (p : Nat) : Nat → Nat
  | 0 => 0
  | t + 1 => fs src p t + if src t < p then 1 else 0

theorem fs_zero (src : Nat → Nat) : ∀ t, fs src 0 t = 0
  | 0 => rfl
  | t + 1 => by rw [fs, fs_zero src t]; simp

theorem fs_succ (src : Nat → Nat) (p : Nat) : ∀ t, fs src (p + 1) t = fs src p t + cnt src p t
  | 0 => rfl
  | t + 1 => by
    rw [fs, fs, cnt, fs_succ src p t]
    by_cases h : src t = p
    · rw [if_pos (by omega), if_pos h, if_neg (by omega)]; omega
    · by_cases h2 : src t < p
      · rw [if_pos (by omega), if_neg h, if_pos h2]; omega
      · rw [if_neg (by omega), if_neg h, if_neg h2]; omega

theorem fs_le (src : Nat → Nat) (p : Nat) : ∀ t, fs src p t ≤ t
  | 0 => Nat.le_refl _
  | t + 1 => by rw [fs]; have := fs_le src p t; split <;> omega

theorem cnt_le (src : Nat → Nat) (p : Nat) : ∀ t, cnt src p t ≤ t
  | 0 => Nat.le_refl _
  | t + 1 => by rw [cnt]; have := cnt_le src p t; split <;> omega

theorem cnt_mono (src : Nat → Nat) (p : Nat) {t t' : Nat} (h : t ≤ t') : cnt src p t ≤ cnt src p t' := by
  induction t' with
  | zero => rw [Nat.le_zero.1 h]; exact Nat.le_refl _
  | succ n ih =>
    by_cases e : t = n + 1
    · rw [e]; exact Nat.le_refl _
    · rw [cnt]; have := ih (by omega); omega

theorem cnt_lt (src : Nat → Nat) {t t' : Nat} (h : t < t') : cnt src (src t) t < cnt src (src t) t' := by
  have h1 : cnt src (src t) (t + 1) ≤ cnt src (src t) t' := cnt_mono src _ h
  rw [cnt, if_pos rfl] at h1
  omega

theorem fs_mono (src : Nat → Nat) (t : Nat) {p p' : Nat} (h : p ≤ p') : fs src p t ≤ fs src p' t := by
  induction p' with
  | zero => rw [Nat.le_zero.1 h]; exact Nat.le_refl _
  | succ n ih =>
    by_cases e : p = n + 1
    · rw [e]; exact Nat.le_refl _
    · rw [fs_succ]; have := ih (by omega); omega

/-- Where the node t stands. -/
def place (src : Nat → Nat) (m t : Nat) : Nat := fs src (src t) m + cnt src (src t) t

theorem place_ge (src : Nat → Nat) (m t : Nat) : fs src (src t) m ≤ place src m t := by rw [place]; omega

theorem place_lt (src : Nat → Nat) (m t : Nat) (h : t < m) : place src m t < fs src (src t + 1) m := by
  rw [place, fs_succ]; have := cnt_lt src h; omega

theorem place_same {src : Nat → Nat} {m y z : Nat} (h : src y = src z) (e : place src m y = place src m z) : y = z := by
  rw [place, place, h] at e
  rcases Nat.lt_trichotomy y z with hl | hl | hl
  · have := cnt_lt src hl; rw [h] at this; omega
  · exact hl
  · have := cnt_lt src hl; omega

theorem place_inj {src : Nat → Nat} {m y z : Nat} (hy : y < m) (hz : z < m) (e : place src m y = place src m z) : y = z := by
  by_cases h : src y = src z
  · exact place_same h e
  · have a1 := place_ge src m y
    have a2 := place_lt src m y hy
    have b1 := place_ge src m z
    have b2 := place_lt src m z hz
    rcases Nat.lt_or_ge (src y) (src z) with hl | hl
    · have := fs_mono src m (p := src y + 1) (p' := src z) (by omega); omega
    · have := fs_mono src m (p := src z + 1) (p' := src y) (by omega); omega

theorem cnt_surj (src : Nat → Nat) (p k : Nat) : ∀ t, k < cnt src p t → ∃ y, y < t ∧ src y = p ∧ cnt src p y = k
  | 0, h => by simp [cnt] at h
  | t + 1, h => by
    by_cases c : k < cnt src p t
    · obtain ⟨y, h1, h2⟩ := cnt_surj src p k t c
      exact ⟨y, by omega, h2⟩
    · rw [cnt] at h
      by_cases e : src t = p
      · rw [if_pos e] at h; exact ⟨t, by omega, e, by omega⟩
      · rw [if_neg e] at h; omega

theorem place_surj (src : Nat → Nat) (m p e : Nat) (h1 : fs src p m ≤ e) (h2 : e < fs src (p + 1) m) : ∃ y, y < m ∧ src y = p ∧ place src m y = e := by
  rw [fs_succ] at h2
  obtain ⟨y, a, b, c⟩ := cnt_surj src p (e - fs src p m) m (by omega)
  exact ⟨y, a, b, by rw [place, b, c]; omega⟩

theorem sr_in {n : Nat} {v : Nat → Int} {x : Nat} (h1 : 0 ≤ v x) (h2 : v x < n) : sr n v x = (v x).toNat := if_pos ⟨h1, h2⟩
theorem sr_out {n : Nat} {v : Nat → Int} {x : Nat} (h : ¬ (0 ≤ v x ∧ v x < n)) : sr n v x = n := if_neg h

/-- named, from t on. -/
def Laid (n m : Nat) (v u : Nat → Int) (t : Nat) (nm : Nat → Int) : Prop := ∀ y, t ≤ y → y < m → sr n v y < n → nm (place (sr n v) m y) = u y

theorem Laid.top (n m : Nat) (v u : Nat → Int) (nm : Nat → Int) : Laid n m v u m nm := fun y h1 h2 => by omega

theorem Laid.skip {n m : Nat} {v u : Nat → Int} {t : Nat} {nm : Nat → Int} (h : Laid n m v u (t + 1) nm) (hs : ¬ (0 ≤ v t ∧ v t < n)) : Laid n m v u t nm := fun y h1 h2 h3 => by
  by_cases e : y = t
  · subst e; rw [sr_out hs] at h3; omega
  · exact h y (by omega) h2 h3

theorem Laid.step {n m : Nat} {v u : Nat → Int} {t : Nat} {nm : Nat → Int} (h : Laid n m v u (t + 1) nm) (ht : t < m) : Laid n m v u t (fun e => if e = place (sr n v) m t then u t else nm e) := fun y h1 h2 h3 => by
  by_cases e : y = t
  · subst e; simp
  · have hne : place (sr n v) m y ≠ place (sr n v) m t := fun c => e (place_inj h2 ht c)
    simp only [if_neg hne]
    exact h y (by omega) h2 h3
end Go.Proofs.Qxb6603867a.Pl

/- Plain facts: counting, and the layout that buildCSR lays. No Go in sight. -/
namespace Go.Proofs.Qxb6600486a.Csr

/-- Of the first t edges, how many leave u. -/
def cnt (src : Nat → Nat) (u : Nat) : Nat → Nat
  | 0 => 0
  | t + 1 => cnt src u t + if src t = u then 1 else 0

/-- Of the first t edges, how many leave a node below u. -/
def fs (src : Nat → Nat) (u : Nat) : Nat → Nat
  | 0 => 0
  | t + 1 => fs src u t + if src t < u then 1 else 0

theorem fs_zero (src : Nat → Nat) : ∀ t, fs src 0 t = 0
  | 0 => rfl
  | t + 1 => by rw [fs, fs_zero src t]; simp

theorem fs_succ (src : Nat → Nat) (u : Nat) : ∀ t, fs src (u + 1) t = fs src u t + cnt src u t
  | 0 => rfl
  | t + 1 => by
    rw [fs, fs, cnt, fs_succ src u t]
    by_cases h : src t = u
    · rw [if_pos (by omega), if_pos h, if_neg (by omega)]; omega
    · by_cases h2 : src t < u
      · rw [if_pos (by omega), if_neg h, if_pos h2]; omega
      · rw [if_neg (by omega), if_neg h, if_neg h2]; omega

theorem fs_le (src : Nat → Nat) (u : Nat) : ∀ t, fs src u t ≤ t
  | 0 => Nat.le_refl _
  | t + 1 => by rw [fs]; have := fs_le src u t; split <;> omega

theorem cnt_mono (src : Nat → Nat) (u : Nat) {t t' : Nat} (h : t ≤ t') : cnt src u t ≤ cnt src u t' := by
  induction t' with
  | zero => rw [Nat.le_zero.1 h]; exact Nat.le_refl _
  | succ n ih =>
    by_cases e : t = n + 1
    · rw [e]; exact Nat.le_refl _
    · rw [cnt]; have := ih (by omega); omega

theorem cnt_lt (src : Nat → Nat) {t t' : Nat} (h : t < t') : cnt src (src t) t < cnt src (src t) t' := by
  have h1 : cnt src (src t) (t + 1) ≤ cnt src (src t) t' := cnt_mono src _ h
  rw [cnt, if_pos rfl] at h1
  omega

theorem cnt_le (src : Nat → Nat) (u : Nat) : ∀ t, cnt src u t ≤ t
  | 0 => Nat.le_refl _
  | t + 1 => by rw [cnt]; have := cnt_le src u t; split <;> omega

theorem fs_mono (src : Nat → Nat) (t : Nat) {u u' : Nat} (h : u ≤ u') : fs src u t ≤ fs src u' t := by
  induction u' with
  | zero => rw [Nat.le_zero.1 h]; exact Nat.le_refl _
  | succ n ih =>
    by_cases e : u = n + 1
    · rw [e]; exact Nat.le_refl _
    · rw [fs_succ]; have := ih (by omega); omega

/-- What succ holds after t of the M edges: each node's part so far holds the ends of its edges so far, and no others. -/
structure Laid (src : Nat → Nat) (dst : Nat → Int) (M t : Nat) (s : Nat → Int) : Prop where
  only : ∀ u e, fs src u M ≤ e → e < fs src u M + cnt src u t → ∃ t', t' < t ∧ src t' = u ∧ s e = dst t'
  all : ∀ t', t' < t → ∃ e, fs src (src t') M ≤ e ∧ e < fs src (src t') M + cnt src (src t') t ∧ s e = dst t'

theorem Laid.zero (src : Nat → Nat) (dst : Nat → Int) (M : Nat) (s : Nat → Int) : Laid src dst M 0 s :=
  ⟨fun u e h1 h2 => by simp [cnt] at h2; omega, fun t' h => by omega⟩

/-- The place of edge t. -/
def place (src : Nat → Nat) (M t : Nat) : Nat := fs src (src t) M + cnt src (src t) t

theorem place_lt (src : Nat → Nat) (M t : Nat) (h : t < M) : place src M t < fs src (src t + 1) M := by
  rw [place, fs_succ]; have := cnt_lt src h; omega

theorem place_lt_M (src : Nat → Nat) (M t : Nat) (h : t < M) : place src M t < M :=
  Nat.lt_of_lt_of_le (place_lt src M t h) (fs_le src _ M)

theorem Laid.step {src : Nat → Nat} {dst : Nat → Int} {M t : Nat} {s : Nat → Int} (h : Laid src dst M t s) (ht : t < M) :
    Laid src dst M (t + 1) (fun e => if e = place src M t then dst t else s e) := by
  -- a place of an earlier edge is not the new place
  have other : ∀ u e, fs src u M ≤ e → e < fs src u M + cnt src u t → e ≠ place src M t := by
    intro u e h1 h2 he
    subst he
    have hp := place_lt src M t ht
    have hc : cnt src u t ≤ cnt src u M := cnt_mono src u (by omega)
    have hu : fs src u M + cnt src u M = fs src (u + 1) M := (fs_succ src u M).symm
    have hge : fs src (src t) M ≤ place src M t := by rw [place]; omega
    rcases Nat.lt_trichotomy u (src t) with hlt | heq | hgt
    · have := fs_mono src M (u := u + 1) (u' := src t) (by omega); omega
    · subst heq; rw [place] at h2; omega
    · have := fs_mono src M (u := src t + 1) (u' := u) (by omega); omega
  refine ⟨fun u e h1 h2 => ?_, fun t' ht' => ?_⟩
  · rw [cnt] at h2
    by_cases he : e < fs src u M + cnt src u t
    · obtain ⟨t', a, b, c⟩ := h.only u e h1 he
      exact ⟨t', by omega, b, by rw [if_neg (other u e h1 he)]; exact c⟩
    · by_cases hu : src t = u
      · subst hu
        rw [if_pos rfl] at h2
        exact ⟨t, by omega, rfl, by rw [if_pos (by rw [place]; omega)]⟩
      · rw [if_neg hu] at h2; omega
  · by_cases e : t' = t
    · subst e
      refine ⟨place src M t', by rw [place]; omega, by rw [place, cnt, if_pos rfl]; omega, if_pos rfl⟩
    · obtain ⟨e, a, b, c⟩ := h.all t' (by omega)
      refine ⟨e, a, ?_, ?_⟩
      · rw [cnt]; omega
      · rw [if_neg (other _ e a b)]; exact c

end Go.Proofs.Qxb6600486a.Csr

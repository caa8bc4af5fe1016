/- The plain law of the model: rounds of re-evaluation. No Go in sight. -/
import Derived.Test.Qxb6603867aPlain
namespace Go.Proofs.Qxb6603867a.Pl
set_option linter.unusedVariables false

/-- How many of the first t are true. -/
def tr (f : Nat → Bool) : Nat → Nat
  | 0 => 0
  | t + 1 => tr f t + if f t = true then 1 else 0

theorem tr_le (f : Nat → Bool) : ∀ t, tr f t ≤ t
  | 0 => Nat.le_refl _
  | t + 1 => by rw [tr]; have := tr_le f t; split <;> omega

theorem tr_mono (f g : Nat → Bool) : ∀ t, (∀ i, i < t → f i = true → g i = true) → tr f t ≤ tr g t
  | 0, _ => Nat.le_refl _
  | t + 1, h => by
    have ih := tr_mono f g t (fun i hi => h i (by omega))
    rw [tr, tr]
    by_cases c : f t = true
    · rw [if_pos c, if_pos (h t (by omega) c)]; omega
    · rw [if_neg c]; omega

theorem tr_lt (f g : Nat → Bool) (j : Nat) : ∀ t, (∀ i, i < t → f i = true → g i = true) → j < t → f j = false → g j = true → tr f t < tr g t
  | 0, _, hj, _, _ => by omega
  | t + 1, h, hj, h1, h2 => by
    rw [tr, tr]
    by_cases e : j = t
    · subst e
      have := tr_mono f g j (fun i hi => h i (by omega))
      rw [h1, h2]; simp; omega
    · have ih := tr_lt f g j t (fun i hi => h i (by omega)) (by omega) h1 h2
      by_cases c : f t = true
      · rw [if_pos c, if_pos (h t (by omega) c)]; omega
      · rw [if_neg c]; omega

/-- Does the node x hold by the rules, F and H being what is known? -/
def ok (n m : Nat) (v u : Nat → Int) (F H : Nat → Bool) (x : Nat) : Bool :=
  if 0 ≤ v x then decide (v x < n) && F (v x).toNat else decide (kk v x ≤ cc u H x m)

/-- The nodes after a round. -/
def hN (n m : Nat) (v u : Nat → Int) (F H : Nat → Bool) (x : Nat) : Bool := H x || ok n m v u F H x

/-- Of the first t nodes one that is in h is the whole condition of p. -/
def rootB (u : Nat → Int) (h : Nat → Bool) (p : Nat) : Nat → Bool
  | 0 => false
  | t + 1 => rootB u h p t || (h t && decide (u t = -1 - (p : Int)))

theorem rootB_true {u : Nat → Int} {h : Nat → Bool} {p : Nat} : ∀ {t}, rootB u h p t = true ↔ ∃ x, x < t ∧ h x = true ∧ u x = -1 - (p : Int)
  | 0 => by simp [rootB]
  | t + 1 => by
    rw [rootB, Bool.or_eq_true, rootB_true, Bool.and_eq_true, decide_eq_true_iff]
    constructor
    · rintro (⟨i, h1, h2⟩ | h)
      · exact ⟨i, by omega, h2⟩
      · exact ⟨t, by omega, h⟩
    · rintro ⟨i, h1, h2⟩
      by_cases e : i = t
      · subst e; exact .inr h2
      · exact .inl ⟨i, by omega, h2⟩

/-- The processes after a round. -/
def fN (m : Nat) (u : Nat → Int) (act F H' : Nat → Bool) (p : Nat) : Bool := F p || (act p || rootB u H' p m)

/-- Has one of the first t turned? -/
def turned (f g : Nat → Bool) : Nat → Bool
  | 0 => false
  | t + 1 => turned f g t || (!f t && g t)

theorem turned_true {f g : Nat → Bool} : ∀ {t}, turned f g t = true → ∃ i, i < t ∧ f i = false ∧ g i = true
  | 0, h => by cases h
  | t + 1, h => by
    rw [turned, Bool.or_eq_true] at h
    rcases h with h | h
    · obtain ⟨i, a, b⟩ := turned_true h; exact ⟨i, by omega, b⟩
    · simp at h; exact ⟨t, by omega, h⟩

theorem turned_false {f g : Nat → Bool} : ∀ {t}, turned f g t = false → ∀ i, i < t → g i = true → f i = true
  | 0, _, i, hi, _ => by omega
  | t + 1, h, i, hi, hg => by
    rw [turned, Bool.or_eq_false_iff] at h
    by_cases e : i = t
    · subst e
      have h2 := h.2
      rw [hg] at h2
      simpa using h2
    · exact turned_false h.1 i (by omega) hg

/-- F, H lie under every pair that keeps the rules. -/
def Under (n m : Nat) (v u : Nat → Int) (act F H : Nat → Bool) : Prop :=
  ∀ F' H', Closed n m v u act F' H' → (∀ p, p < n → F p = true → F' p = true) ∧ ∀ x, x < m → H x = true → H' x = true

section
variable {n m : Nat} {v u : Nat → Int} {act F H : Nat → Bool}

theorem Under.start : Under n m v u act (fun _ => false) (fun _ => false) := fun F' H' _ => ⟨fun p _ h => (by cases h), fun x _ h => (by cases h)⟩

theorem Under.nodes (h : Under n m v u act F H) : Under n m v u act F (hN n m v u F H) := by
  intro F' H' hc
  obtain ⟨h1, h2⟩ := h F' H' hc
  refine ⟨h1, fun x hx hh => ?_⟩
  unfold hN at hh
  rw [Bool.or_eq_true] at hh
  rcases hh with hh | hh
  · exact h2 x hx hh
  · unfold ok at hh
    by_cases c : 0 ≤ v x
    · rw [if_pos c, Bool.and_eq_true, decide_eq_true_iff] at hh
      exact hc.leaf x hx c hh.1 (h1 _ (by omega) hh.2)
    · rw [if_neg c, decide_eq_true_iff] at hh
      exact hc.inner x hx (by omega) (Nat.le_trans hh (cc_mono u H H' x m (fun y hy => h2 y hy)))

theorem Under.procs (h : Under n m v u act F H) : Under n m v u act (fN m u act F H) H := by
  intro F' H' hc
  obtain ⟨h1, h2⟩ := h F' H' hc
  refine ⟨fun p hp hh => ?_, h2⟩
  unfold fN at hh
  rw [Bool.or_eq_true, Bool.or_eq_true] at hh
  rcases hh with hh | hh | hh
  · exact h1 p hp hh
  · exact hc.act_ p hp hh
  · obtain ⟨x, hx, hx2, hx3⟩ := rootB_true.1 hh
    have := hc.root x hx (h2 x hx hx2) (by omega)
    rwa [show (-1 - u x).toNat = p by omega] at this

/-- A round in which nothing turned: the rules are kept. -/
theorem closed_of_still (hd : Dom n m u) (h1 : turned H (hN n m v u F H) m = false) (h2 : turned F (fN m u act F (hN n m v u F H)) n = false) : Closed n m v u act F H := by
  have e1 : ∀ x, x < m → hN n m v u F H x = true → H x = true := fun x hx => turned_false h1 x hx
  have e2 := fun p hp => turned_false h2 p hp
  refine ⟨fun p hp ha => e2 p hp (by unfold fN; simp [ha]), fun y hy hh hu => ?_, fun x hx a b c => ?_, fun x hx a b => ?_⟩
  · have hp : (-1 - u y).toNat < n := by rcases hd y hy with e | e <;> omega
    refine e2 _ hp ?_
    have : rootB u (hN n m v u F H) (-1 - u y).toNat m = true := rootB_true.2 ⟨y, hy, by unfold hN; rw [hh]; rfl, by omega⟩
    unfold fN; rw [this]; simp
  · refine e1 x hx ?_
    unfold hN ok
    rw [if_pos a, c]; simp [b]
  · refine e1 x hx ?_
    unfold hN ok
    rw [if_neg (by omega)]; simp [b]

/-- A round in which something turned: one more flag at least. -/
theorem more_of_turned (h : turned H (hN n m v u F H) m = true ∨ turned F (fN m u act F (hN n m v u F H)) n = true) :
    tr F n + tr H m + 1 ≤ tr (fN m u act F (hN n m v u F H)) n + tr (hN n m v u F H) m := by
  have a1 : ∀ i, i < m → H i = true → hN n m v u F H i = true := fun i _ hi => by unfold hN; rw [hi]; rfl
  have a2 : ∀ i, i < n → F i = true → fN m u act F (hN n m v u F H) i = true := fun i _ hi => by unfold fN; rw [hi]; rfl
  have b1 := tr_mono _ _ m a1
  have b2 := tr_mono _ _ n a2
  rcases h with h | h
  · obtain ⟨j, hj, x1, x2⟩ := turned_true h
    have := tr_lt _ _ j m a1 hj x1 x2
    omega
  · obtain ⟨j, hj, x1, x2⟩ := turned_true h
    have := tr_lt _ _ j n a2 hj x1 x2
    omega
end
end Go.Proofs.Qxb6603867a.Pl

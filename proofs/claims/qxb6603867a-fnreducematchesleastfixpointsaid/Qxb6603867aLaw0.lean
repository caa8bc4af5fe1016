import Derived.Test.Qxb6603867aHead
namespace Go.Proofs.Qxb6603867a.Pl
set_option linter.unusedVariables false

/-- Each property of numbers is a column of bools. -/
theorem bools (P : Nat → Prop) : ∃ F : Nat → Bool, ∀ p, F p = true ↔ P p := by
  exact ⟨fun p => by
    by_cases hp : P p
    · exact true
    · exact false, fun p => by by_cases hp : P p <;> simp [hp]⟩

/-- There is a least pair. -/
theorem exists_least (n m : Nat) (v u : Nat → Int) (act : Nat → Bool) (hd : Dom n m u) : ∃ F H, Least n m v u act F H := by
  have hF : ∃ F : Nat → Bool, ∀ p, F p = true ↔ ∀ F' H', Closed n m v u act F' H' → F' p = true := bools _
  have hH : ∃ H : Nat → Bool, ∀ x, H x = true ↔ ∀ F' H', Closed n m v u act F' H' → H' x = true := bools _
  obtain ⟨F, hF⟩ := hF
  obtain ⟨H, hH⟩ := hH
  refine ⟨F, H, ⟨fun p hp ha => (hF p).2 fun F' H' hc => hc.act_ p hp ha, fun y hy hh hu => (hF _).2 fun F' H' hc => hc.root y hy ((hH y).1 hh F' H' hc) hu, fun x hx a b c => (hH x).2 fun F' H' hc => hc.leaf x hx a b ((hF _).1 c F' H' hc), fun x hx a b => (hH x).2 fun F' H' hc => hc.inner x hx a (Nat.le_trans b (cc_mono u H H' x m (fun y _ hy => (hH y).1 hy F' H' hc)))⟩, fun F' H' hc => ⟨fun p _ h => (hF p).1 h F' H' hc, fun x _ h => (hH x).1 h F' H' hc⟩⟩

/-- The model's pair is the least. -/
theorem least_of {n m : Nat} {v u : Nat → Int} {act F H F' H' : Nat → Bool} (h : Least n m v u act F H) (hc : Closed n m v u act F' H') (hu : Under n m v u act F' H') : (∀ p, p < n → F p = F' p) ∧ ∀ x, x < m → H x = H' x := by
  obtain ⟨a1, a2⟩ := h.least F' H' hc
  obtain ⟨b1, b2⟩ := hu F H h.closed
  constructor
  · intro p hp
    cases e1 : F p with
    | true => rw [a1 p hp e1]
    | false =>
      cases e2 : F' p with
      | false => rfl
      | true => rw [b1 p hp e2] at e1; cases e1
  · intro p hp
    cases e1 : H p with
    | true => rw [a2 p hp e1]
    | false =>
      cases e2 : H' p with
      | false => rfl
      | true => rw [b2 p hp e2] at e1; cases e1
theorem tr_congr {f g : Nat → Bool} : ∀ t, (∀ i, i < t → f i = g i) → tr f t = tr g t
  | 0, _ => rfl
  | t + 1, h => by rw [tr, tr, tr_congr t (fun i hi => h i (by omega)), h t (by omega)]
end Go.Proofs.Qxb6603867a.Pl

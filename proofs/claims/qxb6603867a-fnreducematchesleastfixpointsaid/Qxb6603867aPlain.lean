/- The plain law of the reduction: no Go in sight. -/
namespace Go.Proofs.Qxb6603867a.Pl
set_option linter.unusedVariables false

/-- Of the first t nodes, how many that are in h report to x. -/
def cc (u : Nat → Int) (h : Nat → Bool) (x : Nat) : Nat → Nat
  | 0 => 0
  | t + 1 => cc u h x t + if h t = true ∧ u t = (x : Int) then 1 else 0

theorem cc_mono (u : Nat → Int) (h h' : Nat → Bool) (x : Nat) : ∀ t, (∀ y, y < t → h y = true → h' y = true) → cc u h x t ≤ cc u h' x t
  | 0, _ => Nat.le_refl _
  | t + 1, hh => by
    have ih := cc_mono u h h' x t (fun y hy => hh y (by omega))
    rw [cc, cc]
    by_cases c : h t = true ∧ u t = (x : Int)
    · rw [if_pos c, if_pos ⟨hh t (by omega) c.1, c.2⟩]; omega
    · rw [if_neg c]; omega

theorem cc_congr (u : Nat → Int) (h h' : Nat → Bool) (x : Nat) : ∀ t, (∀ y, y < t → h y = h' y) → cc u h x t = cc u h' x t
  | 0, _ => rfl
  | t + 1, hh => by rw [cc, cc, cc_congr u h h' x t (fun y hy => hh y (by omega)), hh t (by omega)]

theorem cc_le (u : Nat → Int) (h : Nat → Bool) (x : Nat) : ∀ t, cc u h x t ≤ t
  | 0 => Nat.le_refl _
  | t + 1 => by rw [cc]; have := cc_le u h x t; split <;> omega

/-- One more node is in. -/
def ins (h : Nat → Bool) (y : Nat) (z : Nat) : Bool := if z = y then true else h z

theorem ins_self (h : Nat → Bool) (y : Nat) : ins h y y = true := if_pos rfl
theorem ins_of (h : Nat → Bool) (y z : Nat) (hz : h z = true) : ins h y z = true := by unfold ins; split <;> simp_all
theorem ins_ne (h : Nat → Bool) (y z : Nat) (hz : z ≠ y) : ins h y z = h z := if_neg hz

theorem cc_ins (u : Nat → Int) (h : Nat → Bool) (y x : Nat) (hy : h y = false) : ∀ t, cc u (ins h y) x t = cc u h x t + if y < t ∧ u y = (x : Int) then 1 else 0
  | 0 => by simp [cc]
  | t + 1 => by
    rw [cc, cc, cc_ins u h y x hy t]
    by_cases e : t = y
    · subst e
      rw [ins_self, hy]
      by_cases c : u t = (x : Int)
      · simp [c]
      · simp [c]
    · rw [ins_ne h y t e]
      have h1 : (y < t + 1 ∧ u y = (x : Int)) ↔ (y < t ∧ u y = (x : Int)) := by constructor <;> rintro ⟨a, b⟩ <;> exact ⟨by omega, b⟩
      simp only [h1]
      omega

/-- The threshold of an inner node. -/
def kk (v : Nat → Int) (x : Nat) : Nat := (-1 - v x).toNat

/-- Where reduce can run. -/
def Dom (n m : Nat) (u : Nat → Int) : Prop := ∀ x, x < m → (0 ≤ u x ∧ u x < m) ∨ (u x < 0 ∧ -1 - u x < n)

/-- The rules: F: free processes, H: nodes that hold. -/
structure Closed (n m : Nat) (v u : Nat → Int) (act F H : Nat → Bool) : Prop where
  act_ : ∀ p, p < n → act p = true → F p = true
  root : ∀ y, y < m → H y = true → u y < 0 → F (-1 - u y).toNat = true
  leaf : ∀ x, x < m → 0 ≤ v x → v x < n → F (v x).toNat = true → H x = true
  inner : ∀ x, x < m → v x < 0 → kk v x ≤ cc u H x m → H x = true

/-- F, H are the least that keep the rules. -/
structure Least (n m : Nat) (v u : Nat → Int) (act F H : Nat → Bool) : Prop where
  closed : Closed n m v u act F H
  least : ∀ F' H', Closed n m v u act F' H' → (∀ p, p < n → F p = true → F' p = true) ∧ ∀ x, x < m → H x = true → H' x = true

/-- y holds in the reduction's own state. -/
def Holds (n : Nat) (v : Nat → Int) (need : Nat → Nat) (free : Nat → Bool) (y : Nat) : Prop :=
  (0 ≤ v y ∧ v y < n ∧ free (v y).toNat = true) ∨ (v y < 0 ∧ need y = 0)

/-- THE INVARIANT of the reduction. -/
structure Inv (n m : Nat) (v u : Nat → Int) (F H : Nat → Bool) (need : Nat → Nat) (free : Nat → Bool) (stk : List Nat) (rep todo : Nat → Bool) (pend : Option Nat) : Prop where
  lf0 : ∀ x, x < m → 0 ≤ v x → need x = 0
  cnt : ∀ x, x < m → v x < 0 → 0 < need x → need x + cc u rep x m = max (kk v x) 1
  zero : ∀ x, x < m → v x < 0 → need x = 0 → kk v x ≤ cc u rep x m
  holds : ∀ y, y < m → rep y = true → Holds n v need free y
  root : ∀ y, y < m → rep y = true → u y < 0 → free (-1 - u y).toNat = true
  leafd : ∀ y, y < m → 0 ≤ v y → v y < n → free (v y).toNat = true → rep y = true ∨ (v y).toNat ∈ stk ∨ todo y = true ∨ pend = some y
  nin : ∀ y, y < m → 0 ≤ v y → (rep y = true ∨ todo y = true ∨ pend = some y) → (v y).toNat ∉ stk
  todoN : ∀ y, y < m → todo y = true → rep y = false ∧ pend ≠ some y ∧ 0 ≤ v y ∧ v y < n ∧ free (v y).toNat = true
  ini : ∀ y, y < m → v y < 0 → need y = 0 → rep y = true ∨ pend = some y
  pendN : ∀ y, pend = some y → y < m ∧ rep y = false ∧ Holds n v need free y
  stkf : ∀ p, p ∈ stk → p < n ∧ free p = true
  nodup : stk.Nodup
  soundF : ∀ p, p < n → free p = true → F p = true
  soundH : ∀ x, x < m → v x < 0 → need x = 0 → H x = true

section
variable {n m : Nat} {v u : Nat → Int} {act F H : Nat → Bool} {need : Nat → Nat} {free : Nat → Bool} {stk : List Nat} {rep todo : Nat → Bool} {pend : Option Nat} {y : Nat}

theorem Holds.sound (hc : Closed n m v u act F H) (h : Inv n m v u F H need free stk rep todo pend) (hy : y < m) (hh : Holds n v need free y) : H y = true := by
  rcases hh with ⟨h1, h2, h3⟩ | ⟨h1, h2⟩
  · exact hc.leaf y hy h1 h2 (h.soundF _ (by omega) h3)
  · exact h.soundH y hy h1 h2

theorem Inv.rep_sound (hc : Closed n m v u act F H) (h : Inv n m v u F H need free stk rep todo pend) (hy : y < m) (hr : rep y = true) : H y = true :=
  Holds.sound hc h hy (h.holds y hy hr)

theorem isy {rep : Nat → Bool} {y z : Nat} (hz : ins rep y z = true) : rep z = true ∨ z = y := by
  by_cases e : z = y
  · exact .inr e
  · rw [ins_ne rep y z e] at hz; exact .inl hz

/-- The report of y is passed over: the node above holds already (or is a leaf). -/
theorem Inv.ignore (h : Inv n m v u F H need free stk rep todo (some y)) (h1 : 0 ≤ u y) (h2 : need (u y).toNat = 0) : Inv n m v u F H need free stk (ins rep y) todo none := by
  obtain ⟨hy, hr, hh⟩ := h.pendN y rfl
  have mono : ∀ x, cc u rep x m ≤ cc u (ins rep y) x m := fun x => cc_mono u _ _ x m (fun z _ hz => ins_of rep y z hz)
  refine ⟨h.lf0, fun x hx hv hn => ?_, fun x hx hv hn => Nat.le_trans (h.zero x hx hv hn) (mono x), fun z hz hr' => ?_, fun z hz hr' hu => ?_, fun z hz a b c => ?_, fun z hz a b => ?_, fun z hz ht => ?_, fun z hz a b => ?_, fun z hz => (by cases hz), h.stkf, h.nodup, h.soundF, h.soundH⟩
  · have hne : ¬ (y < m ∧ u y = (x : Int)) := fun hc => by
      have e : (u y).toNat = x := by omega
      rw [e] at h2; omega
    rw [cc_ins u rep y x hr m, if_neg hne]
    exact h.cnt x hx hv hn
  · rcases isy hr' with e | e
    · exact h.holds z hz e
    · rw [e]; exact hh
  · rcases isy hr' with e | e
    · exact h.root z hz e hu
    · rw [e] at hu; omega
  · rcases h.leafd z hz a b c with e | e | e | e
    · exact .inl (ins_of rep y z e)
    · exact .inr (.inl e)
    · exact .inr (.inr (.inl e))
    · simp at e; subst e; exact .inl (ins_self rep _)
  · refine h.nin z hz a ?_
    rcases b with b | b | b
    · rcases isy b with e | e
      · exact .inl e
      · exact .inr (.inr (by rw [e]))
    · exact .inr (.inl b)
    · cases b
  · obtain ⟨t1, t2, t3⟩ := h.todoN z hz ht
    have hne : z ≠ y := fun e => t2 (by rw [e])
    exact ⟨by rw [ins_ne rep y z hne]; exact t1, by simp, t3⟩
  · rcases h.ini z hz a b with e | e
    · exact .inl (ins_of rep y z e)
    · simp at e; subst e; exact .inl (ins_self rep _)

/-- need with x's count set. -/
def setN (need : Nat → Nat) (x k z : Nat) : Nat := if z = x then k else need z
theorem setN_self (need : Nat → Nat) (x k : Nat) : setN need x k x = k := if_pos rfl
theorem setN_ne (need : Nat → Nat) (x k z : Nat) (h : z ≠ x) : setN need x k z = need z := if_neg h

theorem Holds.setN {x k : Nat} {z : Nat} (hx : v x < 0 → need x ≠ 0) (h : Holds n v need free z) : Holds n v (setN need x k) free z := by
  rcases h with h | ⟨h1, h2⟩
  · exact .inl h
  · refine .inr ⟨h1, ?_⟩
    rw [setN_ne]; exact h2
    intro e; subst e; exact hx h1 h2

/-- The report of y counts, and more are wanted. -/
theorem Inv.dec (h : Inv n m v u F H need free stk rep todo (some y)) (x : Nat) (hx : x < m) (h1 : u y = (x : Int)) (h2 : 2 ≤ need x) : Inv n m v u F H (setN need x (need x - 1)) free stk (ins rep y) todo none := by
  obtain ⟨hy, hr, hh⟩ := h.pendN y rfl
  have mono : ∀ x, cc u rep x m ≤ cc u (ins rep y) x m := fun x => cc_mono u _ _ x m (fun z _ hz => ins_of rep y z hz)
  have hvx : v x < 0 := by
    rcases Int.lt_or_le (v x) 0 with c | c
    · exact c
    · have := h.lf0 x hx c; omega
  have hne0 : v x < 0 → need x ≠ 0 := fun _ => by omega
  have hz0 : ∀ z, setN need x (need x - 1) z = 0 → need z = 0 := fun z hz => by
    by_cases e : z = x
    · subst e; rw [setN_self] at hz; omega
    · rw [setN_ne _ _ _ _ e] at hz; exact hz
  refine ⟨fun z hz hv => ?_, fun z hz hv hn => ?_, fun z hz hv hn => Nat.le_trans (h.zero z hz hv (hz0 z hn)) (mono z), fun z hz hr' => ?_, fun z hz hr' hu => ?_, fun z hz a b c => ?_, fun z hz a b => ?_, fun z hz ht => ?_, fun z hz a b => ?_, fun z hz => (by cases hz), h.stkf, h.nodup, h.soundF, fun z hz a b => h.soundH z hz a (hz0 z b)⟩
  · rw [setN_ne _ _ _ _ (fun e => by subst e; omega)]; exact h.lf0 z hz hv
  · rw [cc_ins u rep y z hr m]
    by_cases e : z = x
    · subst e
      rw [setN_self, if_pos ⟨hy, h1⟩]
      have := h.cnt z hz hv (by omega)
      omega
    · rw [setN_ne _ _ _ _ e] at hn ⊢
      rw [if_neg (fun hc => e (by omega))]
      exact h.cnt z hz hv hn
  · rcases isy hr' with e | e
    · exact (h.holds z hz e).setN hne0
    · rw [e]; exact hh.setN hne0
  · rcases isy hr' with e | e
    · exact h.root z hz e hu
    · rw [e] at hu; omega
  · rcases h.leafd z hz a b c with e | e | e | e
    · exact .inl (ins_of rep y z e)
    · exact .inr (.inl e)
    · exact .inr (.inr (.inl e))
    · simp at e; subst e; exact .inl (ins_self rep _)
  · refine h.nin z hz a ?_
    rcases b with b | b | b
    · rcases isy b with e | e
      · exact .inl e
      · exact .inr (.inr (by rw [e]))
    · exact .inr (.inl b)
    · cases b
  · obtain ⟨t1, t2, t3⟩ := h.todoN z hz ht
    have hne : z ≠ y := fun e => t2 (by rw [e])
    exact ⟨by rw [ins_ne rep y z hne]; exact t1, by simp, t3⟩
  · rcases h.ini z hz a (hz0 z b) with e | e
    · exact .inl (ins_of rep y z e)
    · simp at e; subst e; exact .inl (ins_self rep _)

/-- x's count comes to nought: by the report of y, or because x wants none. -/
theorem Inv.hit (hc : Closed n m v u act F H) (h : Inv n m v u F H need free stk rep todo (some y)) (x : Nat) (hx : x < m) (h1 : u y = (x : Int)) (h2 : need x = 1) : Inv n m v u F H (setN need x 0) free stk (ins rep y) todo (some x) := by
  obtain ⟨hy, hr, hh⟩ := h.pendN y rfl
  have mono : ∀ x, cc u rep x m ≤ cc u (ins rep y) x m := fun x => cc_mono u _ _ x m (fun z _ hz => ins_of rep y z hz)
  have hvx : v x < 0 := by
    rcases Int.lt_or_le (v x) 0 with c | c
    · exact c
    · have := h.lf0 x hx c; omega
  have hne0 : v x < 0 → need x ≠ 0 := fun _ => by omega
  have hz0 : ∀ z, z ≠ x → setN need x 0 z = need z := fun z hz => setN_ne _ _ _ _ hz
  have hxr : rep x = false := by
    cases e : rep x with
    | false => rfl
    | true => rcases h.holds x hx e with ⟨a, _⟩ | ⟨_, a⟩ <;> omega
  have hxy : x ≠ y := fun e => by
    subst e
    rcases hh with ⟨a, _⟩ | ⟨_, a⟩ <;> omega
  have hk : kk v x ≤ cc u (ins rep y) x m := by
    rw [cc_ins u rep y x hr m, if_pos ⟨hy, h1⟩]
    have := h.cnt x hx hvx (by omega)
    omega
  have hHx : H x = true := hc.inner x hx hvx (Nat.le_trans hk (cc_mono u _ _ x m (fun z hz hz' => by
    rcases isy hz' with e | e
    · exact h.rep_sound hc hz e
    · rw [e]; exact Holds.sound hc h hy hh)))
  refine ⟨fun z hz hv => ?_, fun z hz hv hn => ?_, fun z hz hv hn => ?_, fun z hz hr' => ?_, fun z hz hr' hu => ?_, fun z hz a b c => ?_, fun z hz a b => ?_, fun z hz ht => ?_, fun z hz a b => ?_, fun z hz => ?_, h.stkf, h.nodup, h.soundF, fun z hz a b => ?_⟩
  · rw [hz0 z (fun e => by subst e; omega)]; exact h.lf0 z hz hv
  · have e : z ≠ x := fun e => by subst e; rw [setN_self] at hn; omega
    rw [hz0 z e] at hn ⊢
    rw [cc_ins u rep y z hr m, if_neg (fun hc => e (by omega))]
    exact h.cnt z hz hv hn
  · by_cases e : z = x
    · subst e; exact hk
    · rw [hz0 z e] at hn; exact Nat.le_trans (h.zero z hz hv hn) (mono z)
  · rcases isy hr' with e | e
    · exact (h.holds z hz e).setN hne0
    · rw [e]; exact hh.setN hne0
  · rcases isy hr' with e | e
    · exact h.root z hz e hu
    · rw [e] at hu; omega
  · rcases h.leafd z hz a b c with e | e | e | e
    · exact .inl (ins_of rep y z e)
    · exact .inr (.inl e)
    · exact .inr (.inr (.inl e))
    · simp at e; subst e; exact .inl (ins_self rep _)
  · refine h.nin z hz a ?_
    rcases b with b | b | b
    · rcases isy b with e | e
      · exact .inl e
      · exact .inr (.inr (by rw [e]))
    · exact .inr (.inl b)
    · simp at b; subst b; omega
  · obtain ⟨t1, t2, t3⟩ := h.todoN z hz ht
    have hne : z ≠ y := fun e => t2 (by rw [e])
    exact ⟨by rw [ins_ne rep y z hne]; exact t1, fun e => by { simp at e; subst e; have := t3.1; omega }, t3⟩
  · by_cases e : z = x
    · exact .inr (by rw [e])
    · rw [hz0 z e] at b
      rcases h.ini z hz a b with e | e
      · exact .inl (ins_of rep y z e)
      · simp at e; subst e; exact .inl (ins_self rep _)
  · simp at hz; subst hz
    exact ⟨hx, by rw [ins_ne rep y _ hxy]; exact hxr, .inr ⟨hvx, setN_self _ _ _⟩⟩
  · by_cases e : z = x
    · subst e; exact hHx
    · rw [hz0 z e] at b; exact h.soundH z hz a b

/-- x wants none: its count comes to nought. -/
theorem Inv.empty (hc : Closed n m v u act F H) (h : Inv n m v u F H need free stk rep todo none) (x : Nat) (hx : x < m) (hv : v x = -1) (h2 : need x ≠ 0) : need x = 1 ∧ Inv n m v u F H (setN need x 0) free stk rep todo (some x) := by
  have hkx : kk v x = 0 := by unfold kk; rw [hv]; rfl
  have hvx : v x < 0 := by omega
  have h1 : need x = 1 := by
    have := h.cnt x hx hvx (by omega)
    rw [hkx] at this; omega
  have hne0 : v x < 0 → need x ≠ 0 := fun _ => by omega
  have hz0 : ∀ z, z ≠ x → setN need x 0 z = need z := fun z hz => setN_ne _ _ _ _ hz
  have hxr : rep x = false := by
    cases e : rep x with
    | false => rfl
    | true => rcases h.holds x hx e with ⟨a, _⟩ | ⟨_, a⟩ <;> omega
  have hHx : H x = true := hc.inner x hx hvx (by rw [hkx]; omega)
  refine ⟨h1, fun z hz hv => ?_, fun z hz hv hn => ?_, fun z hz hv hn => ?_, fun z hz hr' => (h.holds z hz hr').setN hne0, h.root, fun z hz a b c => ?_, fun z hz a b => ?_, fun z hz ht => ?_, fun z hz a b => ?_, fun z hz => ?_, h.stkf, h.nodup, h.soundF, fun z hz a b => ?_⟩
  · rw [hz0 z (fun e => by subst e; omega)]; exact h.lf0 z hz hv
  · have e : z ≠ x := fun e => by subst e; rw [setN_self] at hn; omega
    rw [hz0 z e] at hn ⊢
    exact h.cnt z hz hv hn
  · by_cases e : z = x
    · subst e; rw [hkx]; omega
    · rw [hz0 z e] at hn; exact h.zero z hz hv hn
  · rcases h.leafd z hz a b c with e | e | e | e
    · exact .inl e
    · exact .inr (.inl e)
    · exact .inr (.inr (.inl e))
    · cases e
  · refine h.nin z hz a ?_
    rcases b with b | b | b
    · exact .inl b
    · exact .inr (.inl b)
    · simp at b; subst b; omega
  · obtain ⟨t1, t2, t3⟩ := h.todoN z hz ht
    exact ⟨t1, fun e => by { simp at e; subst e; have := t3.1; omega }, t3⟩
  · by_cases e : z = x
    · exact .inr (by rw [e])
    · rw [hz0 z e] at b
      rcases h.ini z hz a b with e | e
      · exact .inl e
      · cases e
  · simp at hz; subst hz
    exact ⟨hx, hxr, .inr ⟨hvx, setN_self _ _ _⟩⟩
  · by_cases e : z = x
    · subst e; exact hHx
    · rw [hz0 z e] at b; exact h.soundH z hz a b

/-- The report of y comes to a process that is free already. -/
theorem Inv.known (h : Inv n m v u F H need free stk rep todo (some y)) (h1 : u y < 0) (h2 : free (-1 - u y).toNat = true) : Inv n m v u F H need free stk (ins rep y) todo none := by
  obtain ⟨hy, hr, hh⟩ := h.pendN y rfl
  have mono : ∀ x, cc u rep x m ≤ cc u (ins rep y) x m := fun x => cc_mono u _ _ x m (fun z _ hz => ins_of rep y z hz)
  refine ⟨h.lf0, fun x hx hv hn => ?_, fun x hx hv hn => Nat.le_trans (h.zero x hx hv hn) (mono x), fun z hz hr' => ?_, fun z hz hr' hu => ?_, fun z hz a b c => ?_, fun z hz a b => ?_, fun z hz ht => ?_, fun z hz a b => ?_, fun z hz => (by cases hz), h.stkf, h.nodup, h.soundF, h.soundH⟩
  · rw [cc_ins u rep y x hr m, if_neg (fun hc => by have := hc.2; omega)]
    exact h.cnt x hx hv hn
  · rcases isy hr' with e | e
    · exact h.holds z hz e
    · rw [e]; exact hh
  · rcases isy hr' with e | e
    · exact h.root z hz e hu
    · rw [e]; exact h2
  · rcases h.leafd z hz a b c with e | e | e | e
    · exact .inl (ins_of rep y z e)
    · exact .inr (.inl e)
    · exact .inr (.inr (.inl e))
    · simp at e; subst e; exact .inl (ins_self rep _)
  · refine h.nin z hz a ?_
    rcases b with b | b | b
    · rcases isy b with e | e
      · exact .inl e
      · exact .inr (.inr (by rw [e]))
    · exact .inr (.inl b)
    · cases b
  · obtain ⟨t1, t2, t3⟩ := h.todoN z hz ht
    have hne : z ≠ y := fun e => t2 (by rw [e])
    exact ⟨by rw [ins_ne rep y z hne]; exact t1, by simp, t3⟩
  · rcases h.ini z hz a b with e | e
    · exact .inl (ins_of rep y z e)
    · simp at e; subst e; exact .inl (ins_self rep _)

theorem Holds.ins {p z : Nat} (h : Holds n v need free z) : Holds n v need (ins free p) z := by
  rcases h with ⟨h1, h2, h3⟩ | h
  · exact .inl ⟨h1, h2, ins_of free p _ h3⟩
  · exact .inr h

/-- A process is freed that is not free yet: pushed. Nothing is pending. -/
theorem Inv.push (h : Inv n m v u F H need free stk rep todo none) (p : Nat) (hp : p < n) (h2 : free p = false) (hF : F p = true) : Inv n m v u F H need (ins free p) (stk ++ [p]) rep todo none := by
  have hnp : p ∉ stk := fun hm => by have := (h.stkf p hm).2; rw [h2] at this; cases this
  refine ⟨h.lf0, h.cnt, h.zero, fun z hz hr => (h.holds z hz hr).ins, fun z hz hr hu => ins_of free p _ (h.root z hz hr hu), fun z hz a b c => ?_, fun z hz a b => ?_, fun z hz ht => ?_, h.ini, fun z hz => (by cases hz), fun q hq => ?_, ?_, fun q hq hf => ?_, h.soundH⟩
  · by_cases e : (v z).toNat = p
    · exact .inr (.inl (by rw [e]; simp))
    · rw [ins_ne free p _ e] at c
      rcases h.leafd z hz a b c with e | e | e | e
      · exact .inl e
      · exact .inr (.inl (by simp [e]))
      · exact .inr (.inr (.inl e))
      · cases e
  · have h3 := h.nin z hz a b
    simp only [List.mem_append, List.mem_singleton, not_or]
    refine ⟨h3, fun e => ?_⟩
    have hf : free (v z).toNat = true := by
      rcases b with b | b | b
      · rcases h.holds z hz b with ⟨_, _, c⟩ | ⟨c, _⟩
        · exact c
        · omega
      · exact (h.todoN z hz b).2.2.2.2
      · cases b
    rw [e, h2] at hf; cases hf
  · obtain ⟨t1, t2, t3, t4, t5⟩ := h.todoN z hz ht
    exact ⟨t1, t2, t3, t4, ins_of free p _ t5⟩
  · rcases List.mem_append.1 hq with e | e
    · exact ⟨(h.stkf q e).1, ins_of free p _ (h.stkf q e).2⟩
    · simp at e; subst e; exact ⟨hp, ins_self free _⟩
  · rw [List.nodup_append]
    exact ⟨h.nodup, by simp, fun a ha b hb e => by simp at hb; subst hb; subst e; exact hnp ha⟩
  · by_cases e : q = p
    · rw [e]; exact hF
    · rw [ins_ne free p _ e] at hf; exact h.soundF q hq hf

/-- The report of y frees a process. -/
theorem Inv.release (hc : Closed n m v u act F H) (hd : Dom n m u) (h : Inv n m v u F H need free stk rep todo (some y)) (h1 : u y < 0) (h2 : free (-1 - u y).toNat = false) :
    Inv n m v u F H need (ins free (-1 - u y).toNat) (stk ++ [(-1 - u y).toNat]) (ins rep y) todo none := by
  obtain ⟨hy, hr, hh⟩ := h.pendN y rfl
  have hp : (-1 - u y).toNat < n := by rcases hd y hy with e | e <;> omega
  have hF : F (-1 - u y).toNat = true := hc.root y hy (Holds.sound hc h hy hh) h1
  have hnp : (-1 - u y).toNat ∉ stk := fun hm => by have := (h.stkf _ hm).2; rw [h2] at this; cases this
  have mono : ∀ x, cc u rep x m ≤ cc u (ins rep y) x m := fun x => cc_mono u _ _ x m (fun z _ hz => ins_of rep y z hz)
  refine ⟨h.lf0, fun x hx hv hn => ?_, fun x hx hv hn => Nat.le_trans (h.zero x hx hv hn) (mono x), fun z hz hr' => ?_, fun z hz hr' hu => ?_, fun z hz a b c => ?_, fun z hz a b => ?_, fun z hz ht => ?_, fun z hz a b => ?_, fun z hz => (by cases hz), fun q hq => ?_, ?_, fun q hq hf => ?_, h.soundH⟩
  · rw [cc_ins u rep y x hr m, if_neg (fun hc => by have := hc.2; omega)]
    exact h.cnt x hx hv hn
  · rcases isy hr' with e | e
    · exact (h.holds z hz e).ins
    · rw [e]; exact hh.ins
  · rcases isy hr' with e | e
    · exact ins_of free _ _ (h.root z hz e hu)
    · rw [e]; exact ins_self free _
  · by_cases e : (v z).toNat = (-1 - u y).toNat
    · exact .inr (.inl (by rw [e]; simp))
    · rw [ins_ne free _ _ e] at c
      rcases h.leafd z hz a b c with e | e | e | e
      · exact .inl (ins_of rep y z e)
      · exact .inr (.inl (by simp [e]))
      · exact .inr (.inr (.inl e))
      · simp at e; subst e; exact .inl (ins_self rep _)
  · have hf : free (v z).toNat = true ∧ (v z).toNat ∉ stk := by
      have key : rep z = true ∨ todo z = true ∨ some y = some z := by
        rcases b with b | b | b
        · rcases isy b with e | e
          · exact .inl e
          · exact .inr (.inr (by rw [e]))
        · exact .inr (.inl b)
        · cases b
      refine ⟨?_, h.nin z hz a key⟩
      rcases key with b | b | b
      · rcases h.holds z hz b with ⟨_, _, c⟩ | ⟨c, _⟩
        · exact c
        · omega
      · exact (h.todoN z hz b).2.2.2.2
      · simp at b; subst b
        rcases hh with ⟨_, _, c⟩ | ⟨c, _⟩
        · exact c
        · omega
    simp only [List.mem_append, List.mem_singleton, not_or]
    refine ⟨hf.2, fun e => ?_⟩
    have := hf.1
    rw [e, h2] at this; cases this
  · obtain ⟨t1, t2, t3, t4, t5⟩ := h.todoN z hz ht
    have hne : z ≠ y := fun e => t2 (by rw [e])
    exact ⟨by rw [ins_ne rep y z hne]; exact t1, by simp, t3, t4, ins_of free _ _ t5⟩
  · rcases h.ini z hz a b with e | e
    · exact .inl (ins_of rep y z e)
    · simp at e; subst e; exact .inl (ins_self rep _)
  · rcases List.mem_append.1 hq with e | e
    · exact ⟨(h.stkf q e).1, ins_of free _ _ (h.stkf q e).2⟩
    · simp at e; subst e; exact ⟨hp, ins_self free _⟩
  · rw [List.nodup_append]
    exact ⟨h.nodup, by simp, fun a ha b hb e => by simp at hb; subst hb; subst e; exact hnp ha⟩
  · by_cases e : q = (-1 - u y).toNat
    · rw [e]; exact hF
    · rw [ins_ne free _ _ e] at hf; exact h.soundF q hq hf

/-- A leaf that is to report is taken up. -/
theorem Inv.take (h : Inv n m v u F H need free stk rep todo none) (hy : y < m) (ht : todo y = true) (todo' : Nat → Bool) (ht1 : todo' y = false) (ht2 : ∀ z, z < m → z ≠ y → todo' z = todo z) : Inv n m v u F H need free stk rep todo' (some y) := by
  obtain ⟨t1, _, t3, t4, t5⟩ := h.todoN y hy ht
  have hsub : ∀ z, z < m → todo' z = true → todo z = true ∧ z ≠ y := fun z hz hz' => by
    by_cases e : z = y
    · subst e; rw [ht1] at hz'; cases hz'
    · exact ⟨by rw [← ht2 z hz e]; exact hz', e⟩
  refine ⟨h.lf0, h.cnt, h.zero, h.holds, h.root, fun z hz a b c => ?_, fun z hz a b => ?_, fun z hz hz' => ?_, fun z hz a b => ?_, fun z hz => ?_, h.stkf, h.nodup, h.soundF, h.soundH⟩
  · rcases h.leafd z hz a b c with e | e | e | e
    · exact .inl e
    · exact .inr (.inl e)
    · by_cases e' : z = y
      · exact .inr (.inr (.inr (by rw [e'])))
      · exact .inr (.inr (.inl (by rw [ht2 z hz e']; exact e)))
    · cases e
  · refine h.nin z hz a ?_
    rcases b with b | b | b
    · exact .inl b
    · exact .inr (.inl (hsub z hz b).1)
    · simp at b; subst b; exact .inr (.inl ht)
  · obtain ⟨a, b⟩ := hsub z hz hz'
    obtain ⟨s1, _, s3⟩ := h.todoN z hz a
    exact ⟨s1, fun e => by { simp at e; exact b e.symm }, s3⟩
  · rcases h.ini z hz a b with e | e
    · exact .inl e
    · cases e
  · simp at hz; subst hz
    exact ⟨hy, t1, .inl ⟨t3, t4, t5⟩⟩

/-- The last of the stack is taken off: its leaves are to report. -/
theorem Inv.pop {s : List Nat} {p : Nat} (h : Inv n m v u F H need free (s ++ [p]) rep (fun _ => false) none) (todo' : Nat → Bool) (ht : ∀ z, z < m → (todo' z = true ↔ 0 ≤ v z ∧ (v z).toNat = p)) : Inv n m v u F H need free s rep todo' none := by
  have hp := h.stkf p (by simp)
  have hnp : p ∉ s := fun hm => by
    have := h.nodup
    rw [List.nodup_append] at this
    exact this.2.2 p hm p (by simp) rfl
  refine ⟨h.lf0, h.cnt, h.zero, h.holds, h.root, fun z hz a b c => ?_, fun z hz a b => ?_, fun z hz hz' => ?_, h.ini, fun z hz => (by cases hz), fun q hq => h.stkf q (by simp [hq]), ?_, h.soundF, h.soundH⟩
  · rcases h.leafd z hz a b c with e | e | e | e
    · exact .inl e
    · rcases List.mem_append.1 e with e | e
      · exact .inr (.inl e)
      · simp at e; exact .inr (.inr (.inl ((ht z hz).2 ⟨a, e⟩)))
    · cases e
    · cases e
  · rcases b with b | b | b
    · have := h.nin z hz a (.inl b)
      exact fun hm => this (by simp [hm])
    · rw [((ht z hz).1 b).2]; exact hnp
    · cases b
  · obtain ⟨a, b⟩ := (ht z hz).1 hz'
    refine ⟨?_, by simp, a, by omega, by rw [b]; exact hp.2⟩
    cases e : rep z with
    | false => rfl
    | true =>
      have := h.nin z hz a (.inl e)
      exact absurd (by rw [b]; simp) this
  · have := h.nodup
    rw [List.nodup_append] at this
    exact this.1

/-- Nothing is left to be reported. -/
theorem Inv.todo_none (h : Inv n m v u F H need free stk rep todo none) (ht : ∀ z, z < m → todo z = false) : Inv n m v u F H need free stk rep (fun _ => false) none := by
  refine ⟨h.lf0, h.cnt, h.zero, h.holds, h.root, fun z hz a b c => ?_, fun z hz a b => ?_, fun z hz hz' => (by cases hz'), h.ini, fun z hz => (by cases hz), h.stkf, h.nodup, h.soundF, h.soundH⟩
  · rcases h.leafd z hz a b c with e | e | e | e
    · exact .inl e
    · exact .inr (.inl e)
    · rw [ht z hz] at e; cases e
    · cases e
  · rcases b with b | b | b
    · exact h.nin z hz a (.inl b)
    · cases b
    · cases b

/-- AT THE END: the reduction's state is the least fixpoint. -/
theorem Inv.final (hl : Least n m v u act F H) (h : Inv n m v u F H need free [] rep (fun _ => false) none) (ha : ∀ p, p < n → act p = true → free p = true) (he : ∀ x, x < m → v x = -1 → need x = 0) :
    (∀ p, p < n → free p = F p) ∧ ∀ x, x < m → v x < 0 → (need x : Int) = if H x = true then 0 else (kk v x : Int) - cc u H x m := by
  have hc := hl.closed
  have hcl : Closed n m v u act free rep := by
    refine ⟨ha, h.root, fun x hx a b c => ?_, fun x hx hv hk => ?_⟩
    · rcases h.leafd x hx a b c with e | e | e | e
      · exact e
      · cases e
      · cases e
      · cases e
    · by_cases h0 : need x = 0
      · rcases h.ini x hx hv h0 with e | e
        · exact e
        · cases e
      · exfalso
        have h1 := h.cnt x hx hv (by omega)
        have h2 : kk v x ≠ 0 := fun e => h0 (he x hx (by unfold kk at e; omega))
        omega
  obtain ⟨l1, l2⟩ := hl.least free rep hcl
  have hrep : ∀ x, x < m → rep x = H x := fun x hx => by
    cases e : H x with
    | true => exact l2 x hx e
    | false =>
      cases e' : rep x with
      | false => rfl
      | true => have := h.rep_sound hc hx e'; rw [e] at this; cases this
  refine ⟨fun p hp => ?_, fun x hx hv => ?_⟩
  · cases e : F p with
    | true => exact l1 p hp e
    | false =>
      cases e' : free p with
      | false => rfl
      | true => have := h.soundF p hp e'; rw [e] at this; cases this
  · rw [← cc_congr u rep H x m hrep, ← hrep x hx]
    by_cases h0 : need x = 0
    · have : rep x = true := by
        rcases h.ini x hx hv h0 with e | e
        · exact e
        · cases e
      rw [if_pos this, h0]; rfl
    · have h1 := h.cnt x hx hv (by omega)
      have h2 : kk v x ≠ 0 := fun e => h0 (he x hx (by unfold kk at e; omega))
      have h3 : rep x = false := by
        cases e : rep x with
        | false => rfl
        | true => rcases h.holds x hx e with ⟨a, _⟩ | ⟨_, a⟩ <;> omega
      rw [h3, if_neg (by simp)]
      omega

/-- AT THE START: nothing is free, nothing has reported. -/
theorem Inv.start (h0 : ∀ x, x < m → need x = if 0 ≤ v x then 0 else max (kk v x) 1) : Inv n m v u F H need (fun _ => false) [] (fun _ => false) (fun _ => false) none := by
  have hcc : ∀ x t, cc u (fun _ => false) x t = 0 := fun x t => by
    induction t with
    | zero => rfl
    | succ t ih => rw [cc, ih]; simp
  refine ⟨fun x hx hv => by rw [h0 x hx, if_pos hv], fun x hx hv hn => ?_, fun x hx hv hn => ?_, fun z hz hr => (by cases hr), fun z hz hr => (by cases hr), fun z hz a b c => (by cases c), fun z hz a b => (by simp), fun z hz hz' => (by cases hz'), fun z hz a b => ?_, fun z hz => (by cases hz), fun q hq => (by cases hq), List.nodup_nil, fun p hp hf => (by cases hf), fun z hz a b => ?_⟩
  · rw [hcc, h0 x hx, if_neg (by omega)]; rfl
  · rw [h0 x hx, if_neg (by omega)] at hn; omega
  · rw [h0 z hz, if_neg (by omega)] at b; omega
  · rw [h0 z hz, if_neg (by omega)] at b; omega
end
end Go.Proofs.Qxb6603867a.Pl

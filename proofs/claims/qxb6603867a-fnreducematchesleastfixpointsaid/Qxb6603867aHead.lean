/- The plain law of one report: no Go in sight. -/
import Derived.Test.Qxb6603867aModel
namespace Go.Proofs.Qxb6603867a.Pl
set_option linter.unusedVariables false

/-- After a report. -/
structure Done (n m : Nat) (v u : Nat → Int) (F H : Nat → Bool) (todo : Nat → Bool) (E : Option Nat) (need0 : Nat → Nat) (free0 : Nat → Bool) (l0 : Nat) (need : Nat → Nat) (free : Nat → Bool) (stk : List Nat) (rep : Nat → Bool) : Prop where
  inv : Inv n m v u F H need free stk rep todo none
  fmono : ∀ p, free0 p = true → free p = true
  nmono : ∀ x, need0 x = 0 → need x = 0
  len : stk.length + tr free0 n = l0 + tr free n
  hit : ∀ x, E = some x → need x = 0

/-- In a report: tgt is to be told. -/
structure Head (n m : Nat) (v u : Nat → Int) (F H : Nat → Bool) (todo : Nat → Bool) (E : Option Nat) (need0 need : Nat → Nat) (free : Nat → Bool) (stk : List Nat) (rep : Nat → Bool) (tgt : Int) : Prop where
  nmono : ∀ x, need0 x = 0 → need x = 0
  kind : (∃ y, Inv n m v u F H need free stk rep todo (some y) ∧ tgt = u y ∧ ∀ x, E = some x → need x = 0) ∨ (∃ x, E = some x ∧ x < m ∧ v x = -1 ∧ tgt = x ∧ Inv n m v u F H need free stk rep todo none)

theorem tr_ins (f : Nat → Bool) (p : Nat) (hp : f p = false) : ∀ t, tr (ins f p) t = tr f t + if p < t then 1 else 0
  | 0 => rfl
  | t + 1 => by
    rw [tr, tr, tr_ins f p hp t]
    by_cases e : t = p
    · subst e; rw [ins_self, hp]; simp
    · rw [ins_ne f p t e]
      have : (p < t + 1) ↔ p < t := by omega
      simp only [this]; omega

/-- How many still count. -/
def nz (need : Nat → Nat) (m : Nat) : Nat := tr (fun x => decide (need x ≠ 0)) m

theorem nz_hit {need : Nat → Nat} {m z : Nat} (hz : z < m) (h : need z ≠ 0) : nz (setN need z 0) m < nz need m := by
  refine tr_lt _ _ z m (fun i _ hi => ?_) hz ?_ ?_
  · simp only [decide_eq_true_eq] at *
    by_cases e : i = z
    · rw [e]; exact h
    · rw [setN_ne _ _ _ _ e] at hi; exact hi
  · simp [setN_self]
  · simpa using h

section
variable {n m : Nat} {v u : Nat → Int} {act F H : Nat → Bool} {todo : Nat → Bool} {E : Option Nat} {need0 need : Nat → Nat} {free : Nat → Bool} {stk : List Nat} {rep : Nat → Bool} {tgt : Int}

theorem Inv.need_le {pend : Option Nat} (h : Inv n m v u F H need free stk rep todo pend) (hv : ∀ x, x < m → -2147483648 ≤ v x) (x : Nat) (hx : x < m) : need x ≤ 2147483647 := by
  by_cases c : 0 ≤ v x
  · rw [h.lf0 x hx c]; omega
  · by_cases d : need x = 0
    · omega
    · have := h.cnt x hx (by omega) (by omega)
      have h2 := hv x hx
      unfold kk at this
      omega

theorem Head.range (hd : Dom n m u) (h : Head n m v u F H todo E need0 need free stk rep tgt) : (0 ≤ tgt ∧ tgt < m) ∨ (tgt < 0 ∧ -1 - tgt < n) := by
  rcases h.kind with ⟨y, hi, rfl, _⟩ | ⟨x, _, hx, _, rfl, _⟩
  · exact hd y (hi.pendN y rfl).1
  · omega

theorem Head.need_le (h : Head n m v u F H todo E need0 need free stk rep tgt) (hv : ∀ x, x < m → -2147483648 ≤ v x) (x : Nat) (hx : x < m) : need x ≤ 2147483647 := by
  rcases h.kind with ⟨y, hi, rfl, _⟩ | ⟨x, _, _, _, rfl, hi⟩
  · exact hi.need_le hv x hx
  · exact hi.need_le hv _ hx

theorem Head.stop (h : Head n m v u F H todo E need0 need free stk rep tgt) (h0 : 0 ≤ tgt) (hz : need tgt.toNat = 0) : ∃ rep', Done n m v u F H todo E need0 free stk.length need free stk rep' := by
  rcases h.kind with ⟨y, hi, rfl, he⟩ | ⟨x, hE, hx, hv, rfl, hi⟩
  · exact ⟨_, hi.ignore h0 hz, fun _ a => a, h.nmono, by omega, he⟩
  · refine ⟨_, hi, fun _ a => a, h.nmono, by omega, fun z hz' => ?_⟩
    rw [hE] at hz'; cases hz'
    simpa using hz

theorem Head.dec (h : Head n m v u F H todo E need0 need free stk rep tgt) (h0 : 0 ≤ tgt) (z : Nat) (hz : tgt = (z : Int)) (hm : z < m) (h2 : 2 ≤ need z) (hc : Closed n m v u act F H) : ∃ rep', Done n m v u F H todo E need0 free stk.length (setN need z (need z - 1)) free stk rep' := by
  rcases h.kind with ⟨y, hi, hy, he⟩ | ⟨x, hE, hx, hv, hy, hi⟩
  · refine ⟨_, hi.dec z hm (by omega) h2, fun _ a => a, fun x hx => ?_, by omega, fun x hx => ?_⟩
    · have := h.nmono x hx
      rw [setN_ne _ _ _ _ (fun e => by subst e; omega)]; exact this
    · have := he x hx
      rw [setN_ne _ _ _ _ (fun e => by subst e; omega)]; exact this
  · obtain rfl : x = z := by omega
    have := (hi.empty hc x hx hv (by omega)).1
    omega

theorem Head.hit (h : Head n m v u F H todo E need0 need free stk rep tgt) (h0 : 0 ≤ tgt) (z : Nat) (hz : tgt = (z : Int)) (hm : z < m) (h2 : need z = 1) (hc : Closed n m v u act F H) : ∃ rep', Head n m v u F H todo E need0 (setN need z 0) free stk rep' (u z) := by
  have hmono : ∀ x, need x = 0 → setN need z 0 x = 0 := fun x hx => by unfold setN; split <;> simp_all
  rcases h.kind with ⟨y, hi, hy, he⟩ | ⟨x, hE, hx, hv, hy, hi⟩
  · exact ⟨_, fun x hx => hmono x (h.nmono x hx), .inl ⟨z, hi.hit hc z hm (by omega) h2, rfl, fun x hx => hmono x (he x hx)⟩⟩
  · obtain rfl : x = z := by omega
    refine ⟨_, fun x hx => hmono x (h.nmono x hx), .inl ⟨x, (hi.empty hc x hx hv (by omega)).2, rfl, fun x' hx' => ?_⟩⟩
    rw [hE] at hx'; cases hx'
    exact setN_self _ _ _

theorem Head.known (h : Head n m v u F H todo E need0 need free stk rep tgt) (h0 : tgt < 0) (p : Nat) (hp : -1 - tgt = (p : Int)) (hf : free p = true) : ∃ rep', Done n m v u F H todo E need0 free stk.length need free stk rep' := by
  rcases h.kind with ⟨y, hi, rfl, he⟩ | ⟨x, hE, hx, hv, rfl, hi⟩
  · exact ⟨_, hi.known h0 (by rw [hp]; exact hf), fun _ a => a, h.nmono, by omega, he⟩
  · omega

theorem Head.rel (hc : Closed n m v u act F H) (hd : Dom n m u) (h : Head n m v u F H todo E need0 need free stk rep tgt) (h0 : tgt < 0) (p : Nat) (hp : -1 - tgt = (p : Int)) (hf : free p = false) : ∃ rep', Done n m v u F H todo E need0 free stk.length need (ins free p) (stk ++ [p]) rep' := by
  have hr := h.range hd
  rcases h.kind with ⟨y, hi, rfl, he⟩ | ⟨x, hE, hx, hv, rfl, hi⟩
  · have e : (-1 - u y).toNat = p := by omega
    have := hi.release hc hd h0 (by rw [e]; exact hf)
    rw [e] at this
    refine ⟨_, this, fun q hq => ins_of _ _ _ hq, h.nmono, ?_, he⟩
    rw [tr_ins free p hf n, if_pos (by omega), List.length_append]
    simp; omega
  · omega

/-- A stack of processes, none twice, is not longer than there are processes. -/
theorem stk_le : ∀ (n : Nat) (s : List Nat), s.Nodup → (∀ p, p ∈ s → p < n) → s.length ≤ n
  | 0, s, _, h => by
    cases s with
    | nil => simp
    | cons a s => exact absurd (h a (by simp)) (by omega)
  | n + 1, s, hn, h => by
    by_cases c : n ∈ s
    · have h1 := stk_le n (s.erase n) (hn.erase n) (fun p hp => by
        have := h p (List.mem_of_mem_erase hp)
        have : p ≠ n := fun e => by subst e; exact (hn.not_mem_erase hp)
        omega)
      rw [List.length_erase_of_mem c] at h1
      omega
    · have := stk_le n s hn (fun p hp => by
        have := h p hp
        have : p ≠ n := fun e => c (e ▸ hp)
        omega)
      omega

theorem Inv.stk_le {pend : Option Nat} (h : Inv n m v u F H need free stk rep todo pend) : stk.length ≤ n :=
  Pl.stk_le n stk h.nodup (fun p hp => (h.stkf p hp).1)

theorem Head.stk_le (h : Head n m v u F H todo E need0 need free stk rep tgt) : stk.length ≤ n := by
  rcases h.kind with ⟨y, hi, _⟩ | ⟨x, _, _, _, _, hi⟩
  · exact hi.stk_le
  · exact hi.stk_le
end
end Go.Proofs.Qxb6603867a.Pl

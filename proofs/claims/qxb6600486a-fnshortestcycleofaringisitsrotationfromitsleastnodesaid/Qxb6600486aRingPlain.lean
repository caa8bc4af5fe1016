import Derived.Test.Qxb6600486aCycle
import Derived.Test.Qxb6600486aCsr
namespace Go.Proofs.Qxb6600486a
set_option linter.unusedVariables false
open Go.RowKit Csr

/-- Is v among z 0 .. z (t - 1)? -/
def mem (z : Nat → Int) (v : Int) : Nat → Bool
  | 0 => false
  | t + 1 => mem z v t || (z t == v)

theorem mem_true {z : Nat → Int} {v : Int} : ∀ {t}, mem z v t = true ↔ ∃ i, i < t ∧ z i = v
  | 0 => by simp [mem]
  | t + 1 => by
    rw [mem, Bool.or_eq_true, mem_true, beq_iff_eq]
    constructor
    · rintro (⟨i, h1, h2⟩ | h)
      · exact ⟨i, by omega, h2⟩
      · exact ⟨t, by omega, h⟩
    · rintro ⟨i, h1, h2⟩
      by_cases e : i = t
      · subst e; exact .inr h2
      · exact .inl ⟨i, by omega, h2⟩

theorem mem_false {z : Nat → Int} {v : Int} {t : Nat} : mem z v t = false ↔ ∀ i, i < t → z i ≠ v := by
  constructor
  · intro h i hi e
    have := mem_true.2 ⟨i, hi, e⟩
    rw [h] at this; cases this
  · intro h
    cases e : mem z v t with
    | false => rfl
    | true => obtain ⟨i, hi, he⟩ := mem_true.1 e; exact absurd he (h i hi)

theorem mem_step (z : Nat → Int) (t q j : Nat) (h : z t = (q : Int)) : (if j = q then (.bool true : Value) else .bool (mem z j t)) = .bool (mem z j (t + 1)) := by
  rw [mem]
  by_cases e : j = q
  · subst e; rw [if_pos rfl, h]; simp
  · rw [if_neg e, h]
    have : ((q : Int) == (j : Int)) = false := by rw [beq_eq_false_iff_ne]; omega
    rw [this]; simp

theorem inj_step {z : Nat → Int} {t : Nat} (h : ∀ i j, i < t → j < t → z i = z j → i = j) (hm : mem z (z t) t = false) : ∀ i j, i < t + 1 → j < t + 1 → z i = z j → i = j := by
  have hf := mem_false.1 hm
  intro i j hi hj e
  by_cases e1 : i = t
  · by_cases e2 : j = t
    · omega
    · subst e1; exact absurd e.symm (hf j (by omega))
  · by_cases e2 : j = t
    · subst e2; exact absurd e (hf i (by omega))
    · exact h i j (by omega) (by omega) e

/-- The edges' sources and ends, in their order. -/
def es (z x : Nat → Int) (l p t : Nat) : Int := if t < p then z (x (2 * t)).toNat else if t < p + l then z (t - p) else z (x (2 * (t - l))).toNat
def ed (z x : Nat → Int) (l p t : Nat) : Int := if t < p then x (2 * t + 1) else if t < p + l then z ((t - p + 1) % l) else x (2 * (t - l) + 1)
def ef (z x : Nat → Int) (l p e : Nat) : Int := if e % 2 = 0 then es z x l p (e / 2) else ed z x l p (e / 2)

theorem ef_even (z x : Nat → Int) (l p t : Nat) : ef z x l p (2 * t) = es z x l p t := by
  unfold ef; rw [if_pos (by omega), show 2 * t / 2 = t by omega]
theorem ef_odd (z x : Nat → Int) (l p t : Nat) : ef z x l p (2 * t + 1) = ed z x l p t := by
  unfold ef; rw [if_neg (by omega), show (2 * t + 1) / 2 = t by omega]

/-- What the law's tests leave. -/
structure Good (n l m p : Nat) (z x : Nat → Int) : Prop where
  two : 2 ≤ l
  small : l ≤ 4096
  ms : m ≤ 4096
  pm : p ≤ m
  rng : ∀ i, i < l → 0 ≤ z i ∧ z i < n
  inj : ∀ i j, i < l → j < l → z i = z j → i = j
  ix : ∀ j, j < m → 0 ≤ x (2 * j) ∧ x (2 * j) < l
  off : ∀ j, j < m → 0 ≤ x (2 * j + 1) ∧ x (2 * j + 1) < n ∧ ∀ i, i < l → z i ≠ x (2 * j + 1)

theorem Good.es_rng {n l m p : Nat} {z x : Nat → Int} (h : Good n l m p z x) (t : Nat) (ht : t < l + m) : 0 ≤ es z x l p t ∧ es z x l p t < n := by
  have hp := h.pm
  unfold es
  by_cases h1 : t < p
  · rw [if_pos h1]; have := h.ix t (by omega); exact h.rng _ (by omega)
  · rw [if_neg h1]
    by_cases h2 : t < p + l
    · rw [if_pos h2]; exact h.rng _ (by omega)
    · rw [if_neg h2]; have := h.ix (t - l) (by omega); exact h.rng _ (by omega)

/-- comp: the ring's nodes in increasing order. -/
structure Comp (l mc : Nat) (z c : Nat → Int) : Prop where
  sorted : ∀ i j, i < j → j < mc → c i < c j
  on : ∀ i, i < mc → ∃ k, k < l ∧ z k = c i
  all : ∀ k, k < l → ∃ i, i < mc ∧ c i = z k

/-- comp after the nodes below t. -/
structure CompTo (l k t : Nat) (z c : Nat → Int) : Prop where
  sorted : ∀ i j, i < j → j < k → c i < c j
  on : ∀ i, i < k → c i < t ∧ mem z (c i) l = true
  all : ∀ v : Nat, v < t → mem z v l = true → ∃ i, i < k ∧ c i = v

theorem CompTo.zero (l : Nat) (z c : Nat → Int) : CompTo l 0 0 z c := ⟨fun i j _ h => by omega, fun i h => by omega, fun v h => by omega⟩

theorem CompTo.skip {l k t : Nat} {z c : Nat → Int} (h : CompTo l k t z c) (hm : mem z (t : Int) l = false) : CompTo l k (t + 1) z c :=
  ⟨h.sorted, fun i hi => ⟨by have := (h.on i hi).1; omega, (h.on i hi).2⟩, fun v hv hmv => by
    by_cases e : v = t
    · subst e; rw [hm] at hmv; cases hmv
    · exact h.all v (by omega) hmv⟩

theorem CompTo.add {l k t : Nat} {z c : Nat → Int} (h : CompTo l k t z c) (hm : mem z (t : Int) l = true) : CompTo l (k + 1) (t + 1) z (fun i => if i = k then (t : Int) else c i) := by
  refine ⟨fun i j hij hj => ?_, fun i hi => ?_, fun v hv hmv => ?_⟩
  · by_cases e : j = k
    · subst e; rw [if_neg (by omega), if_pos rfl]; exact (h.on i hij).1
    · rw [if_neg (by omega), if_neg e]; exact h.sorted i j hij (by omega)
  · by_cases e : i = k
    · simp only [if_pos e]; exact ⟨by omega, hm⟩
    · simp only [if_neg e]; have := h.on i (by omega); exact ⟨by omega, this.2⟩
  · by_cases e : v = t
    · subst e; exact ⟨k, by omega, if_pos rfl⟩
    · obtain ⟨i, hi, hci⟩ := h.all v (by omega) hmv
      exact ⟨i, by omega, by rw [if_neg (by omega)]; exact hci⟩

theorem CompTo.comp {n l m p k : Nat} {z x c : Nat → Int} (hg : Good n l m p z x) (h : CompTo l k n z c) : Comp l k z c :=
  ⟨h.sorted, fun i hi => mem_true.1 (h.on i hi).2, fun j hj => by
    have hr := hg.rng j hj
    obtain ⟨q, hq⟩ := Int.eq_ofNat_of_zero_le hr.1
    obtain ⟨i, hi, hci⟩ := h.all q (by omega) (mem_true.2 ⟨j, hj, hq⟩)
    exact ⟨i, hi, by rw [hci, hq]⟩⟩

def node (z : Nat → Int) (l s k : Nat) : Nat := (z ((s + k) % l)).toNat

theorem node_eq {n l m p : Nat} {z x : Nat → Int} (h : Good n l m p z x) (s k : Nat) : z ((s + k) % l) = (node z l s k : Int) := by
  have := h.rng ((s + k) % l) (Nat.mod_lt _ (by have := h.two; omega)); unfold node; omega

theorem ring_of {n l m p mc s : Nat} {z x c sf : Nat → Int} (h : Good n l m p z x) (hc : Comp l mc z c) (hs : s < l) (hs0 : z s = c 0)
    (hl : Laid (fun t => (es z x l p t).toNat) (ed z x l p) (l + m) (l + m) sf) :
    Ring n (l + m) mc l (fun v => fs (fun t => (es z x l p t).toNat) v (l + m)) sf c (node z l s) := by
  have h2 := h.two
  have hp := h.pm
  have hpos : 0 < l := by omega
  have hmod : ∀ k, (s + k) % l < l := fun k => Nat.mod_lt _ hpos
  have hz : ∀ k, z ((s + k) % l) = (node z l s k : Int) := fun k => by have := h.rng _ (hmod k); unfold node; omega
  have hm0 : 0 < mc := by obtain ⟨i, hi, _⟩ := hc.all 0 (by omega); omega
  have hnext : ∀ k, ((s + k) % l + 1) % l = (s + (k + 1)) % l := fun k => by rw [Nat.mod_add_mod, Nat.add_assoc]
  have hoff : ∀ j, j < m → ∀ i, i < mc → c i ≠ x (2 * j + 1) := fun j hj i hi e => by
    obtain ⟨k, hk, hzk⟩ := hc.on i hi
    exact (h.off j hj).2.2 k hk (hzk.trans e)
  refine ⟨h2, by have := h.small; omega, ?_, fun k hk => ?_, fun j k hj hk e => ?_, fun v hv => ⟨fs_mono _ _ (by omega), fs_le _ _ _⟩, fun k hk e he1 he2 => ?_, fun k hk => ?_, fun k hk => ?_, ?_, hm0, hc.sorted⟩
  · unfold node; rw [Nat.add_mod_right, Nat.add_zero]
  · have := h.rng _ (hmod k); unfold node; omega
  · have e1 : z ((s + j) % l) = z ((s + k) % l) := by rw [hz, hz, e]
    have e2 := h.inj _ _ (hmod j) (hmod k) e1
    -- j and k are both below l
    have q : ∀ a, a < l → (s + a) % l = if s + a < l then s + a else s + a - l := fun a ha => by
      by_cases c1 : s + a < l
      · rw [if_pos c1, Nat.mod_eq_of_lt c1]
      · rw [if_neg c1, Nat.mod_eq_sub_mod (by omega), Nat.mod_eq_of_lt (by omega)]
    rw [q j hj, q k hk] at e2
    split at e2 <;> split at e2 <;> omega
  · rw [fs_succ] at he2
    obtain ⟨t, ht, hsrc, hst⟩ := hl.only (node z l s k) e he1 he2
    rw [hst]
    unfold ed
    by_cases c1 : t < p
    · rw [if_pos c1]; exact .inr (hoff t (by omega))
    · rw [if_neg c1]
      by_cases c2 : t < p + l
      · rw [if_pos c2]
        left
        have e1 : z (t - p) = z ((s + k) % l) := by
          have hr := h.rng (t - p) (by omega)
          have : es z x l p t = z (t - p) := by unfold es; rw [if_neg c1, if_pos c2]
          rw [hz, ← hsrc, this]; omega
        have e2 := h.inj _ _ (by omega) (hmod k) e1
        rw [e2, hnext, hz]
      · rw [if_neg c2]; exact .inr (hoff (t - l) (by omega))
  · have hi := hmod k
    have c1 : ¬ p + (s + k) % l < p := by omega
    have c2 : p + (s + k) % l < p + l := by omega
    have hsrc : (es z x l p (p + (s + k) % l)).toNat = node z l s k := by
      unfold es node; rw [if_neg c1, if_pos c2, Nat.add_sub_cancel_left]
    obtain ⟨e, a1, a2, a3⟩ := hl.all (p + (s + k) % l) (by omega)
    simp only [hsrc] at a1 a2
    refine ⟨e, a1, by rw [fs_succ]; exact a2, ?_⟩
    rw [a3]
    unfold ed
    rw [if_neg c1, if_pos c2, Nat.add_sub_cancel_left, hnext, hz]
  · obtain ⟨i, hi, hci⟩ := hc.all _ (hmod k)
    exact ⟨i, hi, by rw [hci, hz]⟩
  · rw [← hs0, ← hz 0, Nat.add_zero, Nat.mod_eq_of_lt hs]

end Go.Proofs.Qxb6600486a

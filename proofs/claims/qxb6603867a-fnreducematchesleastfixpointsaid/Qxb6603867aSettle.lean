import Derived.Test.Qxb6603867aSat
namespace Go.Proofs.Qxb6603867a
set_option linter.unusedVariables false
open Go.RowKit

/-- The lists by process: the leaf y stands at pl y. -/
structure Idx (n m tot : Nat) (v u nm : Nat → Int) (at_ pl : Nat → Nat) : Prop where
  le : ∀ p, p < n → at_ p ≤ at_ (p + 1)
  upto : ∀ p, p ≤ n → at_ p ≤ tot
  small : tot ≤ m
  in_ : ∀ y, y < m → 0 ≤ v y → v y < n → at_ (v y).toNat ≤ pl y ∧ pl y < at_ ((v y).toNat + 1)
  on : ∀ p e, p < n → at_ p ≤ e → e < at_ (p + 1) → ∃ y, y < m ∧ v y = (p : Int) ∧ pl y = e ∧ nm e = u y
  inj : ∀ y z, y < m → z < m → v y = v z → pl y = pl z → y = z

/-- The leaves that name p and stand at e or behind. -/
def td (v : Nat → Int) (pl : Nat → Nat) (p e y : Nat) : Bool := decide (0 ≤ v y ∧ (v y).toNat = p ∧ e ≤ pl y)

section
variable {B Rb Sb nb eb db ab fb n m tot : Nat} {v u nm : Nat → Int} {at_ pl : Nat → Nat} {W : World} {act F H : Nat → Bool}

theorem td_start (hi : Idx n m tot v u nm at_ pl) {p : Nat} (hp : p < n) (z : Nat) (hz : z < m) : td v pl p (at_ p) z = true ↔ 0 ≤ v z ∧ (v z).toNat = p := by
  unfold td
  rw [decide_eq_true_iff]
  constructor
  · rintro ⟨a, b, _⟩; exact ⟨a, b⟩
  · rintro ⟨a, b⟩
    refine ⟨a, b, ?_⟩
    have := (hi.in_ z hz a (by omega)).1
    rwa [b] at this

theorem td_end (hi : Idx n m tot v u nm at_ pl) {p : Nat} (hp : p < n) (z : Nat) (hz : z < m) : td v pl p (at_ (p + 1)) z = false := by
  unfold td
  rw [decide_eq_false_iff_not]
  rintro ⟨a, b, c⟩
  have := (hi.in_ z hz a (by omega)).2
  rw [b] at this; omega

/-- One more leaf is to report. -/
theorem take_head (hi : Idx n m tot v u nm at_ pl) {p e : Nat} (hp : p < n) (h1 : at_ p ≤ e) (h2 : e < at_ (p + 1)) {need : Nat → Nat} {free : Nat → Bool} {stk : List Nat} {rep : Nat → Bool}
    (h : Pl.Inv n m v u F H need free stk rep (td v pl p e) none) : Pl.Head n m v u F H (td v pl p (e + 1)) none need need free stk rep (nm e) := by
  obtain ⟨y, hy, hv, he, hu⟩ := hi.on p e hp h1 h2
  refine ⟨fun x hx => hx, .inl ⟨y, h.take hy ?_ _ ?_ (fun z hz hne => ?_), hu, fun x hx => (by cases hx)⟩⟩
  · unfold td; rw [decide_eq_true_iff]; exact ⟨by omega, by omega, by omega⟩
  · unfold td; rw [decide_eq_false_iff_not]; omega
  · unfold td
    rw [decide_eq_decide]
    constructor
    · rintro ⟨a, b, c⟩; exact ⟨a, b, by omega⟩
    · rintro ⟨a, b, c⟩
      refine ⟨a, b, ?_⟩
      by_cases e' : pl z = e
      · exact absurd (hi.inj z y hz hy (by omega) (by omega)) hne
      · omega

/-- The state between two reports of 'settle'. -/
structure Set1 (n m : Nat) (v u : Nat → Int) (F H : Nat → Bool) (todo : Nat → Bool) (need0 : Nat → Nat) (free0 : Nat → Bool) (gk : Nat) (need : Nat → Nat) (free : Nat → Bool) (stk : List Nat) (rep : Nat → Bool) : Prop where
  inv : Pl.Inv n m v u F H need free stk rep todo none
  fmono : ∀ p, free0 p = true → free p = true
  nmono : ∀ x, need0 x = 0 → need x = 0
  meas : gk = stk.length + (n - Pl.tr free n)

theorem Set1.told {todo : Nat → Bool} {need0 : Nat → Nat} {free0 : Nat → Bool} {gk : Nat} {need need' : Nat → Nat} {free free' : Nat → Bool} {stk stk' : List Nat} {rep rep' : Nat → Bool} {todo' : Nat → Bool}
    (h : Set1 n m v u F H todo need0 free0 gk need free stk rep) (hd : Pl.Done n m v u F H todo' none need free stk.length need' free' stk' rep') : Set1 n m v u F H todo' need0 free0 gk need' free' stk' rep' := by
  refine ⟨hd.inv, fun p hp => hd.fmono p (h.fmono p hp), fun x hx => hd.nmono x (h.nmono x hx), ?_⟩
  have h1 := h.meas
  have h2 := hd.len
  have h3 := Pl.tr_le free n
  have h4 := Pl.tr_le free' n
  omega

theorem Set1.pop {need0 : Nat → Nat} {free0 : Nat → Bool} {gk : Nat} {need : Nat → Nat} {free : Nat → Bool} {s : List Nat} {p : Nat} {rep : Nat → Bool} (h : Set1 n m v u F H (fun _ => false) need0 free0 gk need free (s ++ [p]) rep) (hi : Idx n m tot v u nm at_ pl) (hp : p < n) :
    Set1 n m v u F H (td v pl p (at_ p)) need0 free0 (gk - 1) need free s rep ∧ 0 < gk := by
  have h1 := h.meas
  rw [List.length_append] at h1
  simp at h1
  exact ⟨⟨h.inv.pop _ (fun z hz => td_start hi hp z hz), h.fmono, h.nmono, by omega⟩, by omega⟩

theorem Set1.over' {need0 : Nat → Nat} {free0 : Nat → Bool} {gk : Nat} {need : Nat → Nat} {free : Nat → Bool} {s : List Nat} {p e : Nat} {rep : Nat → Bool} (h : Set1 n m v u F H (td v pl p e) need0 free0 gk need free s rep) (hi : Idx n m tot v u nm at_ pl) (hp : p < n) (he : at_ (p + 1) ≤ e) :
    Set1 n m v u F H (fun _ => false) need0 free0 gk need free s rep := by
  refine ⟨h.inv.todo_none (fun z hz => ?_), h.fmono, h.nmono, h.meas⟩
  have := td_end hi hp z hz
  unfold td at *
  rw [decide_eq_false_iff_not] at *
  rintro ⟨a, b, c⟩
  exact this ⟨a, b, by omega⟩

theorem Set1.over {need0 : Nat → Nat} {free0 : Nat → Bool} {gk : Nat} {need : Nat → Nat} {free : Nat → Bool} {s : List Nat} {p : Nat} {rep : Nat → Bool} (h : Set1 n m v u F H (td v pl p (at_ p)) need0 free0 gk need free s rep) (hi : Idx n m tot v u nm at_ pl) (hp : p < n) (he : at_ p = at_ (p + 1)) :
    Set1 n m v u F H (fun _ => false) need0 free0 gk need free s rep := h.over' hi hp (by omega)

theorem St.pop {need : Nat → Nat} {free : Nat → Bool} {s : List Nat} {p g cap : Nat} {w : World} (hap : Apart B Rb eb fb) (h : St B Rb Sb eb db ab fb n m tot W need free (s ++ [p]) w) (hown : w.ownsRow B 21 1 (.slice (some ⟨g, 0, none⟩) (s ++ [p]).length cap) (s ++ [p]).length (ints (s ++ [p]))) :
    St B Rb Sb eb db ab fb n m tot W need free s (w.setCell ⟨Rb, 5, none⟩ (.slice (some ⟨g, 0, none⟩) s.length cap)) := by
  obtain ⟨ha1, ha2, ha3, ha4, ha5, ha6⟩ := hap
  obtain ⟨a0, cap0, hr, ho⟩ := h.red
  rw [ints_snoc, List.length_append] at hown
  have hp := ownsRow_pop (xs := ints s) (by simp [ints]) hown
  exact ⟨h.keep.setCell _ (.inr (.inl rfl)) _, ⟨_, cap, hr.setStk _, ownsRow_setCell_below hp (a := ⟨Rb, 5, none⟩) ha1 _⟩, h.need.setOther (by simpa using Ne.symm ha4) _, h.free.setOther (by simpa using Ne.symm ha5) _, by simp; exact h.size⟩

theorem St.drew {need : Nat → Nat} {free : Nat → Bool} {s : List Nat} {w : World} (h : St B Rb Sb eb db ab fb n m tot W need free s w) : St B Rb Sb eb db ab fb n m tot W need free s w.drew := ⟨h.keep.drew, h.red, h.need, h.free, h.size⟩
theorem St.drewN {need : Nat → Nat} {free : Nat → Bool} {s : List Nat} {w : World} (h : St B Rb Sb eb db ab fb n m tot W need free s w) (k : Nat) : St B Rb Sb eb db ab fb n m tot W need free s (w.drewN k) := ⟨h.keep.drewN k, h.red, h.need, h.free, h.size⟩

/-- What 'settle' leaves. -/
def Settled (B Rb Sb eb db ab fb n m tot : Nat) (v u : Nat → Int) (F H : Nat → Bool) (W : World) (need0 : Nat → Nat) (free0 : Nat → Bool) (w : World) : Prop :=
  ∃ need free rep, Pl.Inv n m v u F H need free [] rep (fun _ => false) none ∧ (∀ p, free0 p = true → free p = true) ∧ (∀ x, need0 x = 0 → need x = 0) ∧ St B Rb Sb eb db ab fb n m tot W need free [] w

set_option maxRecDepth 100000 in
set_option maxHeartbeats 3200000 in
theorem settle_any (henv : Env B Rb Sb nb eb db ab fb n m tot u nm at_ W) (hidx : Idx n m tot v u nm at_ pl) (hc : Pl.Closed n m v u act F H) (hd : Pl.Dom n m u) (hn : n ≤ 1048576) (hm : m ≤ 1048576) (hv : I32 m v)
    (need : Nat → Nat) (free : Nat → Bool) (stk : List Nat) (rep : Nat → Bool) (w : World)
    (hinv : Pl.Inv n m v u F H need free stk rep (fun _ => false) none) (hst : St B Rb Sb eb db ab fb n m tot W need free stk w) :
    Calls Try.prog 36 #[.pointer (some ⟨Rb, 0, none⟩)] w fun e w' => e = .returned (.tuple #[]) ∧ Settled B Rb Sb eb db ab fb n m tot v u F H W need free w' := by
  have hap := henv.apart
  obtain ⟨ha1, ha2, ha3, ha4, ha5, ha6⟩ := henv.apart
  obtain ⟨hd1, hd2, hd3, hd4⟩ := henv.db
  obtain ⟨hb1, hb2, hb3, hb4⟩ := henv.ab
  go_enter Try.func36, Try.ntmps36
  go_wp2_with fail
  go_loopg [] (stk.length + (n - Pl.tr free n)) (fun gk wr => ∃ (need' : Nat → Nat) (free' : Nat → Bool) (stk' : List Nat) (rep' : Nat → Bool), Set1 n m v u F H (fun _ => false) need free gk need' free' stk' rep' ∧ St B Rb Sb eb db ab fb n m tot W need' free' stk' wr)
  case atStart => exact ⟨need, free, stk, rep, ⟨hinv, fun _ h => h, fun _ h => h, rfl⟩, hst⟩
  case round =>
    clear hinv hst
    obtain ⟨need', free', stk', rep', hset, hst⟩ := hrel
    obtain ⟨a, cap, hred, hown⟩ := hst.red
    rcases List.eq_nil_or_concat stk' with rfl | ⟨s, p, rfl⟩
    · have c5 : wr.cell? ⟨Rb, 5, none⟩ = some (.slice a 0 cap) := hred.c5
      have HS := hide hst
      clear hred hown hst
      go_wp2_with fail
      go_end0
      exact ⟨rfl, need', free', rep', hset.inv, hset.fmono, hset.nmono, unhide HS⟩
    · rw [List.concat_eq_append] at *
      obtain ⟨g, cap', hv', hg1, hg2⟩ := hown.form (by simp)
      cases hv'
      have hlen : (s ++ [p]).length = s.length + 1 := by simp
      have c5 : wr.cell? ⟨Rb, 5, none⟩ = some (.slice (some ⟨g, 0, none⟩) (s.length + 1) cap) := by rw [hred.c5, hlen]
      have c2 : wr.cell? ⟨Rb, 2, none⟩ = some (.slice (some ⟨db, 0, none⟩) tot tot) := by simp [World.cell?, show wr.heap[Rb]? = _ from hred]
      have c3 : wr.cell? ⟨Rb, 3, none⟩ = some (.slice (some ⟨ab, 0, none⟩) (n + 1) (n + 1)) := by simp [World.cell?, show wr.heap[Rb]? = _ from hred]
      have f5 := hred.fz 5
      have cg : wr.cell? ⟨g, s.length, none⟩ = some (.int .i32 p) := by
        have := hown.cellAt s.length (by simp)
        rw [this]; simp [ints]
      have hsl := hset.inv.stk_le
      obtain ⟨hpn, hpf⟩ := hset.inv.stkf p (by simp)
      have ca1 := (hst.keep.cell (p := ⟨ab, p, none⟩) hb1 hb2 hb3 hb4).trans (henv.namedAt.cell (i := p) (by omega))
      have ca2 := (hst.keep.cell (p := ⟨ab, p + 1, none⟩) hb1 hb2 hb3 hb4).trans (henv.namedAt.cell (i := p + 1) (by omega))
      have hcap : s.length + 1 ≤ cap := by
        rcases hown.2 with ⟨h0, _⟩ | ⟨g', cap', cur, hvv, _, _, hle, _⟩
        · cases h0
        · cases hvv; simpa using hle
      have hne : (⟨Rb, 5, none⟩ : Addr) ≠ ⟨g, s.length, none⟩ := by simp; first | done | omega
      have hle := hidx.le p hpn
      have ht1 := hidx.upto p (by omega)
      have ht2 := hidx.upto (p + 1) (by omega)
      have hsm := hidx.small
      have HS : Hid (∀ k, St B Rb Sb eb db ab fb n m tot W need' free' s ((wr.drewN k).setCell ⟨Rb, 5, none⟩ (.slice (some ⟨g, 0, none⟩) s.length cap))) := fun k => St.pop hap (hst.drewN k) hown
      have HI := hide hset
      have hw1 : IntKind.i64.wrap (s.length : Int) = (s.length : Int) := by
        rw [List.length_append] at hsl
        rw [IntKind.wrap_i64]; omega
      have g1 : (0 : Int) ≤ (s.length : Int) := by omega
      have g2 : (s.length : Int) < (s.length : Int) + 1 := by omega
      have g4 : (0 : Int) ≤ (p : Int) := by omega
      have g5 : (p : Int) < (n : Int) + 1 := by omega
      have g6 : (p : Int) + 1 < (n : Int) + 1 := by omega
      have g7 : (0 : Int) ≤ (p : Int) + 1 := by omega
      clear hred hown hst hset hlen
      go_wp2_with fail
      go_quiet (fail)
      go_wp2_with fail
      go_region
      all_goals
        go_wp2_with fail
        generalize hW : (wr.drewN _).setCell _ _ = wz
        have hst2 : St B Rb Sb eb db ab fb n m tot W need' free' s wz := hW ▸ unhide HS _
        clear HS hW c5 c2 c3 f5 cg ca1 ca2 hw1 g1 g2
        obtain ⟨a2, cap2, hred2, _⟩ := hst2.red
        have c2 : wz.cell? ⟨Rb, 2, none⟩ = some (.slice (some ⟨db, 0, none⟩) tot tot) := by simp [World.cell?, show wz.heap[Rb]? = _ from hred2]
        have c3 : wz.cell? ⟨Rb, 3, none⟩ = some (.slice (some ⟨ab, 0, none⟩) (n + 1) (n + 1)) := by simp [World.cell?, show wz.heap[Rb]? = _ from hred2]
        have ca1 := (hst2.keep.cell (p := ⟨ab, p, none⟩) hb1 hb2 hb3 hb4).trans (henv.namedAt.cell (i := p) (by omega))
        have ca2 := (hst2.keep.cell (p := ⟨ab, p + 1, none⟩) hb1 hb2 hb3 hb4).trans (henv.namedAt.cell (i := p + 1) (by omega))
        have HS := hide hst2
        clear hst2 hred2
        have hw1 : IntKind.i32.wrap ((p : Int) + 1) = (p : Int) + 1 := by rw [IntKind.wrap_i32]; omega
        have hw2 : ((p : Int) + 1).toNat = p + 1 := by omega
        generalize hA : at_ p = A at ca1 hle ht1
        generalize hA2 : at_ (p + 1) = A2 at ca2 hle ht2
        have HA := hide hA
        have HA2 := hide hA2
        clear hA hA2
        have i1 : (0 : Int) ≤ (A : Int) := by omega
        have i2 : (A : Int) ≤ (A2 : Int) := by omega
        have i3 : (A2 : Int) ≤ (tot : Int) := by omega
        by_cases hemp : A = A2
        · have hset2 := (unhide HI).pop hidx hpn
          have hset3 := hset2.1.over hidx hpn (by rw [unhide HA, unhide HA2]; exact hemp)
          have hgk := hset2.2
          subst hemp
          go_quiet (fail)
          go_wp2_with fail
          all_goals
            refine wp_loop_rounds 1 ?_
            rw [rounds_succ]
            go_wp2_with fail
            go_roundg (gk - 1)
            case measure => omega
            case rel => exact ⟨need', free', s, rep', hset3, (unhide HS).drewN _⟩
        · have i4 : A < A2 := by omega
          go_quiet (fail)
          go_wp2_with fail
          go_loopg [58] (A2 - A) (fun g s58 wx => ∃ (i : Nat) (need2 : Nat → Nat) (free2 : Nat → Bool) (stk2 : List Nat) (rep2 : Nat → Bool), g = A2 - A - i ∧ i ≤ A2 - A ∧ s58 = .int .i64 i ∧ Set1 n m v u F H (td v pl p (A + i)) need free (gk - 1) need2 free2 stk2 rep2 ∧ St B Rb Sb eb db ab fb n m tot W need2 free2 stk2 wx)
          case atStart => exact ⟨0, need', free', s, rep', rfl, Nat.zero_le _, rfl, by have := ((unhide HI).pop hidx hpn).1; rw [unhide HA] at this; exact this, (unhide HS).drewN _⟩
          case round =>
            obtain ⟨i, need2, free2, stk2, rep2, rfl, hi, rfl, hset, hst⟩ := hrel
            by_cases hlt : i < A2 - A
            · have cd := (hst.keep.cell (p := ⟨db, A + i, none⟩) hd1 hd2 hd3 hd4).trans (henv.named.cell (i := A + i) (by omega))
              have HS2 := hide hst
              have HI2 := hide hset
              clear hst hset
              have hhd := take_head hidx hpn (e := A + i) (by rw [unhide HA]; omega) (by rw [unhide HA2]; omega) (unhide HI2).inv
              go_wp2_with fail
              refine (satisfy_any henv hc hd hn hm hv _ none need2 free2 stk2 rep2 (nm (A + i)) _ hhd (unhide HS2)).mono ?_
              rintro e w3 ⟨rfl, need3, free3, stk3, rep3, hdone, hst3⟩
              have HS3 := hide hst3
              have HD := hide hdone
              clear hst3 hdone hhd
              go_wp2_with fail
              go_roundg (A2 - A - (i + 1))
              case measure => omega
              case rel => exact ⟨i + 1, need3, free3, stk3, rep3, rfl, by omega, by go_num, (unhide HI2).told (unhide HD), unhide HS3⟩
            · have hset3 := hset.over' hidx hpn (by rw [unhide HA2]; omega)
              have hgk := ((unhide HI).pop hidx hpn).2
              have HS2 := hide hst
              clear hst
              go_wp2_with fail
              go_roundg (gk - 1)
              case measure => omega
              case rel => exact ⟨need2, free2, stk2, rep2, hset3, unhide HS2⟩
end
end Go.Proofs.Qxb6603867a

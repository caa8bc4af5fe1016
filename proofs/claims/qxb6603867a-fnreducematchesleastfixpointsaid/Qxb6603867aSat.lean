import Derived.Test.Qxb6603867aRel
import Derived.Test.Qxb6603867aHead
namespace Go.Proofs.Qxb6603867a
set_option linter.unusedVariables false
open Go.RowKit

/-- What the reduction reads and never writes, in the world W. -/
structure Env (B Rb Sb nb eb db ab fb n m tot : Nat) (u nm : Nat → Int) (at_ : Nat → Nat) (W : World) : Prop where
  apart : Apart B Rb eb fb
  snap : W.cell? ⟨Sb, 4, none⟩ = some (.slice (some ⟨nb, 0, none⟩) m m)
  ups : ∀ x, x < m → W.cell? ⟨nb, x * 2 + 1, none⟩ = some (.int .i32 (u x))
  named : W.rowIs db 21 tot (fun e => .int .i32 (nm e))
  namedAt : W.rowIs ab 21 (n + 1) (fun p => .int .i32 (at_ p : Nat))
  sb : Sb < B ∧ Sb ≠ Rb ∧ Sb ≠ eb ∧ Sb ≠ fb
  nb : nb < B ∧ nb ≠ Rb ∧ nb ≠ eb ∧ nb ≠ fb
  db : db < B ∧ db ≠ Rb ∧ db ≠ eb ∧ db ≠ fb
  ab : ab < B ∧ ab ≠ Rb ∧ ab ≠ eb ∧ ab ≠ fb

section
variable {B Rb Sb nb eb db ab fb n m tot : Nat} {v u nm : Nat → Int} {at_ : Nat → Nat} {W : World} {act F H : Nat → Bool}

theorem St.setNeed {need : Nat → Nat} {free : Nat → Bool} {stk : List Nat} {w : World} (hap : Apart B Rb eb fb) (h : St B Rb Sb eb db ab fb n m tot W need free stk w) (z k : Nat) : St B Rb Sb eb db ab fb n m tot W (Pl.setN need z k) free stk (w.setCell ⟨eb, z, none⟩ (.int .i32 (k : Nat))) := by
  obtain ⟨ha1, ha2, ha3, ha4, ha5, ha6⟩ := hap
  obtain ⟨a, cap, hr, ho⟩ := h.red
  refine ⟨h.keep.setCell _ (.inr (.inr (.inl rfl))) _, ⟨a, cap, hr.of_block (Below.heap_setCell _ _ _ _ (by simpa using ha4)), ownsRow_setCell_below ho (a := ⟨eb, z, none⟩) ha2 _⟩, (h.need.set z _).congr (fun j hj => ?_), h.free.setOther (by simpa using Ne.symm ha6) _, ?_⟩
  · unfold Pl.setN; split <;> rfl
  · simp; exact h.size

/-- What a report leaves. -/
def Told (B Rb Sb eb db ab fb n m tot : Nat) (v u : Nat → Int) (F H : Nat → Bool) (W : World) (todo : Nat → Bool) (E : Option Nat) (need0 : Nat → Nat) (free0 : Nat → Bool) (l0 : Nat) (w : World) : Prop :=
  ∃ need free stk rep, Pl.Done n m v u F H todo E need0 free0 l0 need free stk rep ∧ St B Rb Sb eb db ab fb n m tot W need free stk w

set_option maxRecDepth 100000 in
set_option maxHeartbeats 1600000 in
theorem satisfy_any (henv : Env B Rb Sb nb eb db ab fb n m tot u nm at_ W) (hc : Pl.Closed n m v u act F H) (hd : Pl.Dom n m u) (hn : n ≤ 1048576) (hm : m ≤ 1048576) (hv : I32 m v) (todo : Nat → Bool) (E : Option Nat)
    (need : Nat → Nat) (free : Nat → Bool) (stk : List Nat) (rep : Nat → Bool) (tgt : Int) (w : World)
    (hh : Pl.Head n m v u F H todo E need need free stk rep tgt) (hst : St B Rb Sb eb db ab fb n m tot W need free stk w) :
    Calls Try.prog 35 #[.pointer (some ⟨Rb, 0, none⟩), .int .i32 tgt] w fun e w' => e = .returned (.tuple #[]) ∧ Told B Rb Sb eb db ab fb n m tot v u F H W todo E need free stk.length w' := by
  have hap := henv.apart
  obtain ⟨ha1, ha2, ha3, ha4, ha5, ha6⟩ := henv.apart
  obtain ⟨hs1, hs2, hs3, hs4⟩ := henv.sb
  obtain ⟨hn1, hn2, hn3, hn4⟩ := henv.nb
  have HV : Hid (∀ x, x < m → -2147483648 ≤ v x) := fun x hx => (hv x hx).1
  clear hv
  go_enter Try.func35, Try.ntmps35
  go_wp2_with fail
  go_loopg [1] (Pl.nz need m) (fun gk s1 wr => ∃ (need' : Nat → Nat) (rep' : Nat → Bool) (t : Int), gk = Pl.nz need' m ∧ s1 = .int .i32 t ∧ Pl.Head n m v u F H todo E need need' free stk rep' t ∧ St B Rb Sb eb db ab fb n m tot W need' free stk wr)
  case atStart => exact ⟨need, rep, tgt, rfl, rfl, hh, hst⟩
  case round =>
    clear hh hst
    obtain ⟨need', rep', t, rfl, rfl, hh, hst⟩ := hrel
    obtain ⟨a, cap, hred, hown⟩ := hst.red
    have c0 : wr.cell? ⟨Rb, 0, none⟩ = some (.pointer (some ⟨Sb, 0, none⟩)) := by simp [World.cell?, show wr.heap[Rb]? = _ from hred]
    have c1 : wr.cell? ⟨Rb, 1, none⟩ = some (.slice (some ⟨eb, 0, none⟩) m m) := by simp [World.cell?, show wr.heap[Rb]? = _ from hred]
    have c7 : wr.cell? ⟨Rb, 7, none⟩ = some (.bool false) := by simp [World.cell?, show wr.heap[Rb]? = _ from hred]
    have cs : wr.cell? ⟨Sb, 4, none⟩ = some (.slice (some ⟨nb, 0, none⟩) m m) := (hst.keep.cell hs1 hs2 hs3 hs4).trans henv.snap
    have hrg := hh.range hd
    clear hred hown
    by_cases h0 : 0 ≤ t
    · obtain ⟨z, hz⟩ : ∃ z : Nat, t = (z : Int) := ⟨t.toNat, by omega⟩
      subst hz
      have hzm : z < m := by omega
      have cn := hst.need.cell hzm
      have fn := hst.need.frozen z
      have cu : wr.cell? ⟨nb, z * 2 + 1, none⟩ = some (.int .i32 (u z)) := (hst.keep.cell (p := ⟨nb, z * 2 + 1, none⟩) hn1 hn2 hn3 hn4).trans (henv.ups z hzm)
      have hle := hh.need_le (unhide HV) z hzm
      have HS := hide hst
      have HH := hide hh
      clear hst hh
      by_cases k0 : need' z = 0
      · rw [k0] at cn
        go_wp2_with fail
        refine bodyPost_ret (results_none rfl _ _ _) rfl ?_
        obtain ⟨rep2, hdone⟩ := (unhide HH).stop h0 (by simpa using k0)
        exact ⟨rfl, need', free, stk, rep2, hdone, unhide HS⟩
      · by_cases k1 : need' z = 1
        · rw [k1] at cn
          go_wp2_with fail
          obtain ⟨rep2, hd2⟩ := (unhide HH).hit h0 z rfl hzm k1 hc
          go_roundg (Pl.nz (Pl.setN need' z 0) m)
          case measure => exact Pl.nz_hit hzm k0
          case rel => exact ⟨_, rep2, u z, rfl, rfl, hd2, (unhide HS).setNeed hap z 0⟩
        · have hq : (need' z : Int) - 1 = ((need' z - 1 : Nat) : Int) := by omega
          go_wp2_with fail
          refine bodyPost_ret (results_none rfl _ _ _) rfl ?_
          obtain ⟨rep2, hdone⟩ := (unhide HH).dec h0 z rfl hzm (by omega) hc
          exact ⟨rfl, _, free, stk, rep2, hdone, (unhide HS).setNeed hap z _⟩
    · obtain ⟨p, hp⟩ : ∃ p : Nat, -1 - t = (p : Int) := ⟨(-1 - t).toNat, by omega⟩
      have hx := xor32 t (by omega) (by omega)
      rw [hp] at hx
      have hpn : p < n := by omega
      have HS := hide hst
      have HH := hide hh
      clear hst hh
      cases hf : free p with
      | true =>
        have HP := hide hp
        clear hp
        go_wp2_with fail
        refine (release_known p _ hn hpn (unhide HS) hf).mono ?_
        rintro e w1 ⟨rfl, rfl⟩
        go_wp2_with fail
        go_end0
        obtain ⟨rep2, hdone⟩ := (unhide HH).known (by omega) p (unhide HP) hf
        exact ⟨rfl, need', free, stk, rep2, hdone, unhide HS⟩
      | false =>
        have HP := hide hp
        clear hp
        have hsl := (unhide HH).stk_le
        go_wp2_with fail
        refine (release_push p _ hn hpn hap (unhide HS) (by omega) hf).mono ?_
        rintro e w1 ⟨rfl, hst1⟩
        go_wp2_with fail
        go_end0
        obtain ⟨rep2, hdone⟩ := (unhide HH).rel hc hd (by omega) p (unhide HP) hf
        exact ⟨rfl, need', _, _, rep2, hdone, hst1⟩
end
end Go.Proofs.Qxb6603867a

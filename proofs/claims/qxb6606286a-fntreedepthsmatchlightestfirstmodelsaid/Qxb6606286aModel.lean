/- THE PLAIN LAW OF FnTreeDepthsMatchLightestFirstModel: the full scan picks what the two queues pick. -/
import Derived.Test.Qxb6606286aLight
import Derived.Test.Qxb6606286aLaw1
namespace Go.Proofs.Qxb6606286a
set_option linter.unusedVariables false

/-- used[i], where the queues stand at leaf and joined. -/
def usB (n leaf joined i : Nat) : Bool := decide (i < leaf) || (decide (n ≤ i) && decide (i < joined))
theorem usB_iff (n leaf joined i : Nat) : usB n leaf joined i = true ↔ Huff.used n leaf joined i := by simp [usB, Huff.used]
theorem usB_not (n leaf joined i : Nat) : usB n leaf joined i = false ↔ ¬ Huff.used n leaf joined i := by
  rw [← usB_iff]; simp

/-- parent[i]: -1 while i lives. -/
def prI (n : Nat) (s : Huff.St) (i : Nat) : Int := if usB n s.leaf s.joined i = true then (s.par i : Int) else -1

theorem best_pick {n made leaf joined x l' j' z : Nat} {wt : Nat → Nat} {r : Int} (h1 : leaf ≤ n) (h2 : n ≤ joined) (h3 : joined ≤ made) (hl : Huff.Least n made leaf joined x l' j' z wt) (hb : Best (usB n leaf joined) wt made r) : r = (x : Int) := by
  have hx : x < made ∧ usB n leaf joined x = false := by
    rw [usB_not]
    have := hl.liv
    unfold Huff.live at this; unfold Huff.used
    omega
  rcases hb with ⟨_, h⟩ | ⟨t, ht, rfl, hu, h⟩
  · have := h x hx.1; rw [this] at hx; cases hx.2
  · have lt : Huff.live n made leaf joined t := by
      rw [usB_not] at hu
      unfold Huff.used at hu; unfold Huff.live
      omega
    have h4 := hl.min t lt
    have h5 := h x hx.1 hx.2
    have h6 := hl.earl t lt (by omega)
    have h7 := h5.2 (by omega)
    omega

theorem us_upd {n made leaf joined x l' j' z : Nat} {wt : Nat → Nat} (hl : Huff.Least n made leaf joined x l' j' z wt) : upd (usB n leaf joined) x true = usB n l' j' := by
  funext i
  by_cases e : i = x
  · subst e
    rw [upd_same]
    symm
    rw [usB_iff, hl.used']
    exact .inr rfl
  · rw [upd_other _ _ _ _ e]
    rw [Bool.eq_iff_iff, usB_iff, usB_iff, hl.used']
    constructor
    · intro h; exact .inl h
    · rintro (h | h)
      · exact h
      · exact absurd h e

/-- The letters of a round of the model's main loop. -/
structure Rm (n md T z : Nat) (sx : Huff.St) (a b L1 J1 : Nat) : Prop where
  rd : Rd n md T sx a b L1 J1
  la : Huff.Least n md sx.leaf sx.joined a L1 J1 z sx.wt
  lb : Huff.Least n md L1 J1 b (Huff.l2 n md sx) (Huff.j2 n md sx) z sx.wt

theorem rm_of {n md T z : Nat} {W0 : Nat → Nat} {sx : Huff.St} (h : Huff.Inv n (md - n) T W0 sx) (o : Huff.Ord n (md - n) z sx) (hz : z ≤ n) (h1 : n ≤ md) (h2 : md + 1 < 2 * n) : ∃ a b L1 J1, Rm n md T z sx a b L1 J1 := by
  obtain ⟨a, b, L1, J1, rd⟩ := rd_of h h1 h2
  have e : n + (md - n) = md := by omega
  obtain ⟨la, lb⟩ := Huff.two_least h o hz (by omega)
  rw [e, rd.ea, rd.eL, rd.eJ] at la
  rw [e, rd.eb, rd.eL, rd.eJ] at lb
  exact ⟨a, b, L1, J1, rd, la, lb⟩

theorem pr_next {n md T z : Nat} {sx : Huff.St} {a b L1 J1 : Nat} (h : Rm n md T z sx a b L1 J1) : upd (upd (prI n sx) a (md : Int)) b (md : Int) = prI n (Huff.step n md sx) := by
  rw [step_eq h.rd]
  funext i
  unfold prI
  have hu : usB n (Huff.l2 n md sx) (Huff.j2 n md sx) i = true ↔ (usB n sx.leaf sx.joined i = true ∨ i = a) ∨ i = b := by
    rw [usB_iff, h.lb.used', h.la.used', usB_iff]
  dsimp only
  by_cases eb : i = b
  · subst eb
    rw [upd_same, if_pos (hu.2 (.inr rfl)), upd_same]
  · rw [upd_other _ _ _ _ eb]
    by_cases ea : i = a
    · subst ea
      rw [upd_same, if_pos (hu.2 (.inl (.inr rfl))), upd_other _ _ _ _ eb, upd_same]
    · rw [upd_other _ _ _ _ ea]
      by_cases hs : usB n sx.leaf sx.joined i = true
      · rw [if_pos hs, if_pos (hu.2 (.inl (.inl hs))), upd_other _ _ _ _ eb, upd_other _ _ _ _ ea]
      · have : ¬ usB n (Huff.l2 n md sx) (Huff.j2 n md sx) i = true := fun h' => by
          rcases hu.1 h' with (h | h) | h
          · exact hs h
          · exact ea h
          · exact eb h
        rw [if_neg hs, if_neg this]

theorem pr_start (n : Nat) (W0 : Nat → Nat) : (fun _ => (-1 : Int)) = prI n (Huff.run n W0 0) := by
  funext i
  unfold prI
  have : ¬ usB n (Huff.run n W0 0).leaf (Huff.run n W0 0).joined i = true := by
    rw [usB_iff]; unfold Huff.used; simp only [Huff.run]; omega
  rw [if_neg this]
theorem us_start (n : Nat) (W0 : Nat → Nat) : (fun _ => false) = usB n (Huff.run n W0 0).leaf (Huff.run n W0 0).joined := by
  funext i
  symm
  rw [usB_not]; unfold Huff.used; simp only [Huff.run]; omega

/-- At the end. -/
theorem pr_last {n T : Nat} {W0 : Nat → Nat} {s : Huff.St} (h : Huff.Inv n (n - 1) T W0 s) (i : Nat) (hi : i < 2 * n - 2) : prI n s i = (s.par i : Int) := by
  unfold prI
  rw [if_pos ((usB_iff _ _ _ _).2 (Huff.last h i hi))]
theorem pr_root {n T : Nat} {W0 : Nat → Nat} {s : Huff.St} (h : Huff.Inv n (n - 1) T W0 s) (h0 : 0 < n) : prI n s (2 * n - 2) = -1 := by
  unfold prI
  have h1 := h.h1; have h4 := h.h4; have h5 := h.h5; have h3 := h.h3; have h2 := h.h2
  rw [if_neg]
  rw [usB_iff]; unfold Huff.used; omega
end Go.Proofs.Qxb6606286a

/- THE PLAIN LAW OF THE TURN: the steps' slots are the values' slots turned by one block. No Go in sight. -/
import Derived.Test.Qxb6606418aSlots
namespace Go.Proofs.Qxb6606418a
namespace Slot

theorem turn_of {W K : Int} {Q sp first R : Nat} {LF : Nat → Nat → Nat} {B s u : Nat} (hs : s / Q < R) (h1 : u / Q = nxt R (s / Q)) (h2 : u % Q = s % Q) :
    stps W K Q sp first R LF B 0 0 s = vals W K Q sp first LF B 0 0 u := by
  rw [stps_end, vals_end]
  have e1 : fOf Q sp u = fOf Q sp s := by unfold fOf; rw [h2]
  have e2 : kOf Q sp u = kOf Q sp s := by unfold kOf; rw [h2]
  rw [h1, e1, e2]
  by_cases h : nxt R (s / Q) < B ∧ (fOf Q sp s : Int) < W ∧ (kOf Q sp s : Int) < K
  · rw [if_pos h, if_pos ⟨hs, h⟩]
  · rw [if_neg h, if_neg (fun h' => h h'.2)]

variable {W K : Int} {Q sp first R : Nat} {LF : Nat → Nat → Nat} {B s : Nat}

theorem div_lt (hQ : 0 < Q) (hs : s < R * Q) : s / Q < R := (Nat.div_lt_iff_lt_mul hQ).2 hs

/-- Not yet in the last block: the next block's slot. -/
theorem turn_in (hQ : 0 < Q) (hs : s + Q < R * Q) : stps W K Q sp first R LF B 0 0 s = vals W K Q sp first LF B 0 0 (s + Q) := by
  have e : (s + Q) / Q = s / Q + 1 := Nat.add_div_right s hQ
  have h := div_lt hQ hs
  rw [e] at h
  refine turn_of (by omega) ?_ (Nat.add_mod_right s Q)
  unfold nxt
  rw [if_neg (by omega), e]

/-- In the last block: the first block's slot. -/
theorem turn_last (hQ : 0 < Q) (h0 : s < R * Q) (hs : R * Q ≤ s + Q) : stps W K Q sp first R LF B 0 0 s = vals W K Q sp first LF B 0 0 (s + Q - R * Q) := by
  have h := div_lt hQ h0
  have hR0 : 0 < R := Nat.lt_of_le_of_lt (Nat.zero_le _) h
  obtain ⟨R', rfl⟩ : ∃ R', R = R' + 1 := ⟨R - 1, by omega⟩
  have hm : (R' + 1) * Q = R' * Q + Q := Nat.succ_mul _ _
  have hd : s / Q = R' := by
    have : R' ≤ s / Q := (Nat.le_div_iff_mul_le hQ).2 (by omega)
    omega
  have hmod : s % Q = s - R' * Q := by
    have := Nat.div_add_mod s Q
    rw [hd, Nat.mul_comm] at this
    omega
  have hlt := Nat.mod_lt s hQ
  have hu : s + Q - (R' + 1) * Q = s % Q := by omega
  rw [hu]
  refine turn_of h ?_ (Nat.mod_mod _ _)
  rw [Nat.div_eq_of_lt hlt]
  unfold nxt
  rw [if_pos (by omega)]

/-- Behind the last block: nothing in either. -/
theorem turn_out (hQ : 0 < Q) (hB : B ≤ R) (hs : R * Q ≤ s) : stps W K Q sp first R LF B 0 0 s = vals W K Q sp first LF B 0 0 s := by
  have : R ≤ s / Q := (Nat.le_div_iff_mul_le hQ).2 hs
  rw [stps_end, vals_end, if_neg (by omega), if_neg (by omega)]
end Slot
end Go.Proofs.Qxb6606418a

/- THE PLAIN MATHEMATICS OF THE SLOTS: which slots have been written, and with what. No Go in sight. -/
namespace Go.Proofs.Qxb6606418a

namespace Slot

/-- Slot s: block s / Q, value (s % Q) / sp, regression (s % Q) % sp. -/
def fOf (Q sp s : Nat) : Nat := s % Q / sp
def kOf (Q sp s : Nat) : Nat := s % Q % sp

theorem split (Q sp s : Nat) : s = s / Q * Q + fOf Q sp s * sp + kOf Q sp s := by
  have h1 := Nat.div_add_mod s Q
  have h2 := Nat.div_add_mod (s % Q) sp
  unfold fOf kOf
  rw [Nat.mul_comm] at h1 h2
  omega

theorem place {Q sp B f k : Nat} (h1 : k < sp) (h2 : f * sp + k < Q) : (B * Q + f * sp + k) / Q = B ∧ fOf Q sp (B * Q + f * sp + k) = f ∧ kOf Q sp (B * Q + f * sp + k) = k := by
  have hQ : 0 < Q := by omega
  have hs : 0 < sp := by omega
  have e1 : (B * Q + f * sp + k) / Q = B := by
    rw [Nat.add_assoc, Nat.mul_comm, Nat.mul_add_div hQ, Nat.div_eq_of_lt h2]; omega
  have e2 : (B * Q + f * sp + k) % Q = f * sp + k := by
    rw [Nat.add_assoc, Nat.mul_comm, Nat.mul_add_mod, Nat.mod_eq_of_lt h2]
  refine ⟨e1, ?_, ?_⟩
  · unfold fOf; rw [e2, Nat.mul_comm, Nat.mul_add_div hs, Nat.div_eq_of_lt h1]; omega
  · unfold kOf; rw [e2, Nat.mul_comm, Nat.mul_add_mod, Nat.mod_eq_of_lt h1]

/-- Have the loops at row B, value f0, regression k0 been at (b, f, k)? -/
def dn (W K : Int) (B f0 k0 b f k : Nat) : Bool := decide ((k : Int) < K ∧ (f : Int) < W ∧ (b < B ∨ (b = B ∧ (f < f0 ∨ (f = f0 ∧ k < k0)))))

theorem dn_iff {W K : Int} {B f0 k0 b f k : Nat} : dn W K B f0 k0 b f k = true ↔ ((k : Int) < K ∧ (f : Int) < W ∧ (b < B ∨ (b = B ∧ (f < f0 ∨ (f = f0 ∧ k < k0))))) := by simp [dn]

theorem dn_zero (W K : Int) (b f k : Nat) : dn W K 0 0 0 b f k = false := by
  rw [Bool.eq_false_iff]
  intro h
  have := dn_iff.1 h
  omega
theorem dn_k {W K : Int} {B f0 k0 b f k : Nat} (hf : (f0 : Int) < W) (hk : (k0 : Int) < K) : dn W K B f0 (k0 + 1) b f k = true ↔ dn W K B f0 k0 b f k = true ∨ (b = B ∧ f = f0 ∧ k = k0) := by
  rw [dn_iff, dn_iff]
  omega
theorem dn_f {W K : Int} (B f0 b f k : Nat) : dn W K B f0 K.toNat b f k = dn W K B (f0 + 1) 0 b f k := by
  rw [Bool.eq_iff_iff, dn_iff, dn_iff]
  omega
theorem dn_b {W K : Int} (B b f k : Nat) : dn W K B W.toNat 0 b f k = dn W K (B + 1) 0 0 b f k := by
  rw [Bool.eq_iff_iff, dn_iff, dn_iff]
  omega

/-- The values' slots. -/
def vals (W K : Int) (Q sp first : Nat) (LF : Nat → Nat → Nat) (B f0 k0 s : Nat) : Nat :=
  if dn W K B f0 k0 (s / Q) (fOf Q sp s) (kOf Q sp s) = true then LF (first + s / Q) (fOf Q sp s) else 0

/-- The block behind b, the first behind the last. -/
def nxt (R b : Nat) : Nat := if b + 1 = R then 0 else b + 1
def bef (R b : Nat) : Nat := if b = 0 then R - 1 else b - 1
theorem nxt_bef {R b B : Nat} (hb : b < R) (hB : B < R) : nxt R b = B ↔ b = bef R B := by
  unfold nxt bef
  split <;> split <;> omega
theorem bef_lt {R B : Nat} (hB : B < R) : bef R B < R := by unfold bef; split <;> omega
theorem bef_mod {R B : Nat} (hB : B < R) : ((B : Int) + (R : Int) - 1) % (R : Int) = (bef R B : Int) := by
  unfold bef
  by_cases h : B = 0
  · subst h
    simp only [if_true]
    rw [show ((0 : Nat) : Int) + (R : Int) - 1 = ((R - 1 : Nat) : Int) by omega]
    exact Int.emod_eq_of_lt (by omega) (by omega)
  · simp only [h, if_false]
    rw [show ((B : Nat) : Int) + (R : Int) - 1 = ((B - 1 : Nat) : Int) + (R : Int) by omega, Int.add_emod_right]
    exact Int.emod_eq_of_lt (by omega) (by omega)

/-- The steps' slots. -/
def stps (W K : Int) (Q sp first R : Nat) (SF : Nat → Nat → Nat) (B f0 k0 s : Nat) : Nat :=
  if s / Q < R ∧ dn W K B f0 k0 (nxt R (s / Q)) (fOf Q sp s) (kOf Q sp s) = true then SF (first + nxt R (s / Q)) (fOf Q sp s) else 0

def up (f : Nat → Nat) (j v : Nat) : Nat → Nat := fun i => if i = j then v else f i

section
variable {W K : Int} {Q sp first R : Nat} {LF SF : Nat → Nat → Nat}

theorem vals_zero : vals W K Q sp first LF 0 0 0 = fun _ => 0 := by
  funext s; unfold vals; rw [dn_zero]; simp
theorem stps_zero : stps W K Q sp first R SF 0 0 0 = fun _ => 0 := by
  funext s; unfold stps; rw [dn_zero]; simp
theorem vals_f (B f0 : Nat) : vals W K Q sp first LF B f0 K.toNat = vals W K Q sp first LF B (f0 + 1) 0 := by
  funext s; unfold vals; rw [dn_f]
theorem stps_f (B f0 : Nat) : stps W K Q sp first R SF B f0 K.toNat = stps W K Q sp first R SF B (f0 + 1) 0 := by
  funext s; unfold stps; rw [dn_f]
theorem vals_b (B : Nat) : vals W K Q sp first LF B W.toNat 0 = vals W K Q sp first LF (B + 1) 0 0 := by
  funext s; unfold vals; rw [dn_b]
theorem stps_b (B : Nat) : stps W K Q sp first R SF B W.toNat 0 = stps W K Q sp first R SF (B + 1) 0 0 := by
  funext s; unfold stps; rw [dn_b]

theorem vals_k {B f0 k0 : Nat} (hf : (f0 : Int) < W) (hk : (k0 : Int) < K) (h1 : k0 < sp) (h2 : f0 * sp + k0 < Q) :
    up (vals W K Q sp first LF B f0 k0) (B * Q + f0 * sp + k0) (LF (first + B) f0) = vals W K Q sp first LF B f0 (k0 + 1) := by
  funext s
  obtain ⟨p1, p2, p3⟩ := place (B := B) h1 h2
  unfold up
  by_cases e : s = B * Q + f0 * sp + k0
  · subst e
    simp only [if_true]
    unfold vals
    rw [p1, p2, p3, if_pos ((dn_k hf hk).2 (.inr ⟨rfl, rfl, rfl⟩))]
  · simp only [e, if_false]
    unfold vals
    have hs := split Q sp s
    have hn : ¬ (s / Q = B ∧ fOf Q sp s = f0 ∧ kOf Q sp s = k0) := fun h => by
      rw [h.1, h.2.1, h.2.2] at hs
      exact e hs
    by_cases hd : dn W K B f0 k0 (s / Q) (fOf Q sp s) (kOf Q sp s) = true
    · rw [if_pos hd, if_pos ((dn_k hf hk).2 (.inl hd))]
    · rw [if_neg hd, if_neg (fun h => ?_)]
      rcases (dn_k hf hk).1 h with h | h
      · exact hd h
      · exact hn h

theorem stps_k {B f0 k0 : Nat} (hf : (f0 : Int) < W) (hk : (k0 : Int) < K) (h1 : k0 < sp) (h2 : f0 * sp + k0 < Q) (hB : B < R) :
    up (stps W K Q sp first R SF B f0 k0) (bef R B * Q + f0 * sp + k0) (SF (first + B) f0) = stps W K Q sp first R SF B f0 (k0 + 1) := by
  funext s
  obtain ⟨p1, p2, p3⟩ := place (B := bef R B) h1 h2
  have hbl := bef_lt hB
  have hnb : nxt R (bef R B) = B := (nxt_bef hbl hB).2 rfl
  unfold up
  by_cases e : s = bef R B * Q + f0 * sp + k0
  · subst e
    simp only [if_true]
    unfold stps
    rw [p1, p2, p3, hnb, if_pos ⟨hbl, (dn_k hf hk).2 (.inr ⟨rfl, rfl, rfl⟩)⟩]
  · simp only [e, if_false]
    unfold stps
    have hs := split Q sp s
    by_cases hR : s / Q < R
    · have hn : ¬ (nxt R (s / Q) = B ∧ fOf Q sp s = f0 ∧ kOf Q sp s = k0) := fun h => by
        rw [(nxt_bef hR hB).1 h.1, h.2.1, h.2.2] at hs
        exact e hs
      by_cases hd : dn W K B f0 k0 (nxt R (s / Q)) (fOf Q sp s) (kOf Q sp s) = true
      · rw [if_pos ⟨hR, hd⟩, if_pos ⟨hR, (dn_k hf hk).2 (.inl hd)⟩]
      · rw [if_neg (fun h => hd h.2), if_neg (fun h => ?_)]
        rcases (dn_k hf hk).1 h.2 with h | h
        · exact hd h
        · exact hn h
    · rw [if_neg (fun h => hR h.1), if_neg (fun h => hR h.1)]

/-- Where the loops have been through B rows: what the law asks. -/
theorem vals_end (B s : Nat) : vals W K Q sp first LF B 0 0 s = if s / Q < B ∧ (fOf Q sp s : Int) < W ∧ (kOf Q sp s : Int) < K then LF (first + s / Q) (fOf Q sp s) else 0 := by
  unfold vals
  have : dn W K B 0 0 (s / Q) (fOf Q sp s) (kOf Q sp s) = true ↔ (s / Q < B ∧ (fOf Q sp s : Int) < W ∧ (kOf Q sp s : Int) < K) := by rw [dn_iff]; omega
  by_cases h : s / Q < B ∧ (fOf Q sp s : Int) < W ∧ (kOf Q sp s : Int) < K
  · rw [if_pos h, if_pos (this.2 h)]
  · rw [if_neg h, if_neg (fun h' => h (this.1 h'))]
theorem stps_end (B s : Nat) : stps W K Q sp first R SF B 0 0 s = if s / Q < R ∧ nxt R (s / Q) < B ∧ (fOf Q sp s : Int) < W ∧ (kOf Q sp s : Int) < K then SF (first + nxt R (s / Q)) (fOf Q sp s) else 0 := by
  unfold stps
  have : dn W K B 0 0 (nxt R (s / Q)) (fOf Q sp s) (kOf Q sp s) = true ↔ (nxt R (s / Q) < B ∧ (fOf Q sp s : Int) < W ∧ (kOf Q sp s : Int) < K) := by rw [dn_iff]; omega
  by_cases h : s / Q < R ∧ nxt R (s / Q) < B ∧ (fOf Q sp s : Int) < W ∧ (kOf Q sp s : Int) < K
  · rw [if_pos h, if_pos ⟨h.1, this.2 h.2⟩]
  · rw [if_neg h, if_neg (fun h' => h ⟨h'.1, this.1 h'.2⟩)]
end
end Slot
end Go.Proofs.Qxb6606418a

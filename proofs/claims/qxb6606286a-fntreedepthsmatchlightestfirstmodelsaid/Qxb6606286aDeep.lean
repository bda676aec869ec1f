/- THE DEPTHS OF THE TREE: they never rise from leaf to leaf; they are small; they fill the code space. No Go in sight. -/
import Derived.Test.Qxb6606286aOrd
namespace Go.Proofs.Qxb6606286a.Huff

/-- The tree at the end. -/
structure Tree (n T : Nat) (W0 : Nat → Nat) (s : St) : Prop where
  inv : Inv n (n - 1) T W0 s
  pos : 0 < n

section
variable {n T : Nat} {W0 : Nat → Nat} {s : St}

theorem Tree.up (h : Tree n T W0 s) (i : Nat) (hi : i < 2 * n - 2) : i < s.par i := (last_par h.inv i hi).2.2

theorem Tree.dep (h : Tree n T W0 s) (i : Nat) (hi : i < 2 * n - 2) : dep s.par (2 * n - 2) i = dep s.par (2 * n - 2) (s.par i) + 1 := dep_up h.up hi

theorem Tree.mono (h : Tree n T W0 s) : ∀ d i j, 2 * n - 2 - i ≤ d → n ≤ i → i ≤ j → j ≤ 2 * n - 2 → Huff.dep s.par (2 * n - 2) j ≤ Huff.dep s.par (2 * n - 2) i
  | 0, i, j, hd, _, hij, hj => by
    rw [show i = j by omega]; exact Nat.le_refl _
  | d + 1, i, j, hd, hi, hij, hj => by
    by_cases e : j = 2 * n - 2
    · rw [e, dep_root _ _ _ (Nat.le_refl _)]; omega
    · have hu := last_par h.inv i (by omega)
      have hv := last_par h.inv j (by omega)
      rw [h.dep i (by omega), h.dep j (by omega)]
      have hjl : j < s.joined := by have := last h.inv j (by omega); have := h.inv.h1; omega
      have hm := h.inv.pm2 i j hi hij hjl
      have := Tree.mono h d (s.par i) (s.par j) (by omega) (by omega) hm (by omega)
      omega

theorem Tree.mono_leaf (h : Tree n T W0 s) (i j : Nat) (hij : i ≤ j) (hj : j < n) : Huff.dep s.par (2 * n - 2) j ≤ Huff.dep s.par (2 * n - 2) i := by
  by_cases h1 : n = 1
  · rw [show i = j by omega]; exact Nat.le_refl _
  · have hpos := h.pos
    have hu := last_par h.inv i (by omega)
    have hv := last_par h.inv j (by omega)
    rw [h.dep i (by omega), h.dep j (by omega)]
    have hjl : j < s.leaf := by have := last h.inv j (by omega); omega
    have hm := h.inv.pm1 i j hij hjl
    have := h.mono _ (s.par i) (s.par j) (Nat.le_refl _) (by omega) hm (by omega)
    omega

theorem Tree.le_join (h : Tree n T W0 s) : ∀ d i, 2 * n - 2 - i ≤ d → n ≤ i → i ≤ 2 * n - 2 → Huff.dep s.par (2 * n - 2) i ≤ 2 * n - 2 - i
  | 0, i, hd, _, hj => by
    rw [dep_root _ _ _ (by omega)]; omega
  | d + 1, i, hd, hi, hj => by
    by_cases e : i = 2 * n - 2
    · rw [e, dep_root _ _ _ (Nat.le_refl _)]; omega
    · have hu := last_par h.inv i (by omega)
      rw [h.dep i (by omega)]
      have := Tree.le_join h d (s.par i) (by omega) (by omega) (by omega)
      omega

theorem Tree.le_leaf (h : Tree n T W0 s) (i : Nat) (hi : i < n) : Huff.dep s.par (2 * n - 2) i ≤ n - 1 := by
  by_cases h1 : n = 1
  · rw [dep_root _ _ _ (by omega)]; omega
  · have hu := last_par h.inv i (by omega)
    rw [h.dep i (by omega)]
    have := h.le_join _ (s.par i) (Nat.le_refl _) (by omega) (by omega)
    omega

/-! ### How many nodes at each depth -/
def one (par : Nat → Nat) (root D i : Nat) : Nat := if dep par root i = D then 1 else 0
def leaves (n : Nat) (par : Nat → Nat) (D : Nat) : Nat := rs (one par (2 * n - 2) D) 0 n
def joins (n : Nat) (par : Nat → Nat) (D : Nat) : Nat := rs (one par (2 * n - 2) D) n (n - 1)

theorem rs_zero {f : Nat → Nat} {a : Nat} : ∀ d, (∀ i, a ≤ i → i < a + d → f i = 0) → rs f a d = 0
  | 0, _ => rfl
  | d + 1, h => by
    simp only [rs]
    rw [rs_zero d (fun i h1 h2 => h i h1 (by omega)), h (a + d) (by omega) (by omega)]

theorem Tree.kraft (h : Tree n T W0 s) (D : Nat) : leaves n s.par (D + 1) + joins n s.par (D + 1) = 2 * joins n s.par D := by
  have hpos := h.pos
  by_cases h1 : n = 1
  · subst h1
    have e : ∀ i, one s.par (2 * 1 - 2) (D + 1) i = 0 := fun i => by unfold one; rw [dep_root _ _ _ (by omega)]; simp
    unfold leaves joins
    rw [rs_zero 1 (fun i _ _ => e i)]
    simp [rs]
  · have hc := h.inv.cnt (one s.par (2 * n - 2) D)
    have hl : s.leaf = n := by have := last h.inv (n - 1) (by omega); have := h.inv.h1; omega
    have hj : s.joined = 2 * n - 2 := by have := h.inv.h4; omega
    have e : ∀ i, i < 2 * n - 2 → one s.par (2 * n - 2) D (s.par i) = one s.par (2 * n - 2) (D + 1) i := fun i hi => by
      unfold one; rw [h.dep i hi]; simp
    rw [hl, hj, rs_congr n (fun i _ hi => e i (by omega)), rs_congr (2 * n - 2 - n) (fun i _ hi => e i (by omega))] at hc
    unfold leaves joins
    rw [← hc]
    have e2 : rs (one s.par (2 * n - 2) (D + 1)) n (n - 1) = rs (one s.par (2 * n - 2) (D + 1)) n (2 * n - 2 - n) := by
      rw [show n - 1 = (2 * n - 2 - n) + 1 by omega]
      simp only [rs]
      rw [show n + (2 * n - 2 - n) = 2 * n - 2 by omega]
      have : one s.par (2 * n - 2) (D + 1) (2 * n - 2) = 0 := by unfold one; rw [dep_root _ _ _ (Nat.le_refl _)]; simp
      omega
    rw [e2]

theorem Tree.kraft0 (h : Tree n T W0 s) : leaves n s.par 0 + joins n s.par 0 = 1 := by
  have hpos := h.pos
  by_cases h1 : n = 1
  · subst h1
    unfold leaves joins
    simp only [rs]
    unfold one
    rw [dep_root _ _ _ (by omega)]
    simp [rs]
  · have e : ∀ i, i < 2 * n - 2 → one s.par (2 * n - 2) 0 i = 0 := fun i hi => by unfold one; rw [h.dep i hi]; simp
    unfold leaves joins
    rw [rs_zero n (fun i _ hi => e i (by omega)), show n - 1 = (n - 2) + 1 by omega]
    simp only [rs]
    rw [rs_zero (n - 2) (fun i _ hi => e i (by omega)), show n + (n - 2) = 2 * n - 2 by omega]
    unfold one
    rw [dep_root _ _ _ (Nat.le_refl _)]
    simp

/-! ### How deep -/
theorem Tree.light {z : Nat} (h : Tree n T W0 s) (o : Ord n (n - 1) z s) : ∀ d m, 2 * n - 2 - m ≤ d → m ≤ 2 * n - 2 → 1 ≤ s.wt m → 2 ^ (Huff.dep s.par (2 * n - 2) m / 2) * s.wt m ≤ s.wt (2 * n - 2)
  | 0, m, hd, hm, _ => by
    rw [dep_root _ _ _ (by omega), show m = 2 * n - 2 by omega]; simp
  | d + 1, m, hd, hm, hw => by
    by_cases e : m = 2 * n - 2
    · rw [dep_root _ _ _ (by omega), e]; simp
    · have hu := last_par h.inv m (by omega)
      have hm' := last h.inv m (by omega)
      have f1 := o.fa m hm'
      by_cases e2 : s.par m = 2 * n - 2
      · rw [h.dep m (by omega), e2, dep_root _ _ _ (Nat.le_refl _)]
        rw [e2] at f1
        simpa using f1
      · have hp := last h.inv (s.par m) (by omega)
        have hv := last_par h.inv (s.par m) (by omega)
        have f2 := o.fb m hm' hp
        have ih := Tree.light h o d (s.par (s.par m)) (by omega) (by omega) (by omega)
        rw [h.dep m (by omega), h.dep (s.par m) (by omega)]
        have e3 : (Huff.dep s.par (2 * n - 2) (s.par (s.par m)) + 1 + 1) / 2 = Huff.dep s.par (2 * n - 2) (s.par (s.par m)) / 2 + 1 := by omega
        rw [e3, Nat.pow_succ]
        generalize 2 ^ (Huff.dep s.par (2 * n - 2) (s.par (s.par m)) / 2) = E at ih ⊢
        have h2 : 2 * s.wt m ≤ s.wt (s.par (s.par m)) := by omega
        have h3 : E * (2 * s.wt m) ≤ E * s.wt (s.par (s.par m)) := Nat.mul_le_mul_left E h2
        rw [Nat.mul_assoc]
        exact Nat.le_trans h3 ih

theorem Tree.heavy_small {z : Nat} (h : Tree n T W0 s) (o : Ord n (n - 1) z s) (hT : T ≤ 4611686018427387904) (m : Nat) (hm : m ≤ 2 * n - 2) (hw : 1 ≤ s.wt m) : Huff.dep s.par (2 * n - 2) m ≤ 125 := by
  have h1 := h.light o _ m (Nat.le_refl _) hm hw
  have h2 := h.inv.le (2 * n - 2)
  have h3 : 2 ^ (Huff.dep s.par (2 * n - 2) m / 2) * 1 ≤ 2 ^ (Huff.dep s.par (2 * n - 2) m / 2) * s.wt m := Nat.mul_le_mul_left _ hw
  rcases Nat.lt_or_ge (Huff.dep s.par (2 * n - 2) m / 2) 63 with h4 | h4
  · omega
  · have h5 : 2 ^ 63 ≤ 2 ^ (Huff.dep s.par (2 * n - 2) m / 2) := Nat.pow_le_pow_right (by omega) h4
    rw [show (2 : Nat) ^ 63 = 9223372036854775808 by decide] at h5
    rw [Nat.mul_one] at h3
    exact absurd (Nat.le_trans h5 (Nat.le_trans h3 (Nat.le_trans h1 (Nat.le_trans h2 hT)))) (by omega)

theorem Tree.nought_small {z : Nat} (h : Tree n T W0 s) (o : Ord n (n - 1) z s) (hT : T ≤ 4611686018427387904) : ∀ t m, n ≤ m → m ≤ 2 * n - 2 → s.wt m = 0 → z + n - 1 - m < 2 ^ t → Huff.dep s.par (2 * n - 2) m ≤ 126 + t
  | 0, m, h1, h2, hw, ht => by
    have hpos := h.pos
    have := o.zc m h1 (by omega) hw
    simp at ht
    omega
  | t + 1, m, h1, h2, hw, ht => by
    by_cases e : m = 2 * n - 2
    · rw [e, dep_root _ _ _ (Nat.le_refl _)]; omega
    · have hu := last_par h.inv m (by omega)
      have hl := last h.inv m (by omega)
      have hmj : m < s.joined := by have := h.inv.h1; omega
      rw [h.dep m (by omega)]
      by_cases hp : s.wt (s.par m) = 0
      · have hz := o.zz m h1 hmj hw
        have hc := o.zc m h1 (by omega) hw
        have := Tree.nought_small h o hT t (s.par m) (by omega) (by omega) hp (by rw [Nat.pow_succ] at ht; omega)
        omega
      · have := h.heavy_small o hT (s.par m) (by omega) (by omega)
        omega

theorem Tree.small {z : Nat} (h : Tree n T W0 s) (o : Ord n (n - 1) z s) (hT : T ≤ 4611686018427387904) (hz : z ≤ 131072) (i : Nat) (hi : i ≤ 2 * n - 2) : Huff.dep s.par (2 * n - 2) i ≤ 150 := by
  have hj : ∀ m, n ≤ m → m ≤ 2 * n - 2 → Huff.dep s.par (2 * n - 2) m ≤ 144 := fun m h1 h2 => by
    by_cases hw : s.wt m = 0
    · have := h.nought_small o hT 18 m h1 h2 hw (by omega)
      omega
    · have := h.heavy_small o hT m h2 (by omega)
      omega
  by_cases h1 : n ≤ i
  · have := hj i h1 hi; omega
  · by_cases e : i = 2 * n - 2
    · rw [e, dep_root _ _ _ (Nat.le_refl _)]; omega
    · have hu := last_par h.inv i (by omega)
      rw [h.dep i (by omega)]
      have := hj (s.par i) (by omega) (by omega)
      omega

theorem exists_z {W0 : Nat → Nat} : ∀ n, (∀ i j, i ≤ j → j < n → W0 i ≤ W0 j) → ∃ z, z ≤ n ∧ ∀ i, i < n → (W0 i = 0 ↔ i < z)
  | 0, _ => ⟨0, Nat.le_refl _, fun i hi => by omega⟩
  | n + 1, hs => by
    obtain ⟨z, hz, h⟩ := exists_z n (fun i j hij hj => hs i j hij (by omega))
    by_cases h0 : W0 n = 0
    · have e : z = n := by
        rcases Nat.lt_or_ge z n with hlt | hge
        · have h1 := hs z n (by omega) (by omega)
          have h2 := h z hlt
          omega
        · omega
      refine ⟨n + 1, Nat.le_refl _, fun i hi => ?_⟩
      by_cases ei : i = n
      · subst ei; omega
      · have := h i (by omega); omega
    · refine ⟨z, by omega, fun i hi => ?_⟩
      by_cases ei : i = n
      · subst ei; omega
      · exact h i (by omega)
end

theorem tree_of (n : Nat) (W0 : Nat → Nat) (h : 0 < n) : Tree n (rs W0 0 n) W0 (run n W0 (n - 1)) := ⟨inv_run n W0 (n - 1) (by omega), h⟩

end Go.Proofs.Qxb6606286a.Huff

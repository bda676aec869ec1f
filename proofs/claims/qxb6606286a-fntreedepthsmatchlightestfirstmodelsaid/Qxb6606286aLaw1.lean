/- THE PLAIN LAW OF FnTreeDepthsFormCompleteNonincreasingCode: what the depths of leaves that fit are like. -/
import Derived.Test.Qxb6606286aZZ
import Derived.Test.Qxb6606286aDeep
namespace Go.Proofs.Qxb6606286a
set_option linter.unusedVariables false

def parOf (z : Nat → Int) (n : Nat) : Nat → Nat := (Huff.run n (fun i => (z i / 65536).toNat) (n - 1)).par

theorem depOf_eq (z : Nat → Int) (n i : Nat) : depOf z n i = Huff.dep (parOf z n) (2 * n - 2) i := rfl

theorem fit_mono {z : Nat → Int} {wmax : Int} {n : Nat} (h : fitTo z wmax n) : ∀ d i, i + d < n → z i / 65536 ≤ z (i + d) / 65536
  | 0, i, _ => Int.le_refl _
  | d + 1, i, hd => by
    have h1 := fit_mono h d i (by omega)
    have h2 := (h (i + (d + 1)) hd).2 (by omega)
    rw [show i + (d + 1) - 1 = i + d by omega] at h2
    omega

theorem fit_sum {z : Nat → Int} {n : Nat} (h : fitTo z 17592186044416 n) (hn : n ≤ 131072) : Huff.rs (fun i => (z i / 65536).toNat) 0 n ≤ 4611686018427387904 := by
  have h1 := Huff.rs_le (f := fun i => (z i / 65536).toNat) (a := 0) (B := 17592186044416) n (fun i _ hi => by have := (h i (by omega)).1; omega)
  have h2 : n * 17592186044416 ≤ 131072 * 17592186044416 := Nat.mul_le_mul_right _ hn
  omega

/-- cnt[v] behind k leaves. -/
def cntTo (z : Nat → Int) (n k v : Nat) : Nat := Huff.rs (Huff.one (parOf z n) (2 * n - 2) v) 0 k

theorem cntTo_upd (z : Nat → Int) (n k : Nat) : upd (cntTo z n k) (depOf z n k) (cntTo z n k (depOf z n k) + 1) = cntTo z n (k + 1) := by
  funext v
  unfold cntTo
  simp only [Huff.rs, Nat.zero_add]
  by_cases e : v = depOf z n k
  · subst e
    rw [upd_same]
    simp [Huff.one, depOf_eq]
  · rw [upd_other _ _ _ _ e]
    have : ¬ Huff.dep (parOf z n) (2 * n - 2) k = v := fun h => e h.symm
    simp [Huff.one, this]

theorem cntTo_le (z : Nat → Int) (n k v : Nat) : cntTo z n k v ≤ k := by
  have := Huff.rs_le (f := Huff.one (parOf z n) (2 * n - 2) v) (a := 0) (B := 1) k (fun i _ _ => by unfold Huff.one; split <;> omega)
  unfold cntTo; omega

def joinsOf (z : Nat → Int) (n D : Nat) : Nat := Huff.joins n (parOf z n) D

/-- All that the law asks of the depths. -/
structure Good (z : Nat → Int) (n : Nat) : Prop where
  small : ∀ i, i < n → depOf z n i ≤ 150
  mono : ∀ i, i + 1 < n → depOf z n (i + 1) ≤ depOf z n i
  le : depOf z n 0 ≤ n - 1
  kraft : ∀ D, cntTo z n n (D + 1) + joinsOf z n (D + 1) = 2 * joinsOf z n D
  kraft0 : cntTo z n n 0 + joinsOf z n 0 = 1
  top : joinsOf z n 65535 = 0
  bd : ∀ D, joinsOf z n D ≤ n

theorem good {z : Nat → Int} {n : Nat} (h : fitTo z 17592186044416 n) (h0 : 0 < n) (hn : n ≤ 131072) (hz : ∀ i, i < n → 0 ≤ z i) : Good z n := by
  have hs : ∀ i j, i ≤ j → j < n → (fun i => (z i / 65536).toNat) i ≤ (fun i => (z i / 65536).toNat) j := fun i j hij hj => by
    have := fit_mono h (j - i) i (by omega)
    rw [show i + (j - i) = j by omega] at this
    show (z i / 65536).toNat ≤ (z j / 65536).toNat
    omega
  obtain ⟨zz, hzz, hz0⟩ := Huff.exists_z (W0 := fun i => (z i / 65536).toNat) n hs
  have t := Huff.tree_of n (fun i => (z i / 65536).toNat) h0
  have o := Huff.ord_run hs hz0 hzz (n - 1) (by omega)
  have hT := fit_sum h hn
  have sm := fun i (hi : i ≤ 2 * n - 2) => t.small o hT (by omega) i hi
  refine ⟨fun i hi => sm i (by omega), fun i hi => t.mono_leaf i (i + 1) (by omega) hi, t.le_leaf 0 h0, fun D => t.kraft D, t.kraft0, ?_, fun D => ?_⟩
  · have e : ∀ i, i ≤ 2 * n - 2 → Huff.one (parOf z n) (2 * n - 2) 65535 i = 0 := fun i hi => by
      unfold Huff.one
      have := sm i hi
      unfold parOf
      rw [if_neg (by omega)]
    exact Huff.rs_zero (n - 1) (fun i _ hi => e i (by omega))
  · have := Huff.rs_le (f := Huff.one (parOf z n) (2 * n - 2) D) (a := n) (B := 1) (n - 1) (fun i _ _ => by unfold Huff.one; split <;> omega)
    unfold joinsOf Huff.joins; omega
end Go.Proofs.Qxb6606286a

/- A [][]float64 THAT CAME IN, OPENED: from its reading to 'Mat'. -/
import Derived.Test.Qxb6606418aSmall
import Derived.ProofKit
import Derived.OpenShut
import Derived.ChangeOld
import Derived.Below
import Derived.Deep.Slices
namespace Go.Proofs.Qxb6606418a
open Go.ChangeShapes Go.WideShapes Go.ChangeAt Go.RowKit Go.Deep
set_option linter.unusedVariables false

section
variable {H : Type} {enc : TypeId × Value → H} {P : Program} {w : World} {base : Nat} {spare : Nat → Bool} {held : Bool} {fuel : Nat} {t : TypeId} {cs : List Value} {x : DataW H × List MemPlace}

theorem trod_float {k : FloatKind} (ht : P.underlying t = some (.float k)) (h : DataW.trod enc P w base spare held fuel t cs = some x) : ∃ b, cs = [.float k b] := by
  cases fuel with
  | zero => simp [DataW.trod] at h
  | succ n =>
    unfold DataW.trod at h
    rw [ht] at h
    split at h <;> simp_all

/-- One row of floats: nil; or its cells. -/
theorem open_floats {e : TypeId} {k : FloatKind} {a : Option Addr} {len cap : Nat} (ht : P.underlying t = some (.slice e)) (he : P.underlying e = some (.float k)) (hc : P.cellsOf e = 1)
    (h : DataW.trod enc P w base (fun _ => true) held fuel t [.slice a len cap] = some x) :
    len ≤ maxLen ∧ ∃ (b o : Nat) (F : Nat → Nat), 0 < len → a = some ⟨b, o, none⟩ ∧ ∀ c, c < len → w.cell? ⟨b, o + c, none⟩ = some (.float k (F c)) := by
  rcases open_slice1 ht hc h with ⟨h0, _⟩ | ⟨a', len', cap', m, n, V, D, Pl, h0, hb, hl, hm, hmm, _, hx⟩
  · simp at h0
    obtain ⟨rfl, rfl, rfl⟩ := h0
    exact ⟨Nat.zero_le _, 0, 0, fun _ => 0, fun h => by omega⟩
  · simp at h0
    obtain ⟨rfl, rfl, rfl⟩ := h0
    simp only [if_true] at hmm
    subst hmm
    refine ⟨by omega, ?_⟩
    by_cases hl0 : 0 < len
    · obtain ⟨F, hF⟩ := choose_lt (α := Nat) (n := len) (p := fun i b => V i = .float k b) (fun i hi => by
        obtain ⟨b, hb⟩ := trod_float he (hx i (by omega)).2
        exact ⟨b, by simpa using hb⟩)
      obtain ⟨b, o, spot⟩ := a'
      have h0 := (hx 0 (by omega)).1
      have hspot : spot = none := by simpa [Addr.add] using World.cell?_spot h0
      subst hspot
      refine ⟨b, o, F, fun _ => ⟨rfl, fun c hc' => ?_⟩⟩
      rw [← add_plain, (hx c (by omega)).1, hF c hc']
    · exact ⟨0, 0, fun _ => 0, fun h => absurd h hl0⟩

theorem open_mat {e q : TypeId} {a : Option Addr} {len cap : Nat} (ht : P.underlying t = some (.slice e)) (he : P.underlying e = some (.slice q)) (hq : P.underlying q = some (.float .f64)) (ce : P.cellsOf e = 1) (cq : P.cellsOf q = 1)
    (h : DataW.trod enc P w base (fun _ => true) held fuel t [.slice a len cap] = some x) :
    ∃ (A : Nat → Option Addr) (L C Bk Ok : Nat → Nat) (F : Nat → Nat → Nat), Mat w a len A L C Bk Ok F := by
  rcases open_slice1 ht ce h with ⟨h0, _⟩ | ⟨a', len', cap', m, n, V, D, Pl, h0, hb, hl, hm, hmm, _, hx⟩
  · simp at h0
    obtain ⟨rfl, rfl, rfl⟩ := h0
    exact ⟨fun _ => none, fun _ => 0, fun _ => 0, fun _ => 0, fun _ => 0, fun _ _ => 0, by omega, fun r hr => by omega, fun h => by omega, fun r hr => by omega⟩
  · simp at h0
    obtain ⟨rfl, rfl, rfl⟩ := h0
    simp only [if_true] at hmm
    subst hmm
    have hV : ∀ r, r < len → ∃ y : Option Addr × Nat × Nat, V r = .slice y.1 y.2.1 y.2.2 := fun r hr => by
      rcases open_slice1 he cq (hx r (by omega)).2 with ⟨h1, _⟩ | ⟨a1, l1, c1, m1, n1, V1, D1, Pl1, h1, _⟩
      · exact ⟨(none, 0, 0), by simpa using h1⟩
      · exact ⟨(some a1, l1, c1), by simpa using h1⟩
    obtain ⟨y, hy⟩ := choose_lt (n := len) hV
    have hrow : ∀ r, r < len → ∃ u : Nat × Nat × (Nat → Nat), (y r).2.1 ≤ maxLen ∧ (0 < (y r).2.1 → (y r).1 = some ⟨u.1, u.2.1, none⟩ ∧ ∀ c, c < (y r).2.1 → w.cell? ⟨u.1, u.2.1 + c, none⟩ = some (.float .f64 (u.2.2 c))) := fun r hr => by
      have h2 := (hx r (by omega)).2
      rw [hy r hr] at h2
      obtain ⟨h3, b, o, F, h4⟩ := open_floats he hq cq h2
      exact ⟨(b, o, F), h3, h4⟩
    obtain ⟨u, hu⟩ := choose_lt (n := len) hrow
    refine ⟨fun r => (y r).1, fun r => (y r).2.1, fun r => (y r).2.2, fun r => (u r).1, fun r => (u r).2.1, fun r => (u r).2.2, by unfold maxLen at hm; omega, fun r hr => by have := (hu r hr).1; unfold maxLen at this; omega, fun h0 => ?_, fun r hr h0 => (hu r hr).2 h0⟩
    obtain ⟨b, o, spot⟩ := a'
    have h1 := (hx 0 (by omega)).1
    have hspot : spot = none := by simpa [Addr.add] using World.cell?_spot h1
    subst hspot
    exact ⟨b, o, rfl, fun r hr => by rw [← add_plain, (hx r (by omega)).1, hy r hr]⟩
end
end Go.Proofs.Qxb6606418a

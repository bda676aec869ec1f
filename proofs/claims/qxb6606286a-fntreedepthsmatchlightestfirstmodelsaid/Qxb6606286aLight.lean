/- deflateB1Lightest (function 14): the lightest node that is not used, the earliest on ties. -/
import Derived.Test.Qxb6606286aLay
import Derived.WalkKit
import Derived.BigQuiet
import Derived.Deep.QuietTactic
import Derived.Deep.Light
namespace Go.Proofs.Qxb6606286a
open Go.RowKit
set_option linter.unusedVariables false

/-- Of the nodes below k: r is -1 and all are used; or r is the lightest unused one, the earliest on ties. -/
def Best (us : Nat → Bool) (wt : Nat → Nat) (k : Nat) (r : Int) : Prop :=
  (r = -1 ∧ ∀ j, j < k → us j = true) ∨ (∃ t : Nat, t < k ∧ r = t ∧ us t = false ∧ ∀ j, j < k → us j = false → wt t ≤ wt j ∧ (wt j = wt t → t ≤ j))

theorem best_zero (us : Nat → Bool) (wt : Nat → Nat) : Best us wt 0 (-1) := .inl ⟨rfl, fun j hj => by omega⟩
theorem best_used {us : Nat → Bool} {wt : Nat → Nat} {k : Nat} {r : Int} (h : Best us wt k r) (hu : us k = true) : Best us wt (k + 1) r := by
  rcases h with ⟨e, h⟩ | ⟨t, ht, e, hu', h⟩
  · exact .inl ⟨e, fun j hj => by by_cases ej : j = k; (· rw [ej]; exact hu); (· exact h j (by omega))⟩
  · refine .inr ⟨t, by omega, e, hu', fun j hj huj => ?_⟩
    by_cases ej : j = k
    · rw [ej, hu] at huj; cases huj
    · exact h j (by omega) huj
theorem best_first {us : Nat → Bool} {wt : Nat → Nat} {k : Nat} (h : Best us wt k (-1)) (hu : us k = false) : Best us wt (k + 1) (k : Int) := by
  rcases h with ⟨_, h⟩ | ⟨t, _, e, _⟩
  · refine .inr ⟨k, by omega, rfl, hu, fun j hj huj => ?_⟩
    by_cases ej : j = k
    · subst ej; exact ⟨Nat.le_refl _, fun _ => Nat.le_refl _⟩
    · have := h j (by omega); rw [this] at huj; cases huj
  · omega
theorem best_less {us : Nat → Bool} {wt : Nat → Nat} {k t : Nat} (h : Best us wt k (t : Int)) (hu : us k = false) (hw : wt k < wt t) : Best us wt (k + 1) (k : Int) := by
  rcases h with ⟨e, _⟩ | ⟨t', ht, e, _, h⟩
  · omega
  · obtain rfl : t = t' := by omega
    refine .inr ⟨k, by omega, rfl, hu, fun j hj huj => ?_⟩
    by_cases ej : j = k
    · subst ej; exact ⟨Nat.le_refl _, fun _ => Nat.le_refl _⟩
    · have := h j (by omega) huj; omega
theorem best_keep {us : Nat → Bool} {wt : Nat → Nat} {k t : Nat} (h : Best us wt k (t : Int)) (hw : wt t ≤ wt k) : Best us wt (k + 1) (t : Int) := by
  rcases h with ⟨e, _⟩ | ⟨t', ht, e, hu', h⟩
  · omega
  · obtain rfl : t = t' := by omega
    refine .inr ⟨t, by omega, rfl, hu', fun j hj huj => ?_⟩
    by_cases ej : j = k
    · subst ej; exact ⟨hw, fun _ => by omega⟩
    · exact h j (by omega) huj

def LightEnd (us : Nat → Bool) (wt : Nat → Nat) (k : Nat) (w w' : World) (e : Ending) : Prop :=
  ∃ r : Int, e = .returned (.int .i64 r) ∧ Best us wt k r ∧ ∃ q, w' = w.drewN q

set_option maxHeartbeats 2000000 in
set_option maxRecDepth 1000000 in
theorem lightest (gw gu m cw cu md : Nat) (us : Nat → Bool) (wt : Nat → Nat) (w : World) (hm : m ≤ 1048576) (hmd : md ≤ m)
    (hw : Row w gw m 25 (fun i => .int .u64 (wt i))) (hu : Row w gu m 4 (fun i => .bool (us i))) :
    Calls Try.prog 14 #[.slice (some ⟨gw, 0, none⟩) m cw, .slice (some ⟨gu, 0, none⟩) m cu, .int .i64 md] w fun e w' => LightEnd us wt md w w' e := by
  have HW : Hid (Row w gw m 25 (fun i => .int .u64 (wt i))) := hw
  have HU : Hid (Row w gu m 4 (fun i => .bool (us i))) := hu
  clear hw hu
  go_enter Try.func14, Try.ntmps14
  go_wp2
  go_loopw [7, 8] (fun b j wr => ∃ (k : Nat) (r : Int), k ≤ md ∧ j = .int .i64 k ∧ b = .int .i64 r ∧ Best us wt k r ∧ ∃ q, wr = w.drewN q) (fun _ j _ => md - (intOf j).toNat)
  case atStart => exact ⟨0, -1, Nat.zero_le _, rfl, rfl, best_zero _ _, 0, rfl⟩
  case round =>
    obtain ⟨k, r, hk, rfl, rfl, hb, q, rfl⟩ := hrel
    by_cases hlt : k < md
    · have c1 := HU.out.cell k (by omega)
      have c2 := HW.out.cell k (by omega)
      have b1 : (k : Int) < (m : Int) := by omega
      have b2 : (0 : Int) ≤ (k : Int) := by omega
      have b3 : (k : Int) < (md : Int) := by omega
      have HB : Hid (Best us wt k r) := hb
      cases huk : us k with
      | true =>
        rw [huk] at c1
        have HK : Hid (us k = true) := huk
        clear huk hb
        go_wp2_with fail
        go_quiet (fail)
        go_wp2
        go_roundw
        case rel => exact ⟨k + 1, r, by omega, by go_num, rfl, best_used HB.out HK.out, _, rfl⟩
        case measure => simp [intOf]; omega
      | false =>
        rw [huk] at c1
        have HK : Hid (us k = false) := huk
        clear huk
        rcases hb with ⟨rfl, _⟩ | ⟨t, ht, rfl, _, _⟩
        · have d1 : decide ((-1 : Int) < 0) = true := by decide
          go_wp2_with fail
          go_quiet (fail)
          go_wp2
          go_roundw
          case rel => exact ⟨k + 1, k, by omega, by go_num, rfl, best_first HB.out HK.out, _, rfl⟩
          case measure => simp [intOf]; omega
        · have c3 := HW.out.cell t (by omega)
          have d1 : decide ((t : Int) < 0) = false := by simp
          have b4 : (t : Int) < (m : Int) := by omega
          have b5 : (0 : Int) ≤ (t : Int) := by omega
          by_cases hlt2 : wt k < wt t
          · have hl : ((wt k : Nat) : Int) < ((wt t : Nat) : Int) := by omega
            go_wp2_with fail
            go_quiet (fail)
            go_wp2
            go_roundw
            case rel => exact ⟨k + 1, k, by omega, by go_num, rfl, best_less HB.out HK.out hlt2, _, rfl⟩
            case measure => simp [intOf]; omega
          · have hl : ¬ ((wt k : Nat) : Int) < ((wt t : Nat) : Int) := by omega
            have HL : Hid (¬ wt k < wt t) := hlt2
            go_wp2_with fail
            go_quiet (fail)
            go_wp2
            go_roundw
            case rel => exact ⟨k + 1, t, by omega, by go_num, rfl, best_keep HB.out (by have := HL.out; omega), _, rfl⟩
            case measure => simp [intOf]; omega
    · obtain rfl : md = k := by omega
      have HB : Hid (Best us wt md r) := hb
      clear hb
      go_wp2
      go_ret
      exact ⟨r, rfl, HB.out, q, rfl⟩
end Go.Proofs.Qxb6606286a

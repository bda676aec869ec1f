/- digitValue (8), ZZDigitValue (6), zzHexModel (7). -/
import Derived.Test.Qxb6606290aRows
import Derived.WalkKit
namespace Go.Proofs.Qxb6606290a
open Go.RowKit
set_option linter.unusedVariables false

/-- digitValue, as the program reckons it. -/
def dig (c : Nat) : Int :=
  if 48 ≤ (c : Int) ∧ (c : Int) ≤ 57 then (c : Int) - 48
  else if 97 ≤ bits BinOp.or IntKind.u8 (c : Int) 32 ∧ bits BinOp.or IntKind.u8 (c : Int) 32 ≤ 102 then bits BinOp.or IntKind.u8 (c : Int) 32 - 97 + 10
  else -1

theorem ret_int {k : IntKind} {a b : Int} (h : a = b) : Ending.returned (.int k a) = .returned (.int k b) := by rw [h]
theorem dig_1 {c : Nat} (h1 : 48 ≤ (c : Int)) (h2 : (c : Int) ≤ 57) : dig c = (c : Int) - 48 := by unfold dig; rw [if_pos ⟨h1, h2⟩]
theorem dig_2 {c : Nat} (h : ¬ (48 ≤ (c : Int) ∧ (c : Int) ≤ 57)) (h1 : 97 ≤ bits BinOp.or IntKind.u8 (c : Int) 32) (h2 : bits BinOp.or IntKind.u8 (c : Int) 32 ≤ 102) : dig c = bits BinOp.or IntKind.u8 (c : Int) 32 - 97 + 10 := by
  unfold dig; rw [if_neg h, if_pos ⟨h1, h2⟩]
theorem dig_3 {c : Nat} (h : ¬ (48 ≤ (c : Int) ∧ (c : Int) ≤ 57)) (h1 : ¬ (97 ≤ bits BinOp.or IntKind.u8 (c : Int) 32 ∧ bits BinOp.or IntKind.u8 (c : Int) 32 ≤ 102)) : dig c = -1 := by
  unfold dig; rw [if_neg h, if_neg h1]

theorem digitValue (c : Nat) (w : World) (hc : c < 256) :
    Calls Try.prog 8 #[.int .u8 c] w fun e w' => e = .returned (.int .i32 (dig c)) ∧ w' = w := by
  by_cases h : 48 ≤ (c : Int) ∧ (c : Int) ≤ 57
  · obtain ⟨h1, h2⟩ := h
    go_enter Try.func8, Try.ntmps8
    go_wp2
    go_ret
    exact ⟨ret_int (dig_1 h1 h2).symm, rfl⟩
  · have HN : Hid (¬ (48 ≤ (c : Int) ∧ (c : Int) ≤ 57)) := h
    by_cases g : 97 ≤ bits BinOp.or IntKind.u8 (c : Int) 32 ∧ bits BinOp.or IntKind.u8 (c : Int) 32 ≤ 102
    · obtain ⟨g1, g2⟩ := g
      have e := dig_2 h g1 g2
      have HE : Hid (dig c = bits BinOp.or IntKind.u8 (c : Int) 32 - 97 + 10) := e
      clear e h
      go_enter Try.func8, Try.ntmps8
      go_wp2
      all_goals (first | (exfalso; have := HN.out; omega) | skip)
      all_goals (go_ret; exact ⟨ret_int HE.out.symm, rfl⟩)
    · have e := dig_3 h g
      have HE : Hid (dig c = -1) := e
      have HG : Hid (¬ (97 ≤ bits BinOp.or IntKind.u8 (c : Int) 32 ∧ bits BinOp.or IntKind.u8 (c : Int) 32 ≤ 102)) := g
      clear e h g
      go_enter Try.func8, Try.ntmps8
      go_wp2
      all_goals (first | (exfalso; have := HN.out; have := HG.out; omega) | skip)
      all_goals (go_ret; exact ⟨ret_int HE.out.symm, rfl⟩)

theorem zzDigit (c : Nat) (w : World) (hc : c < 256) :
    Calls Try.prog 6 #[.int .u8 c] w fun e w' => e = .returned (.int .i32 (dig c)) ∧ w' = w := by
  go_enter Try.func6, Try.ntmps6
  go_wp2_with (go_at_call 8; refine (digitValue c _ hc).mono ?_; rintro e w' ⟨rfl, rfl⟩)
  go_ret
  exact ⟨rfl, rfl⟩

/-- The place of c in the table of hex digits of either case, below k; else -1. -/
def lowAt (i : Nat) : Nat := if i < 10 then 48 + i else 87 + i
def uppAt (i : Nat) : Nat := if i < 10 then 48 + i else 55 + i

theorem dig_low : ∀ i : Fin 16, dig (lowAt i) = (i : Nat) := by decide +kernel
theorem dig_upp : ∀ i : Fin 16, dig (uppAt i) = (i : Nat) := by decide +kernel
theorem dig_none : ∀ c : Fin 256, (∀ i : Fin 16, lowAt i ≠ c ∧ uppAt i ≠ c) → dig c = -1 := by decide +kernel
end Go.Proofs.Qxb6606290a

/- The three laws' walks. -/
import Derived.Test.Qxb6606290aDigit
import Derived.WalkKit
namespace Go.Proofs.Qxb6606290a
open Go.RowKit
set_option linter.unusedVariables false

theorem idx_low (v : Nat) (hv : v < 16) (w : World) : (Instr.index 9 (.string ⟨#[48, 49, 50, 51, 52, 53, 54, 55, 56, 57, 97, 98, 99, 100, 101, 102]⟩) (.int .i64 (v : Int))).run Try.prog w = .ok (.int .u8 (lowAt v : Int)) w := by
  have : v = 0 ∨ v = 1 ∨ v = 2 ∨ v = 3 ∨ v = 4 ∨ v = 5 ∨ v = 6 ∨ v = 7 ∨ v = 8 ∨ v = 9 ∨ v = 10 ∨ v = 11 ∨ v = 12 ∨ v = 13 ∨ v = 14 ∨ v = 15 := by omega
  rcases this with rfl | rfl | rfl | rfl | rfl | rfl | rfl | rfl | rfl | rfl | rfl | rfl | rfl | rfl | rfl | rfl <;> exact rfl
theorem idx_upp (v : Nat) (hv : v < 16) (w : World) : (Instr.index 9 (.string ⟨#[48, 49, 50, 51, 52, 53, 54, 55, 56, 57, 65, 66, 67, 68, 69, 70]⟩) (.int .i64 (v : Int))).run Try.prog w = .ok (.int .u8 (uppAt v : Int)) w := by
  have : v = 0 ∨ v = 1 ∨ v = 2 ∨ v = 3 ∨ v = 4 ∨ v = 5 ∨ v = 6 ∨ v = 7 ∨ v = 8 ∨ v = 9 ∨ v = 10 ∨ v = 11 ∨ v = 12 ∨ v = 13 ∨ v = 14 ∨ v = 15 := by omega
  rcases this with rfl | rfl | rfl | rfl | rfl | rfl | rfl | rfl | rfl | rfl | rfl | rfl | rfl | rfl | rfl | rfl <;> exact rfl

theorem low_lt (v : Nat) (hv : v < 16) : lowAt v < 256 := by unfold lowAt; split <;> omega
theorem upp_lt (v : Nat) (hv : v < 16) : uppAt v < 256 := by unfold uppAt; split <;> omega

theorem walk4_in (v : Nat) (up : Bool) (w : World) (hv : v < 16) :
    Calls Try.prog 4 #[.int .i64 v, .bool up] w fun e w' => e = .returned (.bool true) ∧ w' = w := by
  have i1 := idx_low v hv
  have i2 := idx_upp v hv
  have q1 : (dig (lowAt v) == (v : Int)) = true := by have := dig_low ⟨v, hv⟩; simp at this; simp [this]
  have q2 : (dig (uppAt v) == (v : Int)) = true := by have := dig_upp ⟨v, hv⟩; simp at this; simp [this]
  have l1 := low_lt v hv
  have l2 := upp_lt v hv
  generalize lowAt v = L at *
  generalize uppAt v = U at *
  cases up with
  | false =>
    go_enter Try.func4, Try.ntmps4
    go_wp2_with (go_at_call 6; refine (zzDigit L _ l1).mono ?_; rintro e w' ⟨rfl, rfl⟩)
    go_ret
    exact ⟨rfl, rfl⟩
  | true =>
    go_enter Try.func4, Try.ntmps4
    go_wp2_with (go_at_call 6; refine (zzDigit U _ l2).mono ?_; rintro e w' ⟨rfl, rfl⟩)
    go_ret
    exact ⟨rfl, rfl⟩

theorem walk4_out (v : Int) (up : Bool) (w : World) (hv : v < 0 ∨ 15 < v) :
    Calls Try.prog 4 #[.int .i64 v, .bool up] w fun e w' => e = .returned (.bool true) ∧ w' = w := by
  by_cases h : v < 0
  · go_enter Try.func4, Try.ntmps4
    go_wp2
    go_ret
    exact ⟨rfl, rfl⟩
  · have h2 : 15 < v := by omega
    have h1 : 0 ≤ v := by omega
    go_enter Try.func4, Try.ntmps4
    go_wp2
    go_ret
    exact ⟨rfl, rfl⟩

set_option maxHeartbeats 1000000 in
theorem hexModel (c : Nat) (w : World) (hc : c < 256) :
    Calls Try.prog 7 #[.int .u8 c] w fun e w' => e = .returned (.int .i32 (dig c)) ∧ w' = w := by
  go_enter Try.func7, Try.ntmps7
  go_wp2
  go_loop [3] (fun i => ∃ k : Nat, k ≤ 16 ∧ i = .int .i64 k ∧ ∀ j, j < k → lowAt j ≠ c ∧ uppAt j ≠ c) (fun i => 16 - (intOf i).toNat)
  case atStart => exact ⟨0, by omega, rfl, fun j hj => by omega⟩
  case round =>
    obtain ⟨k, hk, rfl, hno⟩ := hrel
    have HN : Hid (∀ j, j < k → lowAt j ≠ c ∧ uppAt j ≠ c) := hno
    clear hno
    by_cases hlt : k < 16
    · have i1 := idx_low k hlt
      have i2 := idx_upp k hlt
      have hl : (k : Int) < 16 := by omega
      by_cases h1 : lowAt k = c
      · have hd : dig c = (k : Int) := by rw [← h1]; exact dig_low ⟨k, hlt⟩
        have HD : Hid (dig c = (k : Int)) := hd
        have t1 : ((lowAt k : Int) == (c : Int)) = true := by simp [h1]
        clear h1 hd
        generalize lowAt k = L at *
        go_wp2
        go_ret
        exact ⟨ret_int HD.out.symm, rfl⟩
      · have t1 : ((lowAt k : Int) == (c : Int)) = false := by simp; omega
        by_cases h2 : uppAt k = c
        · have hd : dig c = (k : Int) := by rw [← h2]; exact dig_upp ⟨k, hlt⟩
          have HD : Hid (dig c = (k : Int)) := hd
          have t2 : ((uppAt k : Int) == (c : Int)) = true := by simp [h2]
          clear h1 h2 hd
          generalize lowAt k = L at *
          generalize uppAt k = U at *
          go_wp2
          go_ret
          exact ⟨ret_int HD.out.symm, rfl⟩
        · have t2 : ((uppAt k : Int) == (c : Int)) = false := by simp; omega
          have HN2 : Hid (∀ j, j < k + 1 → lowAt j ≠ c ∧ uppAt j ≠ c) := fun j hj => by
            by_cases e : j = k
            · subst e; exact ⟨h1, h2⟩
            · exact HN.out j (by omega)
          clear h1 h2
          generalize lowAt k = L at *
          generalize uppAt k = U at *
          go_wp2
          go_round
          case rel => exact ⟨k + 1, by omega, by go_num, HN2.out⟩
          case measure => simp [intOf]; omega
    · obtain rfl : k = 16 := by omega
      have hd : dig c = -1 := dig_none ⟨c, hc⟩ (fun i => HN.out i i.2)
      have HD : Hid (dig c = -1) := hd
      clear hd
      go_wp2
      go_ret
      exact ⟨ret_int HD.out.symm, rfl⟩

theorem walk3_all (c : Nat) (w : World) (hc : c < 256) :
    Calls Try.prog 3 #[.int .u8 c] w fun e w' => e = .returned (.bool true) ∧ w' = w := by
  go_enter Try.func3, Try.ntmps3
  go_wp2_with (first | (go_at_call 6; refine (zzDigit c _ hc).mono ?_; rintro e w' ⟨rfl, rfl⟩) | (go_at_call 7; refine (hexModel c _ hc).mono ?_; rintro e w' ⟨rfl, rfl⟩))
  go_ret
  exact ⟨by simp, rfl⟩
end Go.Proofs.Qxb6606290a

/- The small functions of seat b6606418a: SizeF64Vec (14), SizeF64Mat (7), zzBytes (6, 12), LayoutOK (8), RowsOK (9), Same (11). -/
import Derived.Test.Qxb6606418aRows
import Derived.Test.Qxb6606418aMem
import Derived.WalkKit
import Derived.WalkLawsBesides
import Derived.WalkSpells
import Derived.Deep.Light
namespace Go.Proofs.Qxb6606418a
open Go.RowKit
set_option linter.unusedVariables false

/-- WHAT A WALK IS TOLD OF A [][]float64 THAT CAME IN: its rows as slices; the cells of each row that is not empty. -/
structure Mat (w : World) (a : Option Addr) (len : Nat) (A : Nat → Option Addr) (L C Bk Ok : Nat → Nat) (F : Nat → Nat → Nat) : Prop where
  le : len ≤ 9223372036854775807
  ll : ∀ r, r < len → L r ≤ 9223372036854775807
  at_ : 0 < len → ∃ b o, a = some ⟨b, o, none⟩ ∧ ∀ r, r < len → w.cell? ⟨b, o + r, none⟩ = some (.slice (A r) (L r) (C r))
  row : ∀ r, r < len → 0 < L r → A r = some ⟨Bk r, Ok r, none⟩ ∧ ∀ c, c < L r → w.cell? ⟨Bk r, Ok r + c, none⟩ = some (.float .f64 (F r c))

theorem sizeVec (a : Option Addr) (len cap : Nat) (w : World) (h : len ≤ 9223372036854775807) :
    Calls Try.prog 14 #[.slice a len cap] w fun e w' => e = .returned (.int .i64 (if (1048576 : Int) < (len : Int) then 1048577 else 8 * (len : Int))) ∧ w' = w := by
  by_cases hl : (1048576 : Int) < (len : Int)
  · rw [if_pos hl]
    go_enter Try.func14, Try.ntmps14
    go_wp2
    go_ret
    exact ⟨rfl, rfl⟩
  · rw [if_neg hl]
    go_enter Try.func14, Try.ntmps14
    go_wp2
    go_ret
    exact ⟨rfl, rfl⟩

/-- It ends with a number between 0 and the limit and one. -/
def SizeEnd (e : Ending) : Prop := ∃ t : Int, e = .returned (.int .i64 t) ∧ 0 ≤ t ∧ t ≤ 1048577

set_option maxHeartbeats 1000000 in
theorem sizeMat (a : Option Addr) (len cap : Nat) (A : Nat → Option Addr) (L C Bk Ok : Nat → Nat) (F : Nat → Nat → Nat) (w : World) (h : Mat w a len A L C Bk Ok F) :
    Calls Try.prog 7 #[.slice a len cap] w fun e w' => SizeEnd e ∧ w' = w := by
  have hle := h.le
  have HM : Hid (Mat w a len A L C Bk Ok F) := h
  clear h
  by_cases hl : 131072 < len
  · by_cases hl2 : 1048576 < len
    · go_enter Try.func7, Try.ntmps7
      go_wp2
      go_ret
      exact ⟨⟨_, rfl, by omega, by omega⟩, rfl⟩
    · go_enter Try.func7, Try.ntmps7
      go_wp2
      go_ret
      exact ⟨⟨_, rfl, by omega, by omega⟩, rfl⟩
  · go_enter Try.func7, Try.ntmps7
    go_wp2_with fail
    go_loop [3, 4] (fun t i => ∃ (k : Nat) (x : Int), k ≤ len ∧ i = .int .i64 k ∧ t = .int .i64 x ∧ 0 ≤ x ∧ x ≤ 1048576) (fun _ i => len - (intOf i).toNat)
    case atStart => exact ⟨0, _, Nat.zero_le _, rfl, rfl, by omega, by omega⟩
    case round =>
      obtain ⟨k, x, hk, rfl, rfl, hx0, hx1⟩ := hrel
      by_cases hlt : k < len
      · obtain ⟨b, o, rfl, hc⟩ := HM.out.at_ (by omega)
        have hck := hc k hlt
        have hlk := HM.out.ll k hlt
        have hsv := sizeVec (A k) (L k) (C k) w hlk
        obtain ⟨y, hy⟩ : ∃ y, (if (1048576 : Int) < (L k : Int) then (1048577 : Int) else 8 * (L k : Int)) = y := ⟨_, rfl⟩
        have hy0 : 0 ≤ y := by rw [← hy]; split <;> omega
        have hy1 : y ≤ 8388608 := by rw [← hy]; split <;> omega
        rw [hy] at hsv
        clear hy
        have HS : Hid (Calls Try.prog 14 #[.slice (A k) (L k) (C k)] w fun e w' => e = .returned (.int .i64 y) ∧ w' = w) := hsv
        clear hsv
        by_cases ht : 1048576 < x + y
        · go_wp2_with fail
          refine Calls.mono HS.out ?_
          rintro e w' ⟨rfl, rfl⟩
          go_wp2
          go_ret
          exact ⟨⟨_, rfl, by omega, by omega⟩, rfl⟩
        · go_wp2_with fail
          refine Calls.mono HS.out ?_
          rintro e w' ⟨rfl, rfl⟩
          go_wp2
          go_round
          case rel => exact ⟨k + 1, x + y, by omega, by go_num, rfl, by omega, by omega⟩
          case measure => simp [intOf]; omega
      · obtain rfl : k = len := by omega
        go_wp2
        go_ret
        exact ⟨⟨_, rfl, by omega, by omega⟩, rfl⟩

def BytesEnd (n : Nat) (e : Ending) : Prop := ∃ r : Bool, e = .returned (.bool r) ∧ (r = true → n ≤ 1048576)
theorem bytesEnd_no (n : Nat) : BytesEnd n (.returned (.bool false)) := ⟨false, rfl, fun h => by cases h⟩
theorem bytesEnd_yes {n : Nat} (h : n ≤ 1048576) : BytesEnd n (.returned (.bool true)) := ⟨true, rfl, fun _ => h⟩

set_option maxHeartbeats 1000000 in
theorem bytes12 (p0 p1 p2 p3 p4 p6 : Int) (a : Option Addr) (len cap : Nat) (A : Nat → Option Addr) (L C Bk Ok : Nat → Nat) (F : Nat → Nat → Nat) (w : World) (h : Mat w a len A L C Bk Ok F) :
    Calls Try.prog 12 #[.int .i64 p0, .int .i64 p1, .int .i64 p2, .int .i64 p3, .int .i64 p4, .slice a len cap, .int .i64 p6] w fun e w' => BytesEnd len e ∧ w' = w := by
  have hle := h.le
  have HM : Hid (Mat w a len A L C Bk Ok F) := h
  clear h
  by_cases hl : 1048576 < len
  · go_enter Try.func12, Try.ntmps12
    go_wp2
    go_ret
    exact ⟨bytesEnd_no _, rfl⟩
  · go_enter Try.func12, Try.ntmps12
    go_wp2_with fail
    go_loop [15, 16] (fun t i => ∃ (k : Nat) (x : Int), k ≤ len ∧ i = .int .i64 k ∧ t = .int .i64 x ∧ 0 ≤ x ∧ x ≤ 1048576) (fun _ i => len - (intOf i).toNat)
    case atStart => exact ⟨0, _, Nat.zero_le _, rfl, rfl, by omega, by omega⟩
    case round =>
      obtain ⟨k, x, hk, rfl, rfl, hx0, hx1⟩ := hrel
      by_cases hlt : k < len
      · obtain ⟨b, o, rfl, hc⟩ := HM.out.at_ (by omega)
        have hck := hc k hlt
        have hlk := HM.out.ll k hlt
        by_cases hL : 1048576 < L k
        · go_wp2
          go_ret
          exact ⟨bytesEnd_no _, rfl⟩
        · by_cases hs : 1048576 < x + (L k : Int)
          · go_wp2
            go_ret
            exact ⟨bytesEnd_no _, rfl⟩
          · go_wp2
            go_round
            case rel => exact ⟨k + 1, x + (L k : Int), by omega, by go_num, rfl, by omega, by omega⟩
            case measure => simp [intOf]; omega
      · obtain rfl : k = len := by omega
        go_wp2
        go_ret
        exact ⟨bytesEnd_yes (by omega), rfl⟩

set_option maxHeartbeats 1000000 in
theorem bytes6 (p0 p1 p2 p3 p4 p7 : Int) (a : Option Addr) (len cap : Nat) (A : Nat → Option Addr) (L C Bk Ok : Nat → Nat) (F : Nat → Nat → Nat)
    (a' : Option Addr) (len' cap' : Nat) (A' : Nat → Option Addr) (L' C' Bk' Ok' : Nat → Nat) (F' : Nat → Nat → Nat) (w : World) (h : Mat w a len A L C Bk Ok F) (h' : Mat w a' len' A' L' C' Bk' Ok' F') :
    Calls Try.prog 6 #[.int .i64 p0, .int .i64 p1, .int .i64 p2, .int .i64 p3, .int .i64 p4, .slice a len cap, .slice a' len' cap', .int .i64 p7] w fun e w' => BytesEnd (len + len') e ∧ w' = w := by
  have hle := h.le
  have hle' := h'.le
  have HM : Hid (Mat w a len A L C Bk Ok F) := h
  have HM' : Hid (Mat w a' len' A' L' C' Bk' Ok' F') := h'
  clear h h'
  by_cases hl : 1048576 < len
  · go_enter Try.func6, Try.ntmps6
    go_wp2
    go_ret
    exact ⟨bytesEnd_no _, rfl⟩
  · go_enter Try.func6, Try.ntmps6
    go_wp2_with fail
    go_loop [17, 18] (fun t i => ∃ (k : Nat) (x : Int), k ≤ len ∧ i = .int .i64 k ∧ t = .int .i64 x ∧ (len : Int) ≤ x ∧ x ≤ 1048576) (fun _ i => len - (intOf i).toNat)
    case atStart => exact ⟨0, _, Nat.zero_le _, rfl, rfl, by omega, by omega⟩
    case round =>
      obtain ⟨k, x, hk, rfl, rfl, hx0, hx1⟩ := hrel
      by_cases hlt : k < len
      · obtain ⟨b, o, rfl, hc⟩ := HM.out.at_ (by omega)
        have hck := hc k hlt
        have hlk := HM.out.ll k hlt
        by_cases hL : 1048576 < L k
        · go_wp2
          go_ret
          exact ⟨bytesEnd_no _, rfl⟩
        · by_cases hs : 1048576 < x + (L k : Int)
          · go_wp2
            go_ret
            exact ⟨bytesEnd_no _, rfl⟩
          · go_wp2
            go_round
            case rel => exact ⟨k + 1, x + (L k : Int), by omega, by go_num, rfl, by omega, by omega⟩
            case measure => simp [intOf]; omega
      · obtain rfl : len = k := by omega
        by_cases hl' : 1048576 < len'
        · go_wp2
          go_ret
          exact ⟨bytesEnd_no _, rfl⟩
        · by_cases hs : 1048576 < x + (len' : Int)
          · go_wp2
            go_ret
            exact ⟨bytesEnd_no _, rfl⟩
          · go_wp2_with fail
            go_loop [17, 19] (fun t i => ∃ (k : Nat) (x : Int), k ≤ len' ∧ i = .int .i64 k ∧ t = .int .i64 x ∧ (len : Int) + (len' : Int) ≤ x ∧ x ≤ 1048576) (fun _ i => len' - (intOf i).toNat)
            case atStart => exact ⟨0, _, Nat.zero_le _, rfl, rfl, by omega, by omega⟩
            case round =>
              obtain ⟨k, x, hk, rfl, rfl, hx0, hx1⟩ := hrel
              by_cases hlt : k < len'
              · obtain ⟨b, o, rfl, hc⟩ := HM'.out.at_ (by omega)
                have hck := hc k hlt
                have hlk := HM'.out.ll k hlt
                by_cases hL : 1048576 < L' k
                · go_wp2
                  go_ret
                  exact ⟨bytesEnd_no _, rfl⟩
                · by_cases hs : 1048576 < x + (L' k : Int)
                  · go_wp2
                    go_ret
                    exact ⟨bytesEnd_no _, rfl⟩
                  · go_wp2
                    go_round
                    case rel => exact ⟨k + 1, x + (L' k : Int), by omega, by go_num, rfl, by omega, by omega⟩
                    case measure => simp [intOf]; omega
              · obtain rfl : k = len' := by omega
                go_wp2
                go_ret
                exact ⟨bytesEnd_yes (by omega), rfl⟩
end Go.Proofs.Qxb6606418a

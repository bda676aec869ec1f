/- LayoutOK (8), RowsOK (9), Same (11). -/
import Derived.Test.Qxb6606418aSmall
import Derived.BigQuiet
import Derived.Deep.QuietTactic
namespace Go.Proofs.Qxb6606418a
open Go.RowKit
set_option linter.unusedVariables false

/-- A layout that fits; Q is its stride, R its number of rows to a ciphertext. -/
structure LayoutP (width block spacing regr slots i : Int) (Q R : Int) : Prop where
  b1 : 1 ≤ block
  b2 : block ≤ 65536
  s1 : 1 ≤ spacing
  s2 : spacing ≤ 65536
  wb : width ≤ block
  rs : regr ≤ spacing
  l0 : 0 ≤ slots
  l1 : slots ≤ 65536
  q : block * spacing = Q
  q1 : 1 ≤ Q
  q2 : Q ≤ 65536
  r : slots / Q = R
  r0 : 0 ≤ R
  r1 : R * Q ≤ slots
  i0 : 0 < R → 0 ≤ i
  i1 : 0 < R → i * R ≤ 1073741824

theorem layoutP_of {width block spacing regr slots i : Int} (b1 : 1 ≤ block) (b2 : block ≤ 65536) (s1 : 1 ≤ spacing) (s2 : spacing ≤ 65536 / block) (wb : width ≤ block) (rs : regr ≤ spacing) (l0 : 0 ≤ slots) (l1 : slots ≤ 65536)
    (hi : 0 < slots / (block * spacing) → 0 ≤ i ∧ i ≤ 1073741824 / (slots / (block * spacing))) : LayoutP width block spacing regr slots i (block * spacing) (slots / (block * spacing)) := by
  have hq2 : block * spacing ≤ 65536 := by
    have h1 : block * spacing ≤ block * (65536 / block) := Int.mul_le_mul_of_nonneg_left s2 (by omega)
    have h2 := Int.mul_ediv_self_le (x := 65536) (k := block) (by omega)
    omega
  have hq1 : 1 ≤ block * spacing := by
    have h1 : block * 1 ≤ block * spacing := Int.mul_le_mul_of_nonneg_left s1 (by omega)
    omega
  have hs : spacing ≤ 65536 := by
    have h1 : 1 * spacing ≤ block * spacing := Int.mul_le_mul_of_nonneg_right b1 (by omega)
    omega
  refine ⟨b1, b2, s1, hs, wb, rs, l0, l1, rfl, hq1, hq2, rfl, Int.ediv_nonneg l0 (by omega), ?_, fun h => (hi h).1, fun h => ?_⟩
  · have := Int.mul_ediv_self_le (x := slots) (k := block * spacing) (by omega)
    rw [Int.mul_comm]; exact this
  · have h1 : i * (slots / (block * spacing)) ≤ 1073741824 / (slots / (block * spacing)) * (slots / (block * spacing)) := Int.mul_le_mul_of_nonneg_right (hi h).2 (by omega)
    have h2 := Int.mul_ediv_self_le (x := 1073741824) (k := slots / (block * spacing)) (by omega)
    rw [Int.mul_comm] at h2
    omega

def LayoutEnd (width block spacing regr slots i : Int) (e : Ending) : Prop := ∃ r : Bool, e = .returned (.bool r) ∧ (r = true → ∃ Q R, LayoutP width block spacing regr slots i Q R)
theorem layoutEnd_no (width block spacing regr slots i : Int) : LayoutEnd width block spacing regr slots i (.returned (.bool false)) := ⟨false, rfl, fun h => by cases h⟩

set_option maxHeartbeats 2000000 in
theorem layoutOK (width block spacing regr slots i : Int) (w : World) :
    Calls Try.prog 8 #[.int .i64 width, .int .i64 block, .int .i64 spacing, .int .i64 regr, .int .i64 slots, .int .i64 i] w fun e w' => LayoutEnd width block spacing regr slots i e ∧ w' = w := by
  by_cases h1 : block < 1
  · go_enter Try.func8, Try.ntmps8
    go_wp2
    go_ret
    exact ⟨layoutEnd_no _ _ _ _ _ _, rfl⟩
  by_cases h2 : 65536 < block
  · go_enter Try.func8, Try.ntmps8
    go_wp2
    go_ret
    exact ⟨layoutEnd_no _ _ _ _ _ _, rfl⟩
  by_cases h3 : spacing < 1
  · go_enter Try.func8, Try.ntmps8
    go_wp2
    go_ret
    exact ⟨layoutEnd_no _ _ _ _ _ _, rfl⟩
  have g1 : 1 ≤ block := by omega
  have g2 : block ≤ 65536 := by omega
  by_cases h4 : 65536 / block < spacing
  · go_enter Try.func8, Try.ntmps8
    go_wp2
    go_ret
    exact ⟨layoutEnd_no _ _ _ _ _ _, rfl⟩
  by_cases h5 : block < width
  · go_enter Try.func8, Try.ntmps8
    go_wp2
    go_ret
    exact ⟨layoutEnd_no _ _ _ _ _ _, rfl⟩
  by_cases h6 : spacing < regr
  · go_enter Try.func8, Try.ntmps8
    go_wp2
    go_ret
    exact ⟨layoutEnd_no _ _ _ _ _ _, rfl⟩
  by_cases h7 : slots < 0
  · go_enter Try.func8, Try.ntmps8
    go_wp2
    go_ret
    exact ⟨layoutEnd_no _ _ _ _ _ _, rfl⟩
  by_cases h8 : 65536 < slots
  · go_enter Try.func8, Try.ntmps8
    go_wp2
    go_ret
    exact ⟨layoutEnd_no _ _ _ _ _ _, rfl⟩
  have hfin := fun hi => layoutP_of (width := width) (regr := regr) (i := i) g1 g2 (show 1 ≤ spacing by omega) (show spacing ≤ 65536 / block by omega) (show width ≤ block by omega) (show regr ≤ spacing by omega) (show 0 ≤ slots by omega) (show slots ≤ 65536 by omega) hi
  have hq2 : block * spacing ≤ 65536 := by
    have a1 : block * spacing ≤ block * (65536 / block) := Int.mul_le_mul_of_nonneg_left (by omega) (by omega)
    have a2 := Int.mul_ediv_self_le (x := 65536) (k := block) (by omega)
    omega
  have hq1 : 1 ≤ block * spacing := by
    have a1 : block * 1 ≤ block * spacing := Int.mul_le_mul_of_nonneg_left (show 1 ≤ spacing by omega) (by omega)
    omega
  obtain ⟨Q, hQ⟩ : ∃ Q, block * spacing = Q := ⟨_, rfl⟩
  rw [hQ] at hfin hq1 hq2
  obtain ⟨R, hR⟩ : ∃ R, slots / Q = R := ⟨_, rfl⟩
  have hR0 : 0 ≤ R := by rw [← hR]; exact Int.ediv_nonneg (by omega) (by omega)
  have hR1 : R ≤ 65536 := by
    have := Int.ediv_le_self (a := slots) Q (by omega)
    rw [hR] at this; omega
  rw [hR] at hfin
  have HF : Hid ((0 < R → 0 ≤ i ∧ i ≤ 1073741824 / R) → LayoutP width block spacing regr slots i Q R) := hfin
  clear hfin
  by_cases h9 : 0 < R
  · by_cases h10 : i < 0
    · go_enter Try.func8, Try.ntmps8
      go_wp2
      go_ret
      exact ⟨layoutEnd_no _ _ _ _ _ _, rfl⟩
    · by_cases h11 : 1073741824 / R < i
      · go_enter Try.func8, Try.ntmps8
        go_wp2
        go_ret
        exact ⟨layoutEnd_no _ _ _ _ _ _, rfl⟩
      · have HE : Hid (LayoutEnd width block spacing regr slots i (.returned (.bool true))) := ⟨true, rfl, fun _ => ⟨Q, R, HF.out (fun _ => ⟨by omega, by omega⟩)⟩⟩
        go_enter Try.func8, Try.ntmps8
        go_wp2
        go_ret
        exact ⟨HE.out, rfl⟩
  · have HE : Hid (LayoutEnd width block spacing regr slots i (.returned (.bool true))) := ⟨true, rfl, fun _ => ⟨Q, R, HF.out (fun h => absurd h h9)⟩⟩
    go_enter Try.func8, Try.ntmps8
    go_wp2
    go_ret
    exact ⟨HE.out, rfl⟩

def rowsTo (width : Int) (L L' : Nat → Nat) (k : Nat) : Prop := ∀ r, r < k → width ≤ (L r : Int) ∧ width ≤ (L' r : Int)
def RowsEnd (width : Int) (len len' : Nat) (L L' : Nat → Nat) (e : Ending) : Prop := ∃ r : Bool, e = .returned (.bool r) ∧ (r = true → len ≤ len' ∧ rowsTo width L L' len)
theorem rowsEnd_no (width : Int) (len len' : Nat) (L L' : Nat → Nat) : RowsEnd width len len' L L' (.returned (.bool false)) := ⟨false, rfl, fun h => by cases h⟩

set_option maxHeartbeats 1000000 in
theorem rowsOK (width : Int) (a : Option Addr) (len cap : Nat) (A : Nat → Option Addr) (L C Bk Ok : Nat → Nat) (F : Nat → Nat → Nat)
    (a' : Option Addr) (len' cap' : Nat) (A' : Nat → Option Addr) (L' C' Bk' Ok' : Nat → Nat) (F' : Nat → Nat → Nat) (w : World) (h : Mat w a len A L C Bk Ok F) (h' : Mat w a' len' A' L' C' Bk' Ok' F') :
    Calls Try.prog 9 #[.slice a len cap, .slice a' len' cap', .int .i64 width] w fun e w' => RowsEnd width len len' L L' e ∧ w' = w := by
  have hle := h.le
  have hle' := h'.le
  have HM : Hid (Mat w a len A L C Bk Ok F) := h
  have HM' : Hid (Mat w a' len' A' L' C' Bk' Ok' F') := h'
  clear h h'
  by_cases hl : len' < len
  · go_enter Try.func9, Try.ntmps9
    go_wp2
    go_ret
    exact ⟨rowsEnd_no _ _ _ _ _, rfl⟩
  · go_enter Try.func9, Try.ntmps9
    go_wp2_with fail
    go_loop [7] (fun i => ∃ k : Nat, k ≤ len ∧ i = .int .i64 k ∧ rowsTo width L L' k) (fun i => len - (intOf i).toNat)
    case atStart => exact ⟨0, Nat.zero_le _, rfl, fun r hr => by omega⟩
    case round =>
      obtain ⟨k, hk, rfl, hto⟩ := hrel
      by_cases hlt : k < len
      · obtain ⟨b, o, hab, hc⟩ := HM.out.at_ (by omega)
        obtain ⟨b', o', hab', hc'⟩ := HM'.out.at_ (by omega)
        have hck := hc k hlt
        have hck' := hc' k (by omega)
        have hlk := HM.out.ll k hlt
        have hlk' := HM'.out.ll k (by omega)
        have HT : Hid (rowsTo width L L' k) := hto
        clear hc hc' hto
        subst hab
        subst hab'
        by_cases h1 : (L k : Int) < width
        · go_wp2
          go_ret
          exact ⟨rowsEnd_no _ _ _ _ _, rfl⟩
        · by_cases h2 : (L' k : Int) < width
          · go_wp2
            go_ret
            exact ⟨rowsEnd_no _ _ _ _ _, rfl⟩
          · have HT2 : Hid (rowsTo width L L' (k + 1)) := fun r hr => by
              by_cases e : r = k
              · subst e; omega
              · exact HT.out r (by omega)
            go_wp2
            go_round
            case rel => exact ⟨k + 1, by omega, by go_num, HT2.out⟩
            case measure => simp [intOf]; omega
      · obtain rfl : len = k := by omega
        have HE : Hid (RowsEnd width len len' L L' (.returned (.bool true))) := ⟨true, rfl, fun _ => ⟨by omega, hto⟩⟩
        clear hto
        go_wp2
        go_ret
        exact ⟨HE.out, rfl⟩

theorem same (b : Nat) (w : World) : Calls Try.prog 11 #[.float .f64 b, .float .f64 b] w fun e w' => e = .returned (.bool true) ∧ w' = w := by
  cases hE : (FloatKind.f64.format.order b b == some Ordering.eq) with
  | true =>
    go_enter Try.func11, Try.ntmps11
    go_wp2
    go_ret
    exact ⟨rfl, rfl⟩
  | false =>
    have hN : (FloatKind.f64.format.order b b != some Ordering.eq) = true := by simp [bne, hE]
    go_enter Try.func11, Try.ntmps11
    go_wp2
    go_ret
    exact ⟨rfl, rfl⟩
end Go.Proofs.Qxb6606418a

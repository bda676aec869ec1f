/- THE WALK OF FnIsPaddingOfJoinedTails (function 3). -/
import Derived.Test.Qxb6605366aSmall
namespace Go.Proofs.Qxb6605366a
open Go.RowKit
set_option linter.unusedVariables false

/-- The octets of a (m of them) and, behind them, those of b. -/
def join (m : Nat) (x y : Nat → Int) : Nat → Int := fun i => if i < m then x i else y (i - m)
theorem join_zero {m n : Nat} {x y : Nat → Int} : zeroTo (join m x y) (m + n) ↔ zeroTo x m ∧ zeroTo y n := by
  refine ⟨fun h => ⟨fun i hi => ?_, fun i hi => ?_⟩, fun h i hi => ?_⟩
  · have := h i (by omega)
    unfold join at this
    rwa [if_pos hi] at this
  · have := h (m + i) (by omega)
    unfold join at this
    rw [if_neg (by omega)] at this
    rwa [show m + i - m = i by omega] at this
  · unfold join
    by_cases hlt : i < m
    · rw [if_pos hlt]; exact h.1 i hlt
    · rw [if_neg hlt]; exact h.2 _ (by omega)
theorem join_oct {m n : Nat} {x y : Nat → Int} (hx : ∀ i, i < m → 0 ≤ x i ∧ x i ≤ 255) (hy : ∀ i, i < n → 0 ≤ y i ∧ y i ≤ 255) : ∀ i, i < m + n → 0 ≤ join m x y i ∧ join m x y i ≤ 255 := by
  intro i hi
  unfold join
  by_cases hlt : i < m
  · rw [if_pos hlt]; exact hx i hlt
  · rw [if_neg hlt]; exact hy _ (by omega)

theorem walk_long (a b : Option Addr) (len cap len' cap' : Nat) (w : World) (h : ¬ len + len' ≤ 1048576) (h1 : len ≤ 9223372036854775807) (h2 : len' ≤ 9223372036854775807) :
    Calls Try.prog 3 #[.slice a len cap, .slice b len' cap'] w fun e w' => e = .returned (.bool true) ∧ Below w.heap.size w w' := by
  go_enter Try.func3, Try.ntmps3
  go_wp2_with fail
  refine (bytes4_no a b len cap len' cap' w h h1 h2).mono ?_
  rintro e w' ⟨rfl, rfl⟩
  go_wp2
  go_ret
  exact ⟨rfl, Below.refl _ _⟩

set_option maxHeartbeats 1000000 in
theorem walk_main (a b : Option Addr) (m cap n cap' : Nat) (x y : Nat → Int) (w : World) (hmn : m + n ≤ 1048576) (ha : a = none → m = 0) (hb : b = none → n = 0) (hx : BS w a m x) (hy : BS w b n y) :
    Calls Try.prog 3 #[.slice a m cap, .slice b n cap'] w fun e w' => e = .returned (.bool true) ∧ Below w.heap.size w w' := by
  have HX : Hid (BS w a m x) := hx
  have HY : Hid (BS w b n y) := hy
  have HA : Hid (a = none → m = 0) := ha
  have HB : Hid (b = none → n = 0) := hb
  clear hx hy ha hb
  obtain ⟨i0, hi, hz0, hz1, hz2⟩ := info_parts Try.info5
  go_enter Try.func3, Try.ntmps3
  go_wp2_with fail
  refine (bytes4_yes a b m cap n cap' w hmn).mono ?_
  rintro e w' ⟨rfl, rfl⟩
  go_wp2_with fail
  refine (cloneBytes a m cap x _ (by omega) HA.out HX.out).mono ?_
  rintro e w1 ⟨a1, cap1, rfl, hx1, hb1⟩
  have HX1 : Hid (BS w1 a1 m x) := hx1
  have HB1 : Hid (Below w'.heap.size w' w1) := hb1
  have HY1 : Hid (BS w1 b n y) := HY.out.below hb1
  clear hx1 hb1
  go_wp2_with fail
  refine (cloneBytes b n cap' y _ (by omega) HB.out HY1.out).mono ?_
  rintro e w2 ⟨b2, cap2, rfl, hy2, hb2⟩
  have HX2 : Hid (BS w2 a1 m x) := HX1.out.below hb2
  have HY2 : Hid (BS w2 b2 n y) := hy2
  have HB2 : Hid (Below w'.heap.size w' w2) := HB1.out.trans (hb2.mono HB1.out.size)
  clear hy2 hb2
  go_wp2_with (at_make; refine wpList_make_row _ rfl _ _ 22 rfl 5 i0 (.int .u8 0) 1 Try.underlying22 hi hz0 hz1 hz2 rfl .i64 .i64 _ _ (m + n) rfl rfl (by simp) (by simp) (by omega) (by unfold maxLen; omega) ?_; intro w3 hrow hbel hsz)
  have R3 : Hid (Row w3 w2.heap.size (m + n) 5 (fun _ => .int .u8 0)) := hrow
  have B3 : Hid (Below w2.heap.size w2 w3) := hbel
  clear hrow hbel hsz
  go_loopw [6] (fun i wr => ∃ k : Nat, k ≤ m ∧ i = .int .i64 k ∧ Row wr w2.heap.size (m + n) 5 (fun i => .int .u8 (if i < k then x i else 0)) ∧ Below w2.heap.size w2 wr) (fun i _ => m - (intOf i).toNat)
  case atStart => exact ⟨0, Nat.zero_le _, rfl, R3.out.congr (fun i hi => by simp), B3.out⟩
  case round =>
    clear R3 B3
    obtain ⟨k, hk, rfl, hrow, hbel⟩ := hrel
    by_cases hlt : k < m
    · obtain ⟨bb, off, ha, hb, hc⟩ := HX2.out.at_ (by omega)
      subst ha
      have hck : wr.cell? ⟨bb, off + k, none⟩ = some (.int .u8 (x k)) := (hbel.cell (by exact hb)).trans (hc k hlt)
      have hcr := hrow.cell k (by omega)
      have hfr := hrow.free k
      have hr2 := hrow.set k (.int .u8 (x k))
      have hb2 := hbel.setCell (p := ⟨w2.heap.size, k, none⟩) (Nat.le_refl _) (.int .u8 (x k))
      go_wp2
      go_roundw
      case rel =>
        refine ⟨k + 1, by omega, by go_num, hr2.congr (fun i hi => ?_), hb2⟩
        go_light
        by_cases e : i = k
        · subst e; simp [upd]
        · have : (i < k + 1) = (i < k) := by simp; omega
          simp [upd, e, this]
      case measure => simp [intOf]; omega
    · obtain rfl : m = k := by omega
      have R4 : Hid (Row wr w2.heap.size (m + n) 5 (fun i => .int .u8 (if i < m then x i else 0))) := hrow
      have B4 : Hid (Below w2.heap.size w2 wr) := hbel
      clear hrow hbel
      go_wp2_with fail
      go_loopw [7] (fun i wr => ∃ k : Nat, k ≤ n ∧ i = .int .i64 k ∧ Row wr w2.heap.size (m + n) 5 (fun i => .int .u8 (if i < m + k then join m x y i else 0)) ∧ Below w2.heap.size w2 wr) (fun i _ => n - (intOf i).toNat)
      case atStart => exact ⟨0, Nat.zero_le _, rfl, R4.out.congr (fun i hi => by unfold join; by_cases h : i < m <;> simp [h]), B4.out⟩
      case round =>
        clear R4 B4
        obtain ⟨k, hk, rfl, hrow, hbel⟩ := hrel
        by_cases hlt : k < n
        · obtain ⟨bb, off, ha, hb, hc⟩ := HY2.out.at_ (by omega)
          subst ha
          have hck := (hbel.cell (p := ⟨bb, off + k, none⟩) (by exact hb)).trans (hc k hlt)
          have hcr := hrow.cell (m + k) (by omega)
          have hfr := hrow.free (m + k)
          have hr2 := hrow.set (m + k) (.int .u8 (y k))
          have hb2 := hbel.setCell (p := ⟨w2.heap.size, m + k, none⟩) (Nat.le_refl _) (.int .u8 (y k))
          go_wp2
          go_roundw
          case rel =>
            refine ⟨k + 1, by omega, by go_num, hr2.congr (fun i hi => ?_), hb2⟩
            go_light
            by_cases e : i = m + k
            · subst e; simp [upd, join]; intro h; omega
            · have : (i < m + (k + 1)) = (i < m + k) := by simp; omega
              simp [upd, e, this]
          case measure => simp [intOf]; omega
        · obtain rfl : n = k := by omega
          have BJ : Hid (BS _ (some ⟨w2.heap.size, 0, none⟩) (m + n) (join m x y)) := BS.of_row (hrow.congr (fun i hi => by simp [hi])) (join_oct HX2.out.oct HY2.out.oct)
          have HX5 : Hid (BS _ a1 m x) := HX2.out.below hbel
          have HY5 : Hid (BS _ b2 n y) := HY2.out.below hbel
          have HB5 := HB2.out.trans (hbel.mono HB2.out.size)
          have HB6 : Hid (Below w'.heap.size w' _) := HB5
          clear hrow hbel HB5
          go_wp2_with fail
          refine (octetSum _ (m + n) _ (join m x y) _ (by omega) BJ.out).mono ?_
          rintro e w6 ⟨⟨s, rfl, hs⟩, rfl⟩
          have HS : Hid (s = 0 ↔ zeroTo (join m x y) (m + n)) := hs
          clear hs
          go_wp2_with fail
          refine (zzPadding a1 m _ x _ (by omega) HX5.out).mono ?_
          rintro e w7 ⟨⟨pa, rfl, hpa⟩, rfl⟩
          have HPA : Hid (pa = true ↔ zeroTo x m) := hpa
          clear hpa
          go_wp2_with fail
          refine (zzPadding b2 n _ y _ (by omega) HY5.out).mono ?_
          rintro e w8 ⟨⟨pb, rfl, hpb⟩, rfl⟩
          have HPB : Hid (pb = true ↔ zeroTo y n) := hpb
          clear hpb
          go_wp2_with fail
          refine (zzPadding _ (m + n) _ (join m x y) _ (by omega) BJ.out).mono ?_
          rintro e w9 ⟨⟨pc, rfl, hpc⟩, rfl⟩
          have hj := join_zero (m := m) (n := n) (x := x) (y := y)
          have h1 := HS.out
          have h2 := HPA.out
          have h3 := HPB.out
          clear HS HPA HPB
          cases pc with
          | true =>
            have hall := hpc.1 rfl
            obtain rfl := h1.2 hall
            obtain rfl := h2.2 (hj.1 hall).1
            obtain rfl := h3.2 (hj.1 hall).2
            clear hj h2 h3 hpc hall h1
            go_wp2
            go_ret
            exact ⟨rfl, HB6.out⟩
          | false =>
            have hall : ¬ zeroTo (join m x y) (m + n) := fun h => by simpa using hpc.2 h
            have hs : (s == 0) = false := by
              have : s ≠ 0 := fun h => hall (h1.1 h)
              simpa using this
            cases pa with
            | false =>
              clear hj h2 h3 hpc hall h1
              go_wp2
              go_ret
              exact ⟨rfl, HB6.out⟩
            | true =>
              cases pb with
              | false =>
                clear hj h2 h3 hpc hall h1
                go_wp2
                go_ret
                exact ⟨rfl, HB6.out⟩
              | true => exact absurd (hj.2 ⟨h2.1 rfl, h3.1 rfl⟩) hall
end Go.Proofs.Qxb6605366a

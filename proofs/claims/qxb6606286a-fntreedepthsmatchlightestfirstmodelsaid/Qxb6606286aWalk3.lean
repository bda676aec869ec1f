/- THE WALK OF FnTreeDepthsMatchLightestFirstModel (function 3). -/
import Derived.Test.Qxb6606286aWalk10
import Derived.WalkKit
import Derived.BigQuiet
import Derived.Deep.QuietTactic
import Derived.WalkSpells
namespace Go.Proofs.Qxb6606286a
open Go.RowKit
set_option linter.unusedVariables false

theorem walk3_long (a : Option Addr) (len cap : Nat) (w : World) (h : 4096 < len) (hm : len ≤ 9223372036854775807) :
    Calls Try.prog 3 #[.slice a len cap] w fun e w' => e = .returned (.bool true) ∧ Below w.heap.size w w' := by
  by_cases h2 : len ≤ 1048576
  · go_enter Try.func3, Try.ntmps3
    go_wp2_with (go_at_call 6; refine (bytes6_yes _ _ _ _ h2).mono ?_; rintro e w' ⟨rfl, rfl⟩)
    go_ret
    exact ⟨rfl, Below.refl _ _⟩
  · go_enter Try.func3, Try.ntmps3
    go_wp2_with (go_at_call 6; refine (bytes6_no _ _ _ _ (by omega)).mono ?_; rintro e w' ⟨rfl, rfl⟩)
    go_ret
    exact ⟨rfl, Below.refl _ _⟩

theorem walk3_none (a : Option Addr) (cap : Nat) (w : World) :
    Calls Try.prog 3 #[.slice a 0 cap] w fun e w' => e = .returned (.bool true) ∧ Below w.heap.size w w' := by
  go_enter Try.func3, Try.ntmps3
  go_wp2_with (go_at_call 6; refine (bytes6_yes _ _ _ _ (by omega)).mono ?_; rintro e w' ⟨rfl, rfl⟩)
  go_ret
  exact ⟨rfl, Below.refl _ _⟩

set_option maxHeartbeats 2000000 in
set_option maxRecDepth 1000000 in
theorem walk3_main (b off n cap : Nat) (z : Nat → Int) (w : World) (h0 : 0 < n) (hn : n ≤ 4096) (hz : ∀ i, i < n → 0 ≤ z i ∧ z i < 18446744073709551616)
    (hc : ∀ i, i < n → w.cell? ⟨b, off + i, none⟩ = some (.int .u64 (z i))) (hb : b < w.heap.size) :
    Calls Try.prog 3 #[.slice (some ⟨b, off, none⟩) n cap] w fun e w' => e = .returned (.bool true) ∧ Below w.heap.size w w' := by
  have hne : ((n : Int) == 0) = false := by simp; omega
  have HZ : Hid (∀ i, i < n → 0 ≤ z i ∧ z i < 18446744073709551616) := hz
  have HC : Hid (∀ i, i < n → w.cell? ⟨b, off + i, none⟩ = some (.int .u64 (z i))) := hc
  clear hz hc
  go_enter Try.func3, Try.ntmps3
  go_wp2_with (go_at_call 6; refine (bytes6_yes _ _ _ _ (by omega)).mono ?_; rintro e w' ⟨rfl, rfl⟩)
  refine (leavesFit b off n cap z 17592186044416 _ (by omega) HZ.out HC.out).mono ?_
  rintro e w1 ⟨⟨r, rfl, hr⟩, rfl⟩
  cases r with
  | false =>
    go_wp2
    go_ret
    exact ⟨rfl, Below.refl _ _⟩
  | true =>
    have hfit := hr rfl
    clear hr
    have HF : Hid (fitTo z 17592186044416 n) := hfit
    have HT : Hid _ := fit_sum hfit (show n ≤ 131072 by omega)
    clear hfit
    go_wp2_with fail
    refine (cloneU64 b off n cap z _ (by omega) hb HC.out).mono ?_
    rintro e w2 ⟨rfl, hrow, hbel⟩
    have HR2 : Hid (Row w2 w1.heap.size n 25 (fun i => .int .u64 (z i))) := hrow
    have HB2 : Hid (Below w1.heap.size w1 w2) := hbel
    clear hrow hbel
    go_wp2_with fail
    refine (zzTree w1.heap.size 0 n n z w2 h0 (by omega) (fun i hi => (HZ.out i hi).1) HT.out (fun i hi => by rw [Nat.zero_add]; exact HR2.out.cell i hi) HR2.out.lt).mono ?_
    rintro e w3 ⟨g, c, rfl, hrow, hbel, hge⟩
    have HR3 : Hid (Row w3 w1.heap.size n 25 (fun i => .int .u64 (z i))) := HR2.out.below hbel HR2.out.lt
    have HG3 : Hid (Row w3 g n 29 (fun i => .int .u16 ((depOf z n i % 65536 : Nat) : Int))) := hrow
    have HB3 : Hid (Below w1.heap.size w1 w3) := HB2.out.trans (hbel.mono HB2.out.size)
    clear hrow hbel hge HR2 HB2
    go_wp2_with fail
    refine (model w1.heap.size 0 n n z w3 h0 (by omega) (fun i hi => (HZ.out i hi).1) HF.out (fun i hi => by rw [Nat.zero_add]; exact HR3.out.cell i hi) HR3.out.lt).mono ?_
    rintro e w4 ⟨g2, c2, rfl, hrow, hbel, hge⟩
    have HG4 : Hid (Row w4 g n 29 (fun i => .int .u16 ((depOf z n i % 65536 : Nat) : Int))) := HG3.out.below hbel HG3.out.lt
    have HK4 : Hid (Row w4 g2 n 29 (fun i => .int .u16 ((depOf z n i % 65536 : Nat) : Int))) := hrow
    have HB4 : Hid (Below w1.heap.size w1 w4) := HB3.out.trans (hbel.mono HB3.out.size)
    clear hrow hbel hge HR3 HB3 HG3
    have hnn : ((n : Int) != (n : Int)) = false := by simp
    go_wp2_with fail
    go_loopw [5] (fun i wr => ∃ k : Nat, i = .int .i64 k ∧ k ≤ n ∧ ∃ q, wr = w4.drewN q) (fun i _ => n - (intOf i).toNat)
    case atStart => exact ⟨0, rfl, by omega, 0, rfl⟩
    case round =>
      obtain ⟨k, rfl, hk, q, rfl⟩ := hrel
      by_cases hlt : k < n
      · have c1 := HG4.out.cell k hlt
        have c2 := HK4.out.cell k hlt
        obtain ⟨D, hD⟩ : ∃ D, depOf z n k % 65536 = D := ⟨_, rfl⟩
        rw [hD] at c1 c2
        have hne2 : ((D : Int) != (D : Int)) = false := by simp
        have b1 : (k : Int) < (n : Int) := by omega
        have b2 : (0 : Int) ≤ (k : Int) := by omega
        clear hD
        go_wp2_with fail
        go_quiet (fail)
        go_wp2
        go_roundw
        case rel => exact ⟨k + 1, by go_num, by omega, _, rfl⟩
        case measure => simp [intOf]; omega
      · obtain rfl : n = k := by omega
        go_wp2
        go_ret
        exact ⟨rfl, HB4.out.trans ⟨rfl, rfl, rfl, Nat.le_refl _, fun _ _ => rfl⟩⟩
end Go.Proofs.Qxb6606286a

/- THE WALK OF FnTreeDepthsFormCompleteNonincreasingCode (function 4), where the leaves are of a length that is looked at. -/
import Derived.Test.Qxb6606286aLaw1
import Derived.WalkKit
import Derived.BigQuiet
import Derived.Deep.QuietTactic
import Derived.Deep.Light
import Derived.WalkSpells
namespace Go.Proofs.Qxb6606286a
open Go.RowKit
set_option linter.unusedVariables false

theorem Try.info3 : (Try.prog.info? 3).map (fun i => (i.zero, i.size, i.bytes)) = some (some (.int .i64 0), 1, 8) := by kernel_rfl

theorem walk4_long (a : Option Addr) (len cap : Nat) (w : World) (h : 131072 < len) (hm : len ≤ 9223372036854775807) :
    Calls Try.prog 4 #[.slice a len cap] w fun e w' => e = .returned (.bool true) ∧ Below w.heap.size w w' := by
  by_cases h2 : len ≤ 1048576
  · go_enter Try.func4, Try.ntmps4
    go_wp2_with (go_at_call 11; refine (bytes11_yes _ _ _ _ h2).mono ?_; rintro e w' ⟨rfl, rfl⟩)
    go_ret
    exact ⟨rfl, Below.refl _ _⟩
  · go_enter Try.func4, Try.ntmps4
    go_wp2_with (go_at_call 11; refine (bytes11_no _ _ _ _ (by omega)).mono ?_; rintro e w' ⟨rfl, rfl⟩)
    go_ret
    exact ⟨rfl, Below.refl _ _⟩

theorem walk4_none (a : Option Addr) (cap : Nat) (w : World) :
    Calls Try.prog 4 #[.slice a 0 cap] w fun e w' => e = .returned (.bool true) ∧ Below w.heap.size w w' := by
  go_enter Try.func4, Try.ntmps4
  go_wp2_with (go_at_call 11; refine (bytes11_yes _ _ _ _ (by omega)).mono ?_; rintro e w' ⟨rfl, rfl⟩)
  go_ret
  exact ⟨rfl, Below.refl _ _⟩

theorem top_start {z : Nat → Int} {n : Nat} (h : Good z n) : ∃ D : Nat, D ≤ 65535 ∧ Value.int .i64 65535 = .int .i64 D ∧ Value.int .i64 0 = .int .i64 (joinsOf z n D : Nat) := by
  refine ⟨65535, by omega, by simp, ?_⟩
  rw [h.top]; rfl

set_option maxHeartbeats 2000000 in
set_option maxRecDepth 1000000 in
theorem walk4_main (b off n cap : Nat) (z : Nat → Int) (w : World) (h0 : 0 < n) (hn : n ≤ 131072) (hz : ∀ i, i < n → 0 ≤ z i ∧ z i < 18446744073709551616)
    (hc : ∀ i, i < n → w.cell? ⟨b, off + i, none⟩ = some (.int .u64 (z i))) (hb : b < w.heap.size) :
    Calls Try.prog 4 #[.slice (some ⟨b, off, none⟩) n cap] w fun e w' => e = .returned (.bool true) ∧ Below w.heap.size w w' := by
  have hne : ((n : Int) == 0) = false := by simp; omega
  have HZ : Hid (∀ i, i < n → 0 ≤ z i ∧ z i < 18446744073709551616) := hz
  have HC : Hid (∀ i, i < n → w.cell? ⟨b, off + i, none⟩ = some (.int .u64 (z i))) := hc
  clear hz hc
  go_enter Try.func4, Try.ntmps4
  go_wp2_with (go_at_call 11; refine (bytes11_yes _ _ _ _ (by omega)).mono ?_; rintro e w' ⟨rfl, rfl⟩)
  refine (leavesFit b off n cap z 17592186044416 _ (by omega) HZ.out HC.out).mono ?_
  rintro e w1 ⟨⟨r, rfl, hr⟩, rfl⟩
  cases r with
  | false =>
    go_wp2
    go_ret
    exact ⟨rfl, Below.refl _ _⟩
  | true =>
    have hfit := hr rfl
    clear hr
    have HG : Hid (Good z n) := good hfit h0 hn (fun i hi => (HZ.out i hi).1)
    have HT := fit_sum hfit hn
    clear hfit
    go_wp2_with fail
    refine (cloneU64 b off n cap z _ (by omega) hb HC.out).mono ?_
    rintro e w2 ⟨rfl, hrow, hbel⟩
    have HR2 : Hid (Row w2 w1.heap.size n 25 (fun i => .int .u64 (z i))) := hrow
    have HB2 : Hid (Below w1.heap.size w1 w2) := hbel
    clear hrow hbel
    go_wp2_with fail
    refine (zzTree w1.heap.size 0 n n z w2 h0 hn (fun i hi => (HZ.out i hi).1) HT (fun i hi => by rw [Nat.zero_add]; exact HR2.out.cell i hi) HR2.out.lt).mono ?_
    rintro e w3 ⟨g, c, rfl, hrow, hbel, hge⟩
    have HB3 : Hid (Below w1.heap.size w1 w3) := HB2.out.trans (hbel.mono HB2.out.size)
    have HR3 : Hid (Row w3 g n 29 (fun i => .int .u16 ((depOf z n i : Nat) : Int))) := hrow.congr (fun i hi => by have := HG.out.small i hi; rw [Nat.mod_eq_of_lt (by omega)])
    have hgg : w1.heap.size ≤ g := Nat.le_trans HB2.out.size hge
    clear hrow hbel hge HT
    have hnn : ((n : Int) != (n : Int)) = false := by simp
    go_wp2_with fail
    go_loopw [5] (fun i wr => ∃ k : Nat, 1 ≤ k ∧ i = .int .i64 k ∧ k ≤ n ∧ ∃ q, wr = w3.drewN q) (fun i _ => n - (intOf i).toNat)
    case atStart => exact ⟨1, by omega, rfl, by omega, 0, rfl⟩
    case round =>
      obtain ⟨k, hk1, rfl, hk, q, rfl⟩ := hrel
      by_cases hlt : k < n
      · have c1 := HR3.out.cell k hlt
        have c2 := HR3.out.cell (k - 1) (by omega)
        have hm := HG.out.mono (k - 1) (by omega)
        rw [show k - 1 + 1 = k by omega] at hm
        have hle : ¬ ((depOf z n (k - 1) : Nat) : Int) < ((depOf z n k : Nat) : Int) := by omega
        have b1 : (k : Int) < (n : Int) := by omega
        have b2 : (0 : Int) ≤ (k : Int) := by omega
        have b3 : (0 : Int) ≤ (k : Int) - 1 := by omega
        have b4 : (k : Int) - 1 < (n : Int) := by omega
        go_wp2_with fail
        go_quiet (fail)
        go_wp2
        go_roundw
        case rel => exact ⟨k + 1, by omega, by go_num, by omega, _, rfl⟩
        case measure => simp [intOf]; omega
      · obtain rfl : n = k := by omega
        obtain ⟨w4, hw4⟩ : ∃ w4, w3.drewN q = w4 := ⟨_, rfl⟩
        have HR4 : Hid (Row w4 g n 29 (fun i => .int .u16 ((depOf z n i : Nat) : Int))) := by rw [← hw4]; exact HR3.out
        have HB4 : Hid (Below w1.heap.size w1 w4) := by rw [← hw4]; exact HB3.out.trans ⟨rfl, rfl, rfl, Nat.le_refl _, fun _ _ => rfl⟩
        rw [hw4]
        clear hw4 HR3 HB3
        have c0 := HR4.out.cell 0 h0
        have hd0 : ¬ (n : Int) - 1 < ((depOf z n 0 : Nat) : Int) := by have := HG.out.le; omega
        have hd1 : ((depOf z n 0 : Nat) : Int) ≤ 150 := by have := HG.out.small 0 h0; omega
        have b0 : (0 : Int) < (n : Int) := by omega
        obtain ⟨i0, hi, hz0, hz1, hz2⟩ := info_parts Try.info3
        go_wp2_with (at_make; refine wpList_make_row _ rfl _ _ 30 rfl 3 i0 (.int .i64 0) 8 Try.underlying30 hi hz0 hz1 hz2 rfl .i64 .i64 _ _ 65536 rfl rfl rfl rfl (by omega) (by unfold maxLen; omega) ?_; intro w5 hrow hbel hsz)
        obtain ⟨C, hC⟩ : ∃ C, w4.heap.size = C := ⟨_, rfl⟩
        rw [hC] at hrow hbel
        rw [hC]
        have hr4 : Row w5 g n 29 (fun i => .int .u16 ((depOf z n i : Nat) : Int)) := HR4.out.below hbel (by have := HR4.out.lt; omega)
        have hC2 : w1.heap.size ≤ C := by have := HB4.out.size; omega
        have hb5 : Below w1.heap.size w1 w5 := HB4.out.trans (hbel.mono hC2)
        have hgC : g ≠ C := by have := HR4.out.lt; omega
        clear HR4 HB4 hsz hbel hC c0 hd0 hd1
        go_loopw [7] (fun i wr => ∃ k : Nat, k ≤ n ∧ i = .int .i64 k ∧ Row wr C 65536 3 (fun v => .int .i64 (cntTo z n k v : Nat)) ∧ Row wr g n 29 (fun i => .int .u16 ((depOf z n i : Nat) : Int)) ∧ Below w1.heap.size w1 wr) (fun i _ => n - (intOf i).toNat)
        case atStart => exact ⟨0, Nat.zero_le _, rfl, hrow, hr4, hb5⟩
        case round =>
          clear hrow hr4 hb5
          obtain ⟨k, hk, rfl, hrow, hr4, hb5⟩ := hrel
          by_cases hlt : k < n
          · have hs := HG.out.small k hlt
            have hcl := cntTo_le z n k (depOf z n k)
            have hup := cntTo_upd z n k
            have c1 := hr4.cell k hlt
            have c2 := hrow.cell (depOf z n k) (by omega)
            have f2 := hrow.free (depOf z n k)
            obtain ⟨D, hD⟩ : ∃ D, depOf z n k = D := ⟨_, rfl⟩
            rw [hD] at hs hcl hup c1 c2 f2
            obtain ⟨x, hx⟩ : ∃ x, cntTo z n k D = x := ⟨_, rfl⟩
            rw [hx] at hcl hup c2
            have r1 := hrow.set D (.int .i64 ((x : Int) + 1))
            rw [cells_upd (v := x + 1) (by rw [Int.natCast_add]; rfl), hup] at r1
            have r2 := hr4.setOther ⟨C, D, none⟩ (.int .i64 ((x : Int) + 1)) hgC
            have r3 := hb5.setCell (p := ⟨C, D, none⟩) hC2 (.int .i64 ((x : Int) + 1))
            have HX := And.intro r1 (And.intro r2 r3)
            have HH : Hid _ := HX
            have b1 : (k : Int) < (n : Int) := by omega
            have b2 : (D : Int) < 65536 := by omega
            have b3 : (0 : Int) ≤ (D : Int) := by omega
            clear hup hD hx hrow hr4 hb5 r1 r2 r3 HX
            go_wp2
            go_roundw
            case rel => exact ⟨k + 1, by omega, by go_num, HH.out⟩
            case measure => simp [intOf]; omega
          · obtain rfl : n = k := by omega
            go_wp2_with fail
            go_loop [8, 9] (fun cr dp => ∃ D : Nat, D ≤ 65535 ∧ dp = .int .i64 D ∧ cr = .int .i64 (joinsOf z n D : Nat)) (fun _ dp => (intOf dp).toNat)
            case atStart => exact top_start HG.out
            case round =>
              obtain ⟨D, hD, rfl, rfl⟩ := hrel
              by_cases hD0 : 0 < D
              · obtain ⟨t, rfl⟩ : ∃ t, D = t + 1 := ⟨D - 1, by omega⟩
                have hkr := HG.out.kraft t
                have hj1 := HG.out.bd t
                have hj2 := HG.out.bd (t + 1)
                have c1 := hrow.cell (t + 1) (by omega)
                obtain ⟨x, hx⟩ : ∃ x, joinsOf z n (t + 1) = x := ⟨_, rfl⟩
                obtain ⟨y, hy⟩ : ∃ y, cntTo z n n (t + 1) = y := ⟨_, rfl⟩
                obtain ⟨q, hq⟩ : ∃ q, joinsOf z n t = q := ⟨_, rfl⟩
                rw [hx] at hkr hj2
                rw [hy] at hkr c1
                rw [hq] at hkr hj1
                rw [hx]
                have hxy : (x : Int) + (y : Int) = 2 * (q : Int) := by omega
                have HQ : Hid (joinsOf z n t = q) := hq
                have e1 : ((2 * (q : Int)) % 2 != 0) = false := by simp
                have b1 : (0 : Int) ≤ (t : Int) + 1 := by omega
                have b2 : (t : Int) + 1 < 65536 := by omega
                clear hkr hx hy hq
                go_wp2
                go_round
                case rel => exact ⟨t, by omega, rfl, by rw [HQ.out]⟩
                case measure => simp [intOf]
              · obtain rfl : D = 0 := by omega
                have hk0 := HG.out.kraft0
                have c1 := hrow.cell 0 (by omega)
                obtain ⟨x, hx⟩ : ∃ x, joinsOf z n 0 = x := ⟨_, rfl⟩
                obtain ⟨y, hy⟩ : ∃ y, cntTo z n n 0 = y := ⟨_, rfl⟩
                rw [hx, hy] at hk0
                rw [hy] at c1
                rw [hx]
                have hxy : (x : Int) + (y : Int) = 1 := by omega
                have HB : Hid (Below w1.heap.size w1 wr) := hb5
                clear hk0 hx hy hrow hr4 hb5
                go_wp2
                go_ret
                exact ⟨rfl, HB.out⟩
end Go.Proofs.Qxb6606286a

/- THE WALK OF FnBlockValuesStepsAreValuesTurnedByABlock (function 4). -/
import Derived.Test.Qxb6606418aWalk3
import Derived.Test.Qxb6606418aTurn
namespace Go.Proofs.Qxb6606418a
open Go.RowKit
set_option linter.unusedVariables false

set_option maxHeartbeats 4000000 in
set_option maxRecDepth 1000000 in
theorem walk4_all (width block spacing regr slots i : Int) (xa : Option Addr) (len cap : Nat) (A : Nat → Option Addr) (L C Bk Ok : Nat → Nat) (LF : Nat → Nat → Nat) (w : World)
    (hM : Mat w xa len A L C Bk Ok LF) :
    Calls Try.prog 4 #[.int .i64 width, .int .i64 block, .int .i64 spacing, .int .i64 regr, .int .i64 slots, .slice xa len cap, .int .i64 i] w fun e w' => e = .returned (.bool true) ∧ Below w.heap.size w w' := by
  have HM : Hid (Mat w xa len A L C Bk Ok LF) := hM
  clear hM
  go_enter Try.func4, Try.ntmps4
  go_wp2_with fail
  refine (bytes12 width block spacing regr slots i xa len cap A L C Bk Ok LF w HM.out).mono ?_
  rintro e w' ⟨⟨r, rfl, hr⟩, rfl⟩
  cases r with
  | false =>
    go_wp2
    go_ret
    exact ⟨rfl, Below.refl _ _⟩
  | true =>
    have hlen := hr rfl
    clear hr
    go_wp2_with fail
    refine (sizeMat xa len cap A L C Bk Ok LF _ HM.out).mono ?_
    rintro e w'' ⟨⟨t1, rfl, ht1, ht1'⟩, rfl⟩
    by_cases hts : 1048576 < t1
    · go_wp2
      go_ret
      exact ⟨rfl, Below.refl _ _⟩
    · go_wp2_with fail
      refine (layoutOK width block spacing regr slots i _).mono ?_
      rintro e w' ⟨⟨r, rfl, hr⟩, rfl⟩
      cases r with
      | false =>
        go_wp2
        go_ret
        exact ⟨rfl, Below.refl _ _⟩
      | true =>
        obtain ⟨Q0, R0, hlp⟩ := hr rfl
        clear hr
        go_wp2_with fail
        refine (rowsOK width xa len cap A L C Bk Ok LF xa len cap A L C Bk Ok LF _ HM.out HM.out).mono ?_
        rintro e w'' ⟨⟨r, rfl, hr⟩, rfl⟩
        cases r with
        | false =>
          go_wp2
          go_ret
          exact ⟨rfl, Below.refl _ _⟩
        | true =>
          obtain ⟨hle, hto⟩ := hr rfl
          clear hr
          have HT : Hid (rowsTo width L L len) := hto
          obtain ⟨sp, m, Q, R, F, hsp, hsl, hlay⟩ := layN_of hlp
          subst hsp
          subst hsl
          have HLY : Hid (LayN width block regr i sp m Q R F) := hlay
          clear hto hlp hlay Q0 R0
          go_wp2_with fail
          refine (zzBlock width block regr i sp m Q R F xa xa len cap len cap A A L C Bk Ok L C Bk Ok LF LF _ HM.out HM.out hle HT.out (by omega) HLY.out.p HLY.out.hF HLY.out.hF1).mono ?_
          rintro e w4 ⟨gv, gs, rfl, rv, rs, hb4⟩
          have HB4 : Hid (Below w''.heap.size w'' w4) := hb4
          have RV : Hid (Row w4 gv m 30 (fun s => .float .f64 (Slot.vals width regr Q sp F LF (min (F + R) len - F) 0 0 s))) := rv
          have RS : Hid (Row w4 gs m 30 (fun s => .float .f64 (Slot.stps width regr Q sp F R LF (min (F + R) len - F) 0 0 s))) := rs
          clear rv rs hb4
          have hQ := HLY.out.p.q
          have hR := HLY.out.p.r
          have hq1 := HLY.out.p.q1
          have hq2 := HLY.out.p.q2
          have hl1 := HLY.out.p.l1
          have hr1 := HLY.out.p.r1
          obtain ⟨U, hU⟩ : ∃ U : Nat, R * Q = U := ⟨_, rfl⟩
          have hU' : (R : Int) * (Q : Int) = (U : Int) := by rw [← hU]; simp
          have hUm : U ≤ m := by omega
          have hBR : Hid (min (F + R) len - F ≤ R) := by
            show min (F + R) len - F ≤ R
            omega
          have hR1 : (R : Int) ≤ 65536 := by
            have h1 := HLY.out.p.r1
            have h2 : (R : Int) * 1 ≤ (R : Int) * (Q : Int) := Int.mul_le_mul_of_nonneg_left hq1 (by omega)
            omega
          have hUQ : Hid (∀ s, s < U → Q ≤ U) := by
            intro s h
            have h1 : R ≠ 0 := fun e => by subst e; omega
            have h2 : 1 * Q ≤ R * Q := Nat.mul_le_mul_right Q (by omega)
            omega
          have hQ0 : 0 < Q := by omega
          have HR1 : Hid (R * Q = U) := hU
          clear hr1 hU
          have hmm : ((m : Int) != (m : Int)) = false := by simp
          go_wp2_with fail
          go_loop [19] (fun c => ∃ s : Nat, s ≤ m ∧ c = .int .i64 (s : Int)) (fun c => m - (intOf c).toNat)
          case atStart => exact ⟨0, Nat.zero_le _, rfl⟩
          case round =>
            obtain ⟨s, hs, rfl⟩ := hrel
            by_cases hlt : s < m
            · have cv := RV.out.cell s hlt
              have ct := RS.out.cell s hlt
              have g1 : (s : Int) < (m : Int) := by omega
              have g2 : (0 : Int) ≤ (s : Int) := by omega
              by_cases h1 : s < U
              · have h1' : (s : Int) < (U : Int) := by omega
                have hQU := hUQ.out s h1
                by_cases h2 : U ≤ s + Q
                · rw [Slot.turn_last hQ0 (by rw [HR1.out]; exact h1) (by rw [HR1.out]; exact h2), HR1.out] at ct
                  obtain ⟨u, hu⟩ : ∃ u, s + Q - U = u := ⟨_, rfl⟩
                  rw [hu] at ct
                  have cu := RV.out.cell u (by omega)
                  have h2' : (U : Int) ≤ (s : Int) + (Q : Int) := by omega
                  have hu' : (s : Int) + (Q : Int) - (U : Int) = (u : Int) := by omega
                  have g3 : (u : Int) < (m : Int) := by omega
                  clear h2 hu
                  go_wp2_with (go_at_call 11; refine (same _ _).mono ?_; rintro e w' ⟨rfl, rfl⟩)
                  go_round
                  case rel => exact ⟨s + 1, by omega, by go_num⟩
                  case measure => simp [intOf]; omega
                · rw [Slot.turn_in hQ0 (by rw [HR1.out]; omega)] at ct
                  have cu := RV.out.cell (s + Q) (by omega)
                  have h2' : ¬ (U : Int) ≤ (s : Int) + (Q : Int) := by omega
                  have g3 : (s : Int) + (Q : Int) < (m : Int) := by omega
                  clear h2
                  go_wp2_with (go_at_call 11; refine (same _ _).mono ?_; rintro e w' ⟨rfl, rfl⟩)
                  go_round
                  case rel => exact ⟨s + 1, by omega, by go_num⟩
                  case measure => simp [intOf]; omega
              · have h1' : ¬ (s : Int) < (U : Int) := by omega
                rw [Slot.turn_out hQ0 hBR.out (by rw [HR1.out]; omega)] at ct
                go_wp2_with (go_at_call 11; refine (same _ _).mono ?_; rintro e w' ⟨rfl, rfl⟩)
                go_round
                case rel => exact ⟨s + 1, by omega, by go_num⟩
                case measure => simp [intOf]; omega
            · obtain rfl : s = m := by omega
              go_wp2
              go_ret
              exact ⟨rfl, HB4.out⟩
end Go.Proofs.Qxb6606418a

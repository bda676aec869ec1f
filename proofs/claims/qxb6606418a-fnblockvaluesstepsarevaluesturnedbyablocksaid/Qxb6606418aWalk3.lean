/- THE WALK OF FnBlockValuesSlotTable (function 3). -/
import Derived.Test.Qxb6606418aZZ
namespace Go.Proofs.Qxb6606418a
open Go.RowKit
set_option linter.unusedVariables false

/-- A layout that fits, in natural numbers. -/
structure LayN (width block regr i : Int) (sp m Q R F : Nat) : Prop where
  p : LayoutP width block sp regr m i Q R
  hF : i * (R : Int) = (F : Int)
  hF1 : F ≤ 1073741824

theorem layN_of {width block spacing regr slots i Q R : Int} (h : LayoutP width block spacing regr slots i Q R) : ∃ sp m Q' R' F : Nat, spacing = sp ∧ slots = m ∧ LayN width block regr i sp m Q' R' F := by
  have s1 := h.s1; have l0 := h.l0; have q1 := h.q1; have r0 := h.r0
  obtain ⟨sp, rfl⟩ := Int.eq_ofNat_of_zero_le (show 0 ≤ spacing by omega)
  obtain ⟨m, rfl⟩ := Int.eq_ofNat_of_zero_le (show 0 ≤ slots by omega)
  obtain ⟨Q', rfl⟩ := Int.eq_ofNat_of_zero_le (show 0 ≤ Q by omega)
  obtain ⟨R', rfl⟩ := Int.eq_ofNat_of_zero_le (show 0 ≤ R by omega)
  by_cases hR : 0 < (R' : Int)
  · have i0 := h.i0 hR
    have i1 := h.i1 hR
    obtain ⟨F, hF⟩ := Int.eq_ofNat_of_zero_le (show 0 ≤ i * (R' : Int) from Int.mul_nonneg i0 (by omega))
    exact ⟨sp, m, Q', R', F, rfl, rfl, h, hF, by omega⟩
  · obtain rfl : R' = 0 := by omega
    exact ⟨sp, m, Q', 0, 0, rfl, rfl, h, by simp, by omega⟩

set_option maxHeartbeats 4000000 in
set_option maxRecDepth 1000000 in
theorem walk3_all (width block spacing regr slots i : Int) (la sa : Option Addr) (len cap len' cap' : Nat) (A A' : Nat → Option Addr) (L C Bk Ok L' C' Bk' Ok' : Nat → Nat) (LF SF : Nat → Nat → Nat) (w : World)
    (hM : Mat w la len A L C Bk Ok LF) (hM' : Mat w sa len' A' L' C' Bk' Ok' SF) :
    Calls Try.prog 3 #[.int .i64 width, .int .i64 block, .int .i64 spacing, .int .i64 regr, .int .i64 slots, .slice la len cap, .slice sa len' cap', .int .i64 i] w fun e w' => e = .returned (.bool true) ∧ Below w.heap.size w w' := by
  have HM : Hid (Mat w la len A L C Bk Ok LF) := hM
  have HM' : Hid (Mat w sa len' A' L' C' Bk' Ok' SF) := hM'
  clear hM hM'
  go_enter Try.func3, Try.ntmps3
  go_wp2_with fail
  refine (bytes6 width block spacing regr slots i la len cap A L C Bk Ok LF sa len' cap' A' L' C' Bk' Ok' SF w HM.out HM'.out).mono ?_
  rintro e w' ⟨⟨r, rfl, hr⟩, rfl⟩
  cases r with
  | false =>
    go_wp2
    go_ret
    exact ⟨rfl, Below.refl _ _⟩
  | true =>
    have hlen := hr rfl
    clear hr
    go_wp2_with fail
    refine (sizeMat la len cap A L C Bk Ok LF _ HM.out).mono ?_
    rintro e w'' ⟨⟨t1, rfl, ht1, ht1'⟩, rfl⟩
    go_wp2_with fail
    refine (sizeMat sa len' cap' A' L' C' Bk' Ok' SF _ HM'.out).mono ?_
    rintro e w' ⟨⟨t2, rfl, ht2, ht2'⟩, rfl⟩
    by_cases hts : 1048576 < t1 + t2
    · go_wp2
      go_ret
      exact ⟨rfl, Below.refl _ _⟩
    · go_wp2_with fail
      refine (layoutOK width block spacing regr slots i _).mono ?_
      rintro e w'' ⟨⟨r, rfl, hr⟩, rfl⟩
      cases r with
      | false =>
        go_wp2
        go_ret
        exact ⟨rfl, Below.refl _ _⟩
      | true =>
        obtain ⟨Q0, R0, hlp⟩ := hr rfl
        clear hr
        go_wp2_with fail
        refine (rowsOK width la len cap A L C Bk Ok LF sa len' cap' A' L' C' Bk' Ok' SF _ HM.out HM'.out).mono ?_
        rintro e w' ⟨⟨r, rfl, hr⟩, rfl⟩
        cases r with
        | false =>
          go_wp2
          go_ret
          exact ⟨rfl, Below.refl _ _⟩
        | true =>
          obtain ⟨hle, hto⟩ := hr rfl
          clear hr
          have HT : Hid (rowsTo width L L' len) := hto
          obtain ⟨sp, m, Q, R, F, hsp, hsl, hlay⟩ := layN_of hlp
          subst hsp
          subst hsl
          have HLY : Hid (LayN width block regr i sp m Q R F) := hlay
          clear hto hlp hlay Q0 R0
          go_wp2_with fail
          refine (zzBlock width block regr i sp m Q R F la sa len cap len' cap' A A' L C Bk Ok L' C' Bk' Ok' LF SF _ HM.out HM'.out hle HT.out (by omega) HLY.out.p HLY.out.hF HLY.out.hF1).mono ?_
          rintro e w4 ⟨gv, gs, rfl, rv, rs, hb4⟩
          have HB4 : Hid (Below w'.heap.size w' w4) := hb4
          have M4 : Hid (Mat w4 la len A L C Bk Ok LF) := HM.out.below hb4
          have M4' : Hid (Mat w4 sa len' A' L' C' Bk' Ok' SF) := HM'.out.below hb4
          have RV : Hid (Row w4 gv m 30 (fun s => .float .f64 (Slot.vals width regr Q sp F LF (min (F + R) len - F) 0 0 s))) := rv
          have RS : Hid (Row w4 gs m 30 (fun s => .float .f64 (Slot.stps width regr Q sp F R SF (min (F + R) len - F) 0 0 s))) := rs
          clear rv rs hb4
          have hQ := HLY.out.p.q
          have hR := HLY.out.p.r
          have hF := HLY.out.hF
          have hq1 := HLY.out.p.q1
          have hq2 := HLY.out.p.q2
          have hl1 := HLY.out.p.l1
          have hs1 := HLY.out.p.s1
          have hs2 := HLY.out.p.s2
          have hF1 := HLY.out.hF1
          have hR1 : (R : Int) ≤ 65536 := by
            have h1 := HLY.out.p.r1
            have h2 : (R : Int) * 1 ≤ (R : Int) * (Q : Int) := Int.mul_le_mul_of_nonneg_left hq1 (by omega)
            omega
          have hmm : ((m : Int) != (m : Int)) = false := by simp
          go_wp2_with fail
          go_loop [22] (fun c => ∃ s : Nat, s ≤ m ∧ c = .int .i64 (s : Int)) (fun c => m - (intOf c).toNat)
          case atStart => exact ⟨0, Nat.zero_le _, rfl⟩
          case round =>
            obtain ⟨s, hs, rfl⟩ := hrel
            by_cases hlt : s < m
            · have cv := RV.out.cell s hlt
              have ct := RS.out.cell s hlt
              rw [Slot.vals_end] at cv
              rw [Slot.stps_end] at ct
              obtain ⟨b, hb⟩ : ∃ b, s / Q = b := ⟨_, rfl⟩
              obtain ⟨f, hf⟩ : ∃ f, Slot.fOf Q sp s = f := ⟨_, rfl⟩
              obtain ⟨k, hk⟩ : ∃ k, Slot.kOf Q sp s = k := ⟨_, rfl⟩
              rw [hb, hf, hk] at cv ct
              have e1 : (s : Int) / (Q : Int) = (b : Int) := by rw [← hb]; rfl
              obtain ⟨o, ho⟩ : ∃ o, s % Q = o := ⟨_, rfl⟩
              have e0 : (s : Int) % (Q : Int) = (o : Int) := by rw [← ho]; rfl
              have hf' : o / sp = f := by rw [← ho]; exact hf
              have hk' : o % sp = k := by rw [← ho]; exact hk
              have e2 : (o : Int) / (sp : Int) = (f : Int) := by rw [← hf']; rfl
              have e3 : (o : Int) % (sp : Int) = (k : Int) := by rw [← hk']; rfl
              have g1 : (s : Int) < (m : Int) := by omega
              have g2 : (0 : Int) ≤ (s : Int) := by omega
              have g3 : o < 65536 := by have := Nat.mod_lt s (show 0 < Q by omega); omega
              have g4 : f < 65536 := by have := Nat.div_le_self o sp; omega
              have g5 : k < 65536 := by have := Nat.mod_le o sp; omega
              have g6 : b < 65536 := by have := Nat.div_le_self s Q; omega
              clear hb hf hk ho hf' hk'
              by_cases hin : b < R ∧ (f : Int) < width ∧ (k : Int) < regr
              · obtain ⟨i1, i2, i3⟩ := hin
                have i1' : (b : Int) < (R : Int) := by omega
                have hto := HT.out
                obtain ⟨nb, hnb⟩ : ∃ nb, Slot.nxt R b = nb := ⟨_, rfl⟩
                have hnR : nb < R := by rw [← hnb]; unfold Slot.nxt; split <;> omega
                rw [hnb] at ct
                by_cases hV : F + b < len
                · rw [if_pos ⟨by omega, i2, i3⟩] at cv
                  have hV' : (F : Int) + (b : Int) < (len : Int) := by omega
                  obtain ⟨lb, lo, hla, hcl⟩ := M4.out.at_ (by omega)
                  have hw1 := hto (F + b) hV
                  obtain ⟨hA1, hA2⟩ := M4.out.row (F + b) hV (by omega)
                  have cr := hcl (F + b) hV
                  rw [hA1] at cr
                  have ce := hA2 f (by omega)
                  have z1 : (f : Int) < (L (F + b) : Int) := by omega
                  have hrl := M4.out.ll (F + b) hV
                  by_cases hS : F + nb < len
                  · rw [if_pos ⟨i1, by omega, i2, i3⟩] at ct
                    have hS' : (F : Int) + (nb : Int) < (len : Int) := by omega
                    obtain ⟨lb', lo', hla', hcl'⟩ := M4'.out.at_ (by omega)
                    have hw2 := hto (F + nb) hS
                    obtain ⟨hB1, hB2⟩ := M4'.out.row (F + nb) (by omega) (by omega)
                    have cr' := hcl' (F + nb) (by omega)
                    rw [hB1] at cr'
                    have ce' := hB2 f (by omega)
                    have z2 : (f : Int) < (L' (F + nb) : Int) := by omega
                    have z3 : (F : Int) + (nb : Int) < (len' : Int) := by omega
                    subst hla
                    subst hla'
                    clear hto hcl hcl' hA1 hA2 hB1 hB2 hw1 hw2
                    unfold Slot.nxt at hnb
                    by_cases hwr : b + 1 = R
                    · rw [if_pos hwr] at hnb
                      subst hnb
                      have t1 : ((b : Int) + 1 == (R : Int)) = true := by simp; omega
                      clear hwr
                      simp only [Nat.add_zero] at cr' ce' ct hS z2
                      have z4 : (F : Int) < (len' : Int) := by omega
                      have z5 : (F : Int) < (len : Int) := by omega
                      go_wp2_with (go_at_call 11; refine (same _ _).mono ?_; rintro e w' ⟨rfl, rfl⟩)
                      go_round
                      case rel => exact ⟨s + 1, by omega, by go_num⟩
                      case measure => simp [intOf]; omega
                    · rw [if_neg hwr] at hnb
                      subst hnb
                      have t1 : ((b : Int) + 1 == (R : Int)) = false := by simp; omega
                      clear hwr
                      go_wp2_with (go_at_call 11; refine (same _ _).mono ?_; rintro e w' ⟨rfl, rfl⟩)
                      go_round
                      case rel => exact ⟨s + 1, by omega, by go_num⟩
                      case measure => simp [intOf]; omega
                  · rw [if_neg (by omega)] at ct
                    have hwr : ¬ b + 1 = R := fun h => by unfold Slot.nxt at hnb; rw [if_pos h] at hnb; omega
                    unfold Slot.nxt at hnb
                    rw [if_neg hwr] at hnb
                    subst hnb
                    have t1 : ((b : Int) + 1 == (R : Int)) = false := by simp; omega
                    have z3 : ¬ (F : Int) + ((b : Int) + 1) < (len : Int) := by omega
                    subst hla
                    clear hto hcl hA1 hA2 hw1 hwr
                    go_wp2_with (go_at_call 11; refine (same _ _).mono ?_; rintro e w' ⟨rfl, rfl⟩)
                    go_round
                    case rel => exact ⟨s + 1, by omega, by go_num⟩
                    case measure => simp [intOf]; omega
                · rw [if_neg (by omega)] at cv
                  have hV' : ¬ (F : Int) + (b : Int) < (len : Int) := by omega
                  by_cases hS : F + nb < len
                  · rw [if_pos ⟨i1, by omega, i2, i3⟩] at ct
                    have hwr : b + 1 = R := by
                      unfold Slot.nxt at hnb
                      split at hnb <;> omega
                    unfold Slot.nxt at hnb
                    rw [if_pos hwr] at hnb
                    subst hnb
                    have t1 : ((b : Int) + 1 == (R : Int)) = true := by simp; omega
                    simp only [Nat.add_zero] at ct hS
                    obtain ⟨lb', lo', hla', hcl'⟩ := M4'.out.at_ (by omega)
                    have hw2 := hto F hS
                    obtain ⟨hB1, hB2⟩ := M4'.out.row F (by omega) (by omega)
                    have cr' := hcl' F (by omega)
                    rw [hB1] at cr'
                    have ce' := hB2 f (by omega)
                    have z2 : (f : Int) < (L' F : Int) := by omega
                    have z4 : (F : Int) < (len' : Int) := by omega
                    have z5 : (F : Int) < (len : Int) := by omega
                    subst hla'
                    clear hto hcl' hB1 hB2 hw2 hwr
                    go_wp2_with (go_at_call 11; refine (same _ _).mono ?_; rintro e w' ⟨rfl, rfl⟩)
                    go_round
                    case rel => exact ⟨s + 1, by omega, by go_num⟩
                    case measure => simp [intOf]; omega
                  · rw [if_neg (by omega)] at ct
                    unfold Slot.nxt at hnb
                    by_cases hwr : b + 1 = R
                    · rw [if_pos hwr] at hnb
                      subst hnb
                      have t1 : ((b : Int) + 1 == (R : Int)) = true := by simp; omega
                      have z5 : ¬ (F : Int) < (len : Int) := by omega
                      clear hto hwr
                      go_wp2_with (go_at_call 11; refine (same _ _).mono ?_; rintro e w' ⟨rfl, rfl⟩)
                      go_round
                      case rel => exact ⟨s + 1, by omega, by go_num⟩
                      case measure => simp [intOf]; omega
                    · rw [if_neg hwr] at hnb
                      subst hnb
                      have t1 : ((b : Int) + 1 == (R : Int)) = false := by simp; omega
                      have z3 : ¬ (F : Int) + ((b : Int) + 1) < (len : Int) := by omega
                      clear hto hwr
                      go_wp2_with (go_at_call 11; refine (same _ _).mono ?_; rintro e w' ⟨rfl, rfl⟩)
                      go_round
                      case rel => exact ⟨s + 1, by omega, by go_num⟩
                      case measure => simp [intOf]; omega
              · rw [if_neg (fun h => hin ⟨by omega, h.2⟩)] at cv
                rw [if_neg (fun h => hin ⟨h.1, h.2.2⟩)] at ct
                by_cases j1 : b < R
                · have j1' : (b : Int) < (R : Int) := by omega
                  by_cases j2 : (f : Int) < width
                  · have j3 : ¬ (k : Int) < regr := fun h => hin ⟨j1, j2, h⟩
                    clear hin
                    go_wp2_with (go_at_call 11; refine (same _ _).mono ?_; rintro e w' ⟨rfl, rfl⟩)
                    go_round
                    case rel => exact ⟨s + 1, by omega, by go_num⟩
                    case measure => simp [intOf]; omega
                  · clear hin
                    go_wp2_with (go_at_call 11; refine (same _ _).mono ?_; rintro e w' ⟨rfl, rfl⟩)
                    go_round
                    case rel => exact ⟨s + 1, by omega, by go_num⟩
                    case measure => simp [intOf]; omega
                · have j1' : ¬ (b : Int) < (R : Int) := by omega
                  clear hin
                  go_wp2_with (go_at_call 11; refine (same _ _).mono ?_; rintro e w' ⟨rfl, rfl⟩)
                  go_round
                  case rel => exact ⟨s + 1, by omega, by go_num⟩
                  case measure => simp [intOf]; omega
            · obtain rfl : s = m := by omega
              go_wp2
              go_ret
              exact ⟨rfl, HB4.out⟩
end Go.Proofs.Qxb6606418a

/- THE SMALL FUNCTIONS: zzBytes (6, 11), deflateB1LeavesFit (7), deflateB1CloneU64 (8). -/
import Derived.Test.Qxb6606286aRows
import Derived.Test.Qxb6606286aMem
import Derived.WalkKit
import Derived.WalkSpells
import Derived.Lib.SliceRun
import Derived.Deep.Light
namespace Go.Proofs.Qxb6606286a
open Go.RowKit

theorem Try.info25 : (Try.prog.info? 25).map (fun i => (i.zero, i.size, i.bytes)) = some (some (.int .u64 0), 1, 8) := by kernel_rfl

theorem bytes6_yes (a : Option Addr) (len cap : Nat) (w : World) (h : len ≤ 1048576) :
    Calls Try.prog 6 #[.slice a len cap] w fun e w' => e = .returned (.bool true) ∧ w' = w := by
  go_enter Try.func6, Try.ntmps6
  go_wp2
  go_ret
  exact ⟨rfl, rfl⟩

theorem bytes6_no (a : Option Addr) (len cap : Nat) (w : World) (h : 1048576 < len) :
    Calls Try.prog 6 #[.slice a len cap] w fun e w' => e = .returned (.bool false) ∧ w' = w := by
  go_enter Try.func6, Try.ntmps6
  go_wp2
  go_ret
  exact ⟨rfl, rfl⟩

theorem bytes11_yes (a : Option Addr) (len cap : Nat) (w : World) (h : len ≤ 1048576) :
    Calls Try.prog 11 #[.slice a len cap] w fun e w' => e = .returned (.bool true) ∧ w' = w := by
  go_enter Try.func11, Try.ntmps11
  go_wp2
  go_ret
  exact ⟨rfl, rfl⟩

theorem bytes11_no (a : Option Addr) (len cap : Nat) (w : World) (h : 1048576 < len) :
    Calls Try.prog 11 #[.slice a len cap] w fun e w' => e = .returned (.bool false) ∧ w' = w := by
  go_enter Try.func11, Try.ntmps11
  go_wp2
  go_ret
  exact ⟨rfl, rfl⟩

/-- Each of the first k weights (z i / 65536) is below wmax, none is lighter than the one ahead of it. -/
def fitTo (z : Nat → Int) (wmax : Int) (k : Nat) : Prop := ∀ i, i < k → z i / 65536 < wmax ∧ (0 < i → z (i - 1) / 65536 ≤ z i / 65536)

/-- How the test ends: true only where all fits. -/
def FitEnd (z : Nat → Int) (wmax : Int) (len : Nat) (e : Ending) : Prop := ∃ r : Bool, e = .returned (.bool r) ∧ (r = true → fitTo z wmax len)
theorem fitEnd_no (z : Nat → Int) (wmax : Int) (len : Nat) : FitEnd z wmax len (.returned (.bool false)) := ⟨false, rfl, fun h => by cases h⟩
theorem fitEnd_yes {z : Nat → Int} {wmax : Int} {len : Nat} (h : fitTo z wmax len) : FitEnd z wmax len (.returned (.bool true)) := ⟨true, rfl, fun _ => h⟩
theorem fitTo_zero (z : Nat → Int) (wmax : Int) : fitTo z wmax 0 := fun i hi => by omega
theorem fitTo_succ {z : Nat → Int} {wmax : Int} {k : Nat} (h : fitTo z wmax k) (h1 : z k / 65536 < wmax) (h2 : 0 < k → z (k - 1) / 65536 ≤ z k / 65536) : fitTo z wmax (k + 1) := by
  intro i hi
  by_cases e : i = k
  · subst e; exact ⟨h1, h2⟩
  · exact h i (by omega)

set_option maxHeartbeats 400000 in
theorem leavesFit (b off len cap : Nat) (z : Nat → Int) (wmax : Int) (w : World) (hl : len ≤ 1048576) (hz : ∀ i, i < len → 0 ≤ z i ∧ z i < 18446744073709551616)
    (hc : ∀ i, i < len → w.cell? ⟨b, off + i, none⟩ = some (.int .u64 (z i))) :
    Calls Try.prog 7 #[.slice (some ⟨b, off, none⟩) len cap, .int .u64 wmax] w fun e w' => FitEnd z wmax len e ∧ w' = w := by
  go_enter Try.func7, Try.ntmps7
  go_wp2
  go_loop [5] (fun i => ∃ k : Nat, k ≤ len ∧ i = .int .i64 k ∧ fitTo z wmax k) (fun i => len - (intOf i).toNat)
  case atStart => exact ⟨0, Nat.zero_le _, rfl, fitTo_zero _ _⟩
  case round =>
    obtain ⟨k, hk, rfl, hf⟩ := hrel
    by_cases hlt : k < len
    · have hck := hc k hlt
      by_cases h0 : 0 < k
      · have hcp := hc (k - 1) (by omega)
        go_wp2
        · go_ret
          exact ⟨fitEnd_no _ _ _, rfl⟩
        · go_ret
          exact ⟨fitEnd_no _ _ _, rfl⟩
        · have h1 : z k / 65536 < wmax := by assumption
          have h2 : z (k - 1) / 65536 ≤ z k / 65536 := by assumption
          go_round
          case rel => exact ⟨k + 1, by omega, by go_num, fitTo_succ hf h1 (fun _ => h2)⟩
          case measure => simp [intOf]; omega
      · go_wp2
        · go_ret
          exact ⟨fitEnd_no _ _ _, rfl⟩
        · have h1 : z k / 65536 < wmax := by assumption
          go_round
          case rel => exact ⟨k + 1, by omega, by go_num, fitTo_succ hf h1 (fun h => absurd h h0)⟩
          case measure => simp [intOf]; omega
    · obtain rfl : k = len := by omega
      go_wp2
      go_ret
      exact ⟨fitEnd_yes hf, rfl⟩

set_option maxHeartbeats 400000 in
/-- A fresh copy, in the block that comes next. -/
theorem cloneU64 (b off len cap : Nat) (z : Nat → Int) (w : World) (hl : len ≤ 1048576) (hb : b < w.heap.size)
    (hc : ∀ i, i < len → w.cell? ⟨b, off + i, none⟩ = some (.int .u64 (z i))) :
    Calls Try.prog 8 #[.slice (some ⟨b, off, none⟩) len cap] w fun e w' => e = .returned (.slice (some ⟨w.heap.size, 0, none⟩) len len) ∧
      Row w' w.heap.size len 25 (fun i => .int .u64 (z i)) ∧ Below w.heap.size w w' := by
  obtain ⟨i0, hi, hz0, hz1, hz2⟩ := info_parts Try.info25
  have hne : ∀ w, (binOp .eql 22 (.slice (some ⟨b, off, none⟩) len cap) (.slice none 0 0)).run Try.prog w = .ok (.bool false) w := fun w => Lib.run_eql_slice_nil w 22 25 _ len cap 0 0 Try.underlying22
  go_enter Try.func8, Try.ntmps8
  go_wp2_with (at_make; refine wpList_make_row _ rfl _ _ 22 rfl 25 i0 (.int .u64 0) 8 Try.underlying22 hi hz0 hz1 hz2 rfl .i64 .i64 _ _ len rfl rfl rfl rfl (by omega) (by unfold maxLen; omega) ?_; intro w1 hrow hbel hsz)
  go_loopw [4] (fun i wr => ∃ k : Nat, k ≤ len ∧ i = .int .i64 k ∧ Row wr w.heap.size len 25 (fun i => .int .u64 (if i < k then z i else 0)) ∧ Below w.heap.size w wr) (fun i _ => len - (intOf i).toNat)
  case atStart => exact ⟨0, Nat.zero_le _, rfl, hrow.congr (fun i hi => by simp), hbel⟩
  case round =>
    clear hrow hbel hsz
    obtain ⟨k, hk, rfl, hrow, hbel⟩ := hrel
    by_cases hlt : k < len
    · have hck : wr.cell? ⟨b, off + k, none⟩ = some (.int .u64 (z k)) := (hbel.cell (by exact hb)).trans (hc k hlt)
      have hcr := hrow.cell k hlt
      have hfr := hrow.free k
      have hr2 := hrow.set k (.int .u64 (z k))
      have hb2 := hbel.setCell (p := ⟨w.heap.size, k, none⟩) (Nat.le_refl _) (.int .u64 (z k))
      go_wp2
      go_roundw
      case rel =>
        refine ⟨k + 1, by omega, by go_num, hr2.congr (fun i hi => ?_), hb2⟩
        go_light
        by_cases e : i = k
        · subst e; simp [upd]
        · have : (i < k + 1) = (i < k) := by simp; omega
          simp [upd, e, this]
      case measure => simp [intOf]; omega
    · obtain rfl : k = len := by omega
      go_wp2
      go_ret
      exact ⟨rfl, hrow.congr (fun i hi => by simp [hi]), hbel⟩
end Go.Proofs.Qxb6606286a

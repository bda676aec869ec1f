/- THE SMALL FUNCTIONS of seat b6605366a: zzBytes (4), cloneBytes (5), octetSum (6), ZZisPadding (7), isPadding (8). -/
import Derived.Test.Qxb6605366aRows
import Derived.Test.Qxb6605366aMem
import Derived.WalkKit
import Derived.WalkSpells
import Derived.Lib.SliceRun
import Derived.Deep.Light
namespace Go.Proofs.Qxb6605366a
open Go.RowKit
set_option linter.unusedVariables false

theorem Try.info5 : (Try.prog.info? 5).map (fun i => (i.zero, i.size, i.bytes)) = some (some (.int .u8 0), 1, 1) := by kernel_rfl

/-- WHAT A WALK IS TOLD OF A SLICE OF BYTES: its octets z 0 .. z (len - 1), and where they lie if there are any. -/
structure BS (w : World) (a : Option Addr) (len : Nat) (z : Nat → Int) : Prop where
  oct : ∀ i, i < len → 0 ≤ z i ∧ z i ≤ 255
  at_ : 0 < len → ∃ b o, a = some ⟨b, o, none⟩ ∧ b < w.heap.size ∧ ∀ i, i < len → w.cell? ⟨b, o + i, none⟩ = some (.int .u8 (z i))

theorem BS.below {w w' : World} {a : Option Addr} {len : Nat} {z : Nat → Int} (h : BS w a len z) (hb : Below w.heap.size w w') : BS w' a len z := by
  refine ⟨h.oct, fun h0 => ?_⟩
  obtain ⟨b, o, ha, hl, hc⟩ := h.at_ h0
  have := hb.size
  exact ⟨b, o, ha, by omega, fun i hi => (hb.cell (by exact hl)).trans (hc i hi)⟩

theorem BS.nothing (w : World) (a : Option Addr) (z : Nat → Int) : BS w a 0 z := ⟨fun i hi => by omega, fun h => by omega⟩

theorem BS.of_row {w : World} {g len : Nat} {z : Nat → Int} (h : Row w g len 5 (fun i => .int .u8 (z i))) (hz : ∀ i, i < len → 0 ≤ z i ∧ z i ≤ 255) : BS w (some ⟨g, 0, none⟩) len z :=
  ⟨hz, fun _ => ⟨g, 0, rfl, h.lt, fun i hi => by rw [Nat.zero_add]; exact h.cell i hi⟩⟩

/-- All of the first k octets are zero. -/
def zeroTo (z : Nat → Int) (k : Nat) : Prop := ∀ i, i < k → z i = 0
theorem zeroTo_succ {z : Nat → Int} {k : Nat} : zeroTo z (k + 1) ↔ zeroTo z k ∧ z k = 0 := by
  refine ⟨fun h => ⟨fun i hi => h i (by omega), h k (by omega)⟩, fun h i hi => ?_⟩
  by_cases e : i = k
  · subst e; exact h.2
  · exact h.1 i (by omega)
theorem zeroTo_zero (z : Nat → Int) : zeroTo z 0 := fun i hi => by omega

theorem bytes4_yes (a b : Option Addr) (len cap len' cap' : Nat) (w : World) (h : len + len' ≤ 1048576) :
    Calls Try.prog 4 #[.slice a len cap, .slice b len' cap'] w fun e w' => e = .returned (.bool true) ∧ w' = w := by
  go_enter Try.func4, Try.ntmps4
  go_wp2
  go_ret
  exact ⟨rfl, rfl⟩

theorem bytes4_no (a b : Option Addr) (len cap len' cap' : Nat) (w : World) (h : ¬ len + len' ≤ 1048576) (h1 : len ≤ 9223372036854775807) (h2 : len' ≤ 9223372036854775807) :
    Calls Try.prog 4 #[.slice a len cap, .slice b len' cap'] w fun e w' => e = .returned (.bool false) ∧ w' = w := by
  by_cases c1 : 1048576 < len
  · go_enter Try.func4, Try.ntmps4
    go_wp2
    go_ret
    exact ⟨rfl, rfl⟩
  · by_cases c2 : 1048576 < len'
    · go_enter Try.func4, Try.ntmps4
      go_wp2
      go_ret
      exact ⟨rfl, rfl⟩
    · go_enter Try.func4, Try.ntmps4
      go_wp2
      go_ret
      exact ⟨rfl, rfl⟩

/-- How isPadding ends: true exactly where all octets are zero. -/
def PadEnd (z : Nat → Int) (len : Nat) (e : Ending) : Prop := ∃ r : Bool, e = .returned (.bool r) ∧ (r = true ↔ zeroTo z len)
theorem padEnd_yes {z : Nat → Int} {len : Nat} (h : zeroTo z len) : PadEnd z len (.returned (.bool true)) := ⟨true, rfl, by simp [h]⟩
theorem padEnd_no {z : Nat → Int} {len k : Nat} (hk : k < len) (h : z k ≠ 0) : PadEnd z len (.returned (.bool false)) := ⟨false, rfl, by simp; intro g; exact h (g k hk)⟩

set_option maxHeartbeats 400000 in
theorem isPadding (a : Option Addr) (len cap : Nat) (z : Nat → Int) (w : World) (hl : len ≤ 1048576) (hz : BS w a len z) :
    Calls Try.prog 8 #[.slice a len cap] w fun e w' => PadEnd z len e ∧ w' = w := by
  have HZ : Hid (BS w a len z) := hz
  clear hz
  go_enter Try.func8, Try.ntmps8
  go_wp2
  go_loop [7] (fun i => ∃ k : Nat, k ≤ len ∧ i = .int .i64 k ∧ zeroTo z k) (fun i => len - (intOf i).toNat)
  case atStart => exact ⟨0, Nat.zero_le _, rfl, zeroTo_zero _⟩
  case round =>
    obtain ⟨k, hk, rfl, hf⟩ := hrel
    by_cases hlt : k < len
    · obtain ⟨b, o, rfl, hb, hc⟩ := HZ.out.at_ (by omega)
      have hck := hc k hlt
      by_cases h0 : z k = 0
      · rw [h0] at hck
        go_wp2
        go_round
        case rel => exact ⟨k + 1, by omega, by go_num, zeroTo_succ.2 ⟨hf, h0⟩⟩
        case measure => simp [intOf]; omega
      · have h0' : (z k != 0) = true := by simp [h0]
        go_wp2
        go_ret
        exact ⟨padEnd_no hlt h0, rfl⟩
    · obtain rfl : k = len := by omega
      go_wp2
      go_ret
      exact ⟨padEnd_yes hf, rfl⟩

theorem zzPadding (a : Option Addr) (len cap : Nat) (z : Nat → Int) (w : World) (hl : len ≤ 1048576) (hz : BS w a len z) :
    Calls Try.prog 7 #[.slice a len cap] w fun e w' => PadEnd z len e ∧ w' = w := by
  go_enter Try.func7, Try.ntmps7
  go_wp2_with fail
  refine (isPadding a len cap z w hl hz).mono ?_
  rintro e w' ⟨⟨r, rfl, hr⟩, rfl⟩
  go_wp2
  go_ret
  exact ⟨⟨r, rfl, hr⟩, rfl⟩

/-- How octetSum ends: with a number that is zero exactly where all octets are. -/
def SumEnd (z : Nat → Int) (len : Nat) (e : Ending) : Prop := ∃ s : Int, e = .returned (.int .u64 s) ∧ (s = 0 ↔ zeroTo z len)

set_option maxHeartbeats 400000 in
theorem octetSum (a : Option Addr) (len cap : Nat) (z : Nat → Int) (w : World) (hl : len ≤ 1048576) (hz : BS w a len z) :
    Calls Try.prog 6 #[.slice a len cap] w fun e w' => SumEnd z len e ∧ w' = w := by
  have HZ : Hid (BS w a len z) := hz
  clear hz
  go_enter Try.func6, Try.ntmps6
  go_wp2
  go_loop [3, 4] (fun t i => ∃ (k : Nat) (x : Int), k ≤ len ∧ i = .int .i64 k ∧ t = .int .u64 x ∧ 0 ≤ x ∧ x ≤ 255 * (k : Int) ∧ (x = 0 ↔ zeroTo z k)) (fun _ i => len - (intOf i).toNat)
  case atStart => exact ⟨0, 0, Nat.zero_le _, rfl, rfl, by omega, by omega, by simp [zeroTo_zero]⟩
  case round =>
    obtain ⟨k, x, hk, rfl, rfl, hx0, hx1, hf⟩ := hrel
    have HF : Hid (x = 0 ↔ zeroTo z k) := hf
    clear hf
    by_cases hlt : k < len
    · obtain ⟨b, o, rfl, hb, hc⟩ := HZ.out.at_ (by omega)
      have hck := hc k hlt
      obtain ⟨z0, z1⟩ := HZ.out.oct k hlt
      go_wp2
      go_round
      case rel =>
        refine ⟨k + 1, x + z k, by omega, by go_num, rfl, by omega, by omega, ?_⟩
        rw [zeroTo_succ, ← HF.out]
        omega
      case measure => simp [intOf]; omega
    · obtain rfl : k = len := by omega
      go_wp2
      go_ret
      exact ⟨⟨x, rfl, HF.out⟩, rfl⟩

/-- How cloneBytes ends: with a slice of the same octets, in memory of its own. -/
def CloneEnd (w : World) (len : Nat) (z : Nat → Int) (e : Ending) (w' : World) : Prop := ∃ a' cap', e = .returned (.slice a' len cap') ∧ BS w' a' len z ∧ Below w.heap.size w w'

set_option maxHeartbeats 400000 in
theorem cloneBytes (a : Option Addr) (len cap : Nat) (z : Nat → Int) (w : World) (hl : len ≤ 1048576) (hn : a = none → len = 0) (hz : BS w a len z) :
    Calls Try.prog 5 #[.slice a len cap] w fun e w' => CloneEnd w len z e w' := by
  have HZ : Hid (BS w a len z) := hz
  clear hz
  cases a with
  | none =>
    obtain rfl := hn rfl
    have hne : ∀ w, (binOp .eql 22 (.slice none 0 cap) (.slice none 0 0)).run Try.prog w = .ok (.bool true) w := fun w => Lib.run_eql_slice_nil w 22 5 _ 0 cap 0 0 Try.underlying22
    go_enter Try.func5, Try.ntmps5
    go_wp2
    go_ret
    exact ⟨_, _, rfl, BS.nothing _ _ _, Below.refl _ _⟩
  | some x =>
    clear hn
    obtain ⟨i0, hi, hz0, hz1, hz2⟩ := info_parts Try.info5
    have hne : ∀ w, (binOp .eql 22 (.slice (some x) len cap) (.slice none 0 0)).run Try.prog w = .ok (.bool false) w := fun w => Lib.run_eql_slice_nil w 22 5 _ len cap 0 0 Try.underlying22
    go_enter Try.func5, Try.ntmps5
    go_wp2_with (at_make; refine wpList_make_row _ rfl _ _ 22 rfl 5 i0 (.int .u8 0) 1 Try.underlying22 hi hz0 hz1 hz2 rfl .i64 .i64 _ _ len rfl rfl rfl rfl (by omega) (by unfold maxLen; omega) ?_; intro w1 hrow hbel hsz)
    go_loopw [4] (fun i wr => ∃ k : Nat, k ≤ len ∧ i = .int .i64 k ∧ Row wr w.heap.size len 5 (fun i => .int .u8 (if i < k then z i else 0)) ∧ Below w.heap.size w wr) (fun i _ => len - (intOf i).toNat)
    case atStart => exact ⟨0, Nat.zero_le _, rfl, hrow.congr (fun i hi => by simp), hbel⟩
    case round =>
      clear hrow hbel hsz
      obtain ⟨k, hk, rfl, hrow, hbel⟩ := hrel
      by_cases hlt : k < len
      · obtain ⟨b, off, ha, hb, hc⟩ := HZ.out.at_ (by omega)
        cases ha
        have hck : wr.cell? ⟨b, off + k, none⟩ = some (.int .u8 (z k)) := (hbel.cell (by exact hb)).trans (hc k hlt)
        have hcr := hrow.cell k hlt
        have hfr := hrow.free k
        have hr2 := hrow.set k (.int .u8 (z k))
        have hb2 := hbel.setCell (p := ⟨w.heap.size, k, none⟩) (Nat.le_refl _) (.int .u8 (z k))
        go_wp2
        go_roundw
        case rel =>
          refine ⟨k + 1, by omega, by go_num, hr2.congr (fun i hi => ?_), hb2⟩
          go_light
          by_cases e : i = k
          · subst e; simp [upd]
          · have : (i < k + 1) = (i < k) := by simp; omega
            simp [upd, e, this]
        case measure => simp [intOf]; omega
      · obtain rfl : k = len := by omega
        go_wp2
        go_ret
        exact ⟨_, _, rfl, BS.of_row (hrow.congr (fun i hi => by simp [hi])) HZ.out.oct, hbel⟩
end Go.Proofs.Qxb6605366a

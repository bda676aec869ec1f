/- slices.Grow at a nil slice (functions 15, 16, 17). -/
import Derived.Test.Qxb6606286aSmall
import Derived.WalkKit
import Derived.Lib.AppendZeros
namespace Go.Proofs.Qxb6606286a
open Go.RowKit
set_option linter.unusedVariables false

theorem Try.info21 : (Try.prog.info? 21).map (fun i => (i.zero, i.size, i.bytes)) = some (some (.int .i32 0), 1, 4) := by kernel_rfl
theorem Try.info29 : (Try.prog.info? 29).map (fun i => (i.zero, i.size, i.bytes)) = some (some (.int .u16 0), 1, 2) := by kernel_rfl

/-- What Grow leaves: a new row of at least m zeros, the slice of length 0 at its head. -/
structure Grew (w w' : World) (e : Ending) (m : Nat) (t : TypeId) (z : Value) : Prop where
  end_ : ∃ G, m ≤ G ∧ G ≤ 9223372036854775807 ∧ e = .returned (.slice (some ⟨w.heap.size, 0, none⟩) 0 G)
  row : Row w' w.heap.size m t (fun _ => z)
  below : Below w.heap.size w w'
  size : w'.heap.size = w.heap.size + 1

theorem grew_of (w : World) (m G : Nat) (t : TypeId) (z : Value) (hz : z.cells = #[z]) (hG : m ≤ G) (hG63 : G ≤ 9223372036854775807) :
    Grew w (w.drew.alloc (.cells (Builtin.zeroCells z.cells m ++ Builtin.zeroCells z.cells (G - m)) t)) (.returned (.slice (some ⟨w.heap.size, 0, none⟩) 0 G)) m t z := by
  refine ⟨⟨G, hG, hG63, rfl⟩, ⟨_, heap_alloc_new w.drew _, by simp [Builtin.zeroCells, hz], fun i hi => ?_⟩, (Below.refl _ _).drew.alloc (Nat.le_refl _) _, by simp⟩
  simp [Builtin.zeroCells, hz, Nat.mod_one]
  rw [Array.getElem?_append_left (by simpa using hi)]
  simp [hi]

theorem grow_run (w : World) (t e : TypeId) (i : TypeInfo) (z : Value) (bytes : Nat) (ht : Try.prog.underlying t = some (.slice e)) (hi : Try.prog.info? e = some i) (hz : i.zero = some z) (h1 : i.size = 1) (h2 : i.bytes = bytes) (m : Nat) (h0 : 0 < m) (hm : m * bytes ≤ 281474976710656) (hm2 : m ≤ 1048576) :
    ∀ ty, (Builtin.append_ #[t, 3] ty #[.slice none 0 0, .int .i64 m]).run Try.prog w =
      .ok (.slice (some ⟨w.heap.size, 0, none⟩) m (grownCap w m 0 e)) (w.drew.alloc (.cells (Builtin.zeroCells z.cells m ++ Builtin.zeroCells z.cells (grownCap w m 0 e - m)) e)) := fun ty =>
  Lib.run_append_nil_zeros w t 3 ty e i z .i64 .i64 ht Try.underlying3 hi hz m h0 (by omega) (by omega) (by rw [h2]; exact hm)

set_option maxHeartbeats 1000000 in
set_option maxRecDepth 100000 in
theorem grow15 (m : Nat) (w : World) (h0 : 0 < m) (hm : m ≤ 1048576) :
    Calls Try.prog 15 #[.slice none 0 0, .int .i64 m] w fun e w' => Grew w w' e m 25 (.int .u64 0) := by
  obtain ⟨i0, hi, hz0, hz1, hz2⟩ := info_parts Try.info25
  have hrz := grow_run w 22 25 i0 (.int .u64 0) 8 Try.underlying22 hi hz0 hz1 hz2 m h0 (by omega) hm
  have hG := grownCap_ge w m 0 25
  have hG63 := grownCap_le_maxLen w m 0 25 (by unfold maxLen; omega)
  have hfin := fun G => grew_of w m G 25 (.int .u64 0) rfl
  unfold maxLen at hG63
  generalize grownCap w m 0 25 = G at hrz hG hG63
  have HF : Hid (Grew w (w.drew.alloc (.cells (Builtin.zeroCells (Value.int .u64 0).cells m ++ Builtin.zeroCells (Value.int .u64 0).cells (G - m)) 25)) (.returned (.slice (some ⟨w.heap.size, 0, none⟩) 0 G)) m 25 (.int .u64 0)) := hfin G hG (by omega)
  clear hfin
  go_enter Try.func15, Try.ntmps15
  go_wp2_with (at_builtin; refine Lib.wpList_append_run _ rfl _ _ _ _ rfl _ _ rfl rfl _ _ (hrz _) ?_)
  all_goals (go_ret; exact HF.out)

set_option maxHeartbeats 1000000 in
set_option maxRecDepth 100000 in
theorem grow16 (m : Nat) (w : World) (h0 : 0 < m) (hm : m ≤ 1048576) :
    Calls Try.prog 16 #[.slice none 0 0, .int .i64 m] w fun e w' => Grew w w' e m 21 (.int .i32 0) := by
  obtain ⟨i0, hi, hz0, hz1, hz2⟩ := info_parts Try.info21
  have hrz := grow_run w 33 21 i0 (.int .i32 0) 4 Try.underlying33 hi hz0 hz1 hz2 m h0 (by omega) hm
  have hG := grownCap_ge w m 0 21
  have hG63 := grownCap_le_maxLen w m 0 21 (by unfold maxLen; omega)
  have hfin := fun G => grew_of w m G 21 (.int .i32 0) rfl
  unfold maxLen at hG63
  generalize grownCap w m 0 21 = G at hrz hG hG63
  have HF : Hid (Grew w (w.drew.alloc (.cells (Builtin.zeroCells (Value.int .i32 0).cells m ++ Builtin.zeroCells (Value.int .i32 0).cells (G - m)) 21)) (.returned (.slice (some ⟨w.heap.size, 0, none⟩) 0 G)) m 21 (.int .i32 0)) := hfin G hG (by omega)
  clear hfin
  go_enter Try.func16, Try.ntmps16
  go_wp2_with (at_builtin; refine Lib.wpList_append_run _ rfl _ _ _ _ rfl _ _ rfl rfl _ _ (hrz _) ?_)
  all_goals (go_ret; exact HF.out)

set_option maxHeartbeats 1000000 in
set_option maxRecDepth 100000 in
theorem grow17 (m : Nat) (w : World) (h0 : 0 < m) (hm : m ≤ 1048576) :
    Calls Try.prog 17 #[.slice none 0 0, .int .i64 m] w fun e w' => Grew w w' e m 29 (.int .u16 0) := by
  obtain ⟨i0, hi, hz0, hz1, hz2⟩ := info_parts Try.info29
  have hrz := grow_run w 27 29 i0 (.int .u16 0) 2 Try.underlying27 hi hz0 hz1 hz2 m h0 (by omega) hm
  have hG := grownCap_ge w m 0 29
  have hG63 := grownCap_le_maxLen w m 0 29 (by unfold maxLen; omega)
  have hfin := fun G => grew_of w m G 29 (.int .u16 0) rfl
  unfold maxLen at hG63
  generalize grownCap w m 0 29 = G at hrz hG hG63
  have HF : Hid (Grew w (w.drew.alloc (.cells (Builtin.zeroCells (Value.int .u16 0).cells m ++ Builtin.zeroCells (Value.int .u16 0).cells (G - m)) 29)) (.returned (.slice (some ⟨w.heap.size, 0, none⟩) 0 G)) m 29 (.int .u16 0)) := hfin G hG (by omega)
  clear hfin
  go_enter Try.func17, Try.ntmps17
  go_wp2_with (at_builtin; refine Lib.wpList_append_run _ rfl _ _ _ _ rfl _ _ rfl rfl _ _ (hrz _) ?_)
  all_goals (go_ret; exact HF.out)
end Go.Proofs.Qxb6606286a

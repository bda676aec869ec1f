/- Stride (18), Rows (17), rowsOf (16). -/
import Derived.Test.Qxb6606418aLayout
import Derived.BigQuiet
import Derived.Deep.QuietTactic
import Derived.Deep.RegionWith
import Derived.Deep.RegionHeld3
import Derived.Deep.DrawnRows
import Derived.Deep.DeepCutAuto
namespace Go.Proofs.Qxb6606418a
open Go.RowKit
set_option linter.unusedVariables false
attribute [local go_sem ↓] Go.wp_at_zero Go.wp_at_succ

theorem stride (width block spacing regr slots Q : Int) (bl : Bool) (w : World) (hQ : block * spacing = Q) (q1 : 1 ≤ Q) (q2 : Q ≤ 65536) :
    Calls Try.prog 18 #[.agg #[.int .i64 width, .int .i64 block, .int .i64 spacing, .int .i64 regr, .int .i64 slots, .bool bl]] w fun e w' => e = .returned (.int .i64 Q) ∧ Below w.heap.size w w' := by
  go_enter Try.func18, Try.ntmps18
  go_wp2
  go_ret
  exact ⟨rfl, (Below.refl _ _).alloc (Nat.le_refl _) _⟩

set_option maxHeartbeats 1000000 in
theorem rows (width block spacing regr slots Q R : Int) (w : World) (hQ : block * spacing = Q) (q1 : 1 ≤ Q) (q2 : Q ≤ 65536) (l0 : 0 ≤ slots) (l1 : slots ≤ 65536) (hR : slots / Q = R) (r0 : 0 ≤ R) (r1 : R ≤ 65536) :
    Calls Try.prog 17 #[.agg #[.int .i64 width, .int .i64 block, .int .i64 spacing, .int .i64 regr, .int .i64 slots, .bool true]] w fun e w' => e = .returned (.int .i64 R) ∧ Below w.heap.size w w' := by
  have HQ : Hid (block * spacing = Q) := hQ
  clear hQ
  go_enter Try.func17, Try.ntmps17
  go_wp2_with fail
  have hblk := heap_alloc_new w (Obj.cells #[Value.int IntKind.i64 width, Value.int IntKind.i64 block, Value.int IntKind.i64 spacing, Value.int IntKind.i64 regr, Value.int IntKind.i64 slots, Value.bool true] 36)
  have HB0 : Hid (Below w.heap.size w (w.alloc (Obj.cells #[Value.int IntKind.i64 width, Value.int IntKind.i64 block, Value.int IntKind.i64 spacing, Value.int IntKind.i64 regr, Value.int IntKind.i64 slots, Value.bool true] 36))) := (Below.refl _ _).alloc (Nat.le_refl _) _
  have HK : Hid (∀ w1 : World, Below (w.heap.size + 1) (w.alloc (Obj.cells #[Value.int IntKind.i64 width, Value.int IntKind.i64 block, Value.int IntKind.i64 spacing, Value.int IntKind.i64 regr, Value.int IntKind.i64 slots, Value.bool true] 36)).drew w1 → w1.cell? ⟨w.heap.size, 4, none⟩ = some (.int .i64 slots)) := fun w1 hb => by
    rw [hb.cell (p := ⟨w.heap.size, 4, none⟩) (by simp)]
    show (w.alloc _).cell? _ = _
    rw [cell_of_row _ _ _ _ _ _ hblk]; rfl
  clear hblk
  go_region_with ((go_at_call 18; refine (stride width block spacing regr slots Q true _ HQ.out q1 q2).mono ?_; rintro e w1 ⟨rfl, hb⟩; have hb' : Below (w.heap.size + 1) (w.alloc (Obj.cells #[Value.int IntKind.i64 width, Value.int IntKind.i64 block, Value.int IntKind.i64 spacing, Value.int IntKind.i64 regr, Value.int IntKind.i64 slots, Value.bool true] 36)).drew w1 := (by simpa using hb); have c4 := HK.out w1 hb'; have HB1 : Hid (Below w.heap.size w w1) := ⟨hb'.os, hb'.tape, hb'.output, (by have h1 := hb'.size; have h2 : (w.alloc (Obj.cells #[Value.int IntKind.i64 width, Value.int IntKind.i64 block, Value.int IntKind.i64 spacing, Value.int IntKind.i64 regr, Value.int IntKind.i64 slots, Value.bool true] 36)).drew.heap.size = w.heap.size + 1 := (by simp); omega), (fun k hk => (hb'.block k (by omega)).trans (HB0.out.block k hk))⟩; clear hb hb'))
  all_goals
    go_wp2
    go_ret
    refine ⟨?_, HB1.out⟩
    rfl

/-- The record behind the pointer S: its layout, its logits, its steps. -/
structure Rec (w : World) (S : Nat) (width block spacing regr slots : Int) (lv sv : Value) : Prop where
  c0 : w.cell? ⟨S, 0, none⟩ = some (.int .i64 width)
  c1 : w.cell? ⟨S, 1, none⟩ = some (.int .i64 block)
  c2 : w.cell? ⟨S, 2, none⟩ = some (.int .i64 spacing)
  c3 : w.cell? ⟨S, 3, none⟩ = some (.int .i64 regr)
  c4 : w.cell? ⟨S, 4, none⟩ = some (.int .i64 slots)
  c5 : w.cell? ⟨S, 5, none⟩ = some (.bool true)
  c13 : w.cell? ⟨S, 13, none⟩ = some lv
  c14 : w.cell? ⟨S, 14, none⟩ = some sv

theorem Rec.below {w w' : World} {S B : Nat} {width block spacing regr slots : Int} {lv sv : Value} (h : Rec w S width block spacing regr slots lv sv) (hb : Below B w w') (hS : S < B) : Rec w' S width block spacing regr slots lv sv :=
  ⟨(hb.cell (by exact hS)).trans h.c0, (hb.cell (by exact hS)).trans h.c1, (hb.cell (by exact hS)).trans h.c2, (hb.cell (by exact hS)).trans h.c3, (hb.cell (by exact hS)).trans h.c4, (hb.cell (by exact hS)).trans h.c5, (hb.cell (by exact hS)).trans h.c13, (hb.cell (by exact hS)).trans h.c14⟩

set_option maxHeartbeats 2000000 in
set_option maxRecDepth 1000000 in
theorem rowsOf (S : Nat) (width block spacing regr slots Q R i Fi : Int) (la : Option Addr) (len cap : Nat) (sv : Value) (w : World) (hrec : Rec w S width block spacing regr slots (.slice la len cap) sv) (hS : S < w.heap.size)
    (hQ : block * spacing = Q) (q1 : 1 ≤ Q) (q2 : Q ≤ 65536) (l0 : 0 ≤ slots) (l1 : slots ≤ 65536) (hR : slots / Q = R) (r0 : 0 ≤ R) (r1 : R ≤ 65536) (hF : i * R = Fi) (f0 : 0 ≤ Fi) (f1 : Fi ≤ 1073741824) (hlen : len ≤ 1048576) :
    Calls Try.prog 16 #[.pointer (some ⟨S, 0, none⟩), .int .i64 i] w fun e w' => e = .returned (.tuple #[.int .i64 Fi, .int .i64 (min (Fi + R) (len : Int))]) ∧ Below w.heap.size w w' := by
  have hwr : IntKind.i64.wrap (Fi + R) = Fi + R := by rw [IntKind.wrap_i64]; omega
  have HMin : Hid (min (Fi + R) (len : Int) = if (len : Int) < Fi + R then (len : Int) else Fi + R) := by unfold Hid; split <;> omega
  have HQ : Hid (block * spacing = Q) := hQ
  have HR : Hid (slots / Q = R) := hR
  have HC : Hid (Rec w S width block spacing regr slots (.slice la len cap) sv) := hrec
  obtain ⟨c0, c1, c2, c3, c4, c5, c13, c14⟩ := hrec
  clear hQ hR
  go_enter Try.func16, Try.ntmps16
  go_wp2_with fail
  refine (rows width block spacing regr slots Q R _ HQ.out q1 q2 l0 l1 HR.out r0 r1).mono ?_
  rintro e w1 ⟨rfl, hb1⟩
  clear c0 c1 c2 c3 c4 c5 c13 c14
  have hrec1 := HC.out.below hb1 hS
  have HC1 : Hid (Rec w1 S width block spacing regr slots (.slice la len cap) sv) := hrec1
  have HB1 : Hid (Below w.heap.size w w1) := hb1
  have hS1 : S < w1.heap.size := Nat.lt_of_lt_of_le hS hb1.size
  obtain ⟨c0, c1, c2, c3, c4, c5, c13, c14⟩ := hrec1
  clear hb1
  go_wp2_with fail
  go_region_held3 (fun w' => w'.cell? ⟨S, 0, none⟩ = some (.int .i64 width) ∧ w'.cell? ⟨S, 1, none⟩ = some (.int .i64 block) ∧ w'.cell? ⟨S, 2, none⟩ = some (.int .i64 spacing) ∧ w'.cell? ⟨S, 3, none⟩ = some (.int .i64 regr) ∧ w'.cell? ⟨S, 4, none⟩ = some (.int .i64 slots) ∧ w'.cell? ⟨S, 5, none⟩ = some (.bool true) ∧ w'.cell? ⟨S, 13, none⟩ = some (.slice la len cap)) (go_keep)
    ((go_at_call 17; refine (rows width block spacing regr slots Q R _ HQ.out q1 q2 l0 l1 HR.out r0 r1).mono ?_; rintro e w2 ⟨rfl, hb2⟩; have hb3 : Below w1.heap.size w1 w2 := ⟨hb2.os, hb2.tape, hb2.output, hb2.size, hb2.block⟩; obtain ⟨d0, d1, d2, d3, d4, d5, d13, d14⟩ := HC1.out.below hb3 hS1; have HB2 : Hid (Below w.heap.size w w2) := HB1.out.trans (hb3.mono HB1.out.size); clear hb2 hb3))
  by_cases hm : (len : Int) < Fi + R
  · have em : min (Fi + R) (len : Int) = (len : Int) := by rw [HMin.out, if_pos hm]
    have HE : Hid (min (Fi + R) (len : Int) = (len : Int)) := em
    clear em
    go_wp2
    go_ret2
    exact ⟨by rw [HE.out]; rfl, HB2.out⟩
  · have em : min (Fi + R) (len : Int) = Fi + R := by rw [HMin.out, if_neg hm]
    have HE : Hid (min (Fi + R) (len : Int) = Fi + R) := em
    clear em
    go_wp2
    go_ret2
    exact ⟨by rw [HE.out]; rfl, HB2.out⟩
end Go.Proofs.Qxb6606418a

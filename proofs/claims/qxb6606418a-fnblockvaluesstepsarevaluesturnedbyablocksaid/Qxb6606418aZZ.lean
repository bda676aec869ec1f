/- ZZBlockValues (10). -/
import Derived.Test.Qxb6606418aWalkBV
namespace Go.Proofs.Qxb6606418a
open Go.RowKit
set_option linter.unusedVariables false

/-- A matrix is as it was where nothing below has turned. -/
theorem Mat.below {w w' : World} {a : Option Addr} {len : Nat} {A : Nat → Option Addr} {L C Bk Ok : Nat → Nat} {F : Nat → Nat → Nat} (h : Mat w a len A L C Bk Ok F) (hb : Below w.heap.size w w') : Mat w' a len A L C Bk Ok F := by
  refine ⟨h.le, h.ll, fun h0 => ?_, fun r hr hl => ?_⟩
  · obtain ⟨b, o, e, hc⟩ := h.at_ h0
    exact ⟨b, o, e, fun r hr => cell_later hb (hc r hr)⟩
  · obtain ⟨e, hc⟩ := h.row r hr hl
    exact ⟨e, fun c hc' => cell_later hb (hc c hc')⟩

theorem rec_new (width block regr : Int) (sp m : Nat) (la sa : Option Addr) (len cap len' cap' : Nat) (w : World) : Rec (w.alloc (Obj.cells #[Value.int IntKind.i64 width, Value.int IntKind.i64 block, Value.int IntKind.i64 (sp : Int), Value.int IntKind.i64 regr, Value.int IntKind.i64 (m : Int), Value.bool true, Value.int IntKind.i64 0, Value.int IntKind.i64 0, Value.int IntKind.i64 0, Value.int IntKind.i64 0, Value.int IntKind.i64 0, Value.int IntKind.i64 0, Value.int IntKind.i64 0, Value.slice la len cap, Value.slice sa len' cap', Value.slice none 0 0, Value.slice none 0 0, Value.slice none 0 0, Value.int IntKind.i64 0, Value.bool false, Value.float FloatKind.f64 0, Value.slice none 0 0, Value.slice none 0 0] 43)) w.heap.size width block sp regr m (.slice la len cap) (.slice sa len' cap') := by
  have h := heap_alloc_new w (Obj.cells #[Value.int IntKind.i64 width, Value.int IntKind.i64 block, Value.int IntKind.i64 (sp : Int), Value.int IntKind.i64 regr, Value.int IntKind.i64 (m : Int), Value.bool true, Value.int IntKind.i64 0, Value.int IntKind.i64 0, Value.int IntKind.i64 0, Value.int IntKind.i64 0, Value.int IntKind.i64 0, Value.int IntKind.i64 0, Value.int IntKind.i64 0, Value.slice la len cap, Value.slice sa len' cap', Value.slice none 0 0, Value.slice none 0 0, Value.slice none 0 0, Value.int IntKind.i64 0, Value.bool false, Value.float FloatKind.f64 0, Value.slice none 0 0, Value.slice none 0 0] 43)
  refine ⟨?_, ?_, ?_, ?_, ?_, ?_, ?_, ?_⟩ <;> (rw [cell_of_row _ _ _ _ _ _ h]; rfl)

set_option maxHeartbeats 1000000 in
set_option maxRecDepth 100000 in
theorem zzBlock (width block regr i : Int) (sp m Q R F : Nat) (la sa : Option Addr) (len cap len' cap' : Nat) (A A' : Nat → Option Addr) (L C Bk Ok L' C' Bk' Ok' : Nat → Nat) (LF SF : Nat → Nat → Nat) (w : World)
    (hM : Mat w la len A L C Bk Ok LF) (hM' : Mat w sa len' A' L' C' Bk' Ok' SF) (hle : len ≤ len') (hto : rowsTo width L L' len) (hlen : len ≤ 1048576)
    (hP : LayoutP width block sp regr m i Q R) (hF : i * (R : Int) = (F : Int)) (hF1 : F ≤ 1073741824) :
    Calls Try.prog 10 #[.int .i64 width, .int .i64 block, .int .i64 sp, .int .i64 regr, .int .i64 m, .bool true, .slice la len cap, .slice sa len' cap', .int .i64 i] w fun e w' =>
      BVEnd m (Slot.vals width regr Q sp F LF (min (F + R) len - F) 0 0) (Slot.stps width regr Q sp F R SF (min (F + R) len - F) 0 0) w w' e := by
  have HM : Hid (Mat w la len A L C Bk Ok LF) := hM
  have HM' : Hid (Mat w sa len' A' L' C' Bk' Ok' SF) := hM'
  have HT : Hid (rowsTo width L L' len) := hto
  have HP : Hid (LayoutP width block sp regr m i Q R) := hP
  have HF : Hid (i * (R : Int) = (F : Int)) := hF
  clear hM hM' hto hP hF
  go_enter Try.func10, Try.ntmps10
  go_wp2_with fail
  have hb0 : Below w.heap.size w (w.alloc (Obj.cells #[Value.int IntKind.i64 width, Value.int IntKind.i64 block, Value.int IntKind.i64 (sp : Int), Value.int IntKind.i64 regr, Value.int IntKind.i64 (m : Int), Value.bool true, Value.int IntKind.i64 0, Value.int IntKind.i64 0, Value.int IntKind.i64 0, Value.int IntKind.i64 0, Value.int IntKind.i64 0, Value.int IntKind.i64 0, Value.int IntKind.i64 0, Value.slice la len cap, Value.slice sa len' cap', Value.slice none 0 0, Value.slice none 0 0, Value.slice none 0 0, Value.int IntKind.i64 0, Value.bool false, Value.float FloatKind.f64 0, Value.slice none 0 0, Value.slice none 0 0] 43)) := (Below.refl _ _).alloc (Nat.le_refl _) _
  refine (blockValues w.heap.size width block regr i sp m Q R F la sa len cap len' cap' A A' L C Bk Ok L' C' Bk' Ok' LF SF _ (rec_new width block regr sp m la sa len cap len' cap' w) (by simp) (HM.out.below hb0) (HM'.out.below hb0) hle HT.out hlen HP.out HF.out hF1).mono ?_
  rintro e w1 ⟨gv, gs, rfl, rv, rs, hb1⟩
  have HEND : Hid (BVEnd m (Slot.vals width regr Q sp F LF (min (F + R) len - F) 0 0) (Slot.stps width regr Q sp F R SF (min (F + R) len - F) 0 0) w w1 (.returned (.tuple #[.slice (some ⟨gv, 0, none⟩) m m, .slice (some ⟨gs, 0, none⟩) m m]))) := ⟨gv, gs, rfl, rv, rs, hb0.trans (hb1.mono (by simp))⟩
  clear rv rs hb0 hb1
  go_wp2
  go_ret2
  exact HEND.out
end Go.Proofs.Qxb6606418a

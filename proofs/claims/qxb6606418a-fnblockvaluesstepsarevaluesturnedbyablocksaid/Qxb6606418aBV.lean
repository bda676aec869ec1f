/- blockValues (15): how it lies in memory. -/
import Derived.Test.Qxb6606418aBlocks
import Derived.Test.Qxb6606418aSlots
namespace Go.Proofs.Qxb6606418a
open Go.RowKit
set_option linter.unusedVariables false

/-- A float stored into a cell: the kit has this law for integers, bools, pointers, slices and strings. -/
theorem run_store_float (P : Program) (w : World) (a : Addr) (m : Mode) (k : FloatKind) (n : Nat) : (store a (.float k n) m).run P w = stored P w a (.float k n) m := run_store P w a _ m rfl

theorem ne_of_types {w : World} {a b : Nat} {x y : Array Value} {t u : TypeId} {f g : Nat × Nat} (ha : w.heap[a]? = some (.cells x t f)) (hb : w.heap[b]? = some (.cells y u g)) (h : t ≠ u) : a ≠ b := by
  intro e
  subst e
  rw [ha] at hb
  simp at hb
  exact h hb.2.1
theorem Row.ne_one {w : World} {g n b : Nat} {e t : TypeId} {f : Nat → Value} {u : Array Value} (h : Row w g n e f) (hb : w.heap[b]? = some (.cells u t (0, 0))) (ht : e ≠ t) : g ≠ b := by
  obtain ⟨cur, hg, _⟩ := h
  exact ne_of_types hg hb ht

/-- A layout and its numbers, as a bundle of letters. -/
structure Ly where
  width : Int
  block : Int
  spacing : Int
  regr : Int
  slots : Int

def Ly.cells (l : Ly) : Array Value := #[.int .i64 l.width, .int .i64 l.block, .int .i64 l.spacing, .int .i64 l.regr, .int .i64 l.slots, .bool true]

/-- What the loops hold: the record (S), the local layout (bl), the two rows (gv, gs) of m slots; below B all is as it was. -/
structure BV (w0 w : World) (B S bl gv gs m : Nat) (l : Ly) (lv sv : Value) (V T : Nat → Nat) : Prop where
  rc : Rec w S l.width l.block l.spacing l.regr l.slots lv sv
  loc : w.heap[bl]? = some (.cells l.cells 36 (0, 0))
  rv : Row w gv m 30 (fun s => .float .f64 (V s))
  rs : Row w gs m 30 (fun s => .float .f64 (T s))
  bel : Below B w0 w
  oS : S < B
  ol : B ≤ bl
  ov : B ≤ gv
  os : B ≤ gs
  vs : gv ≠ gs

section
variable {w0 w : World} {B S bl gv gs m : Nat} {l : Ly} {lv sv : Value} {V T : Nat → Nat}

theorem BV.lc (h : BV w0 w B S bl gv gs m l lv sv V T) : w.cell? ⟨bl, 0, none⟩ = some (.int .i64 l.width) ∧ w.cell? ⟨bl, 1, none⟩ = some (.int .i64 l.block) ∧ w.cell? ⟨bl, 2, none⟩ = some (.int .i64 l.spacing) ∧
    w.cell? ⟨bl, 3, none⟩ = some (.int .i64 l.regr) ∧ w.cell? ⟨bl, 4, none⟩ = some (.int .i64 l.slots) ∧ w.cell? ⟨bl, 5, none⟩ = some (.bool true) := by
  refine ⟨?_, ?_, ?_, ?_, ?_, ?_⟩ <;> (rw [cell_of_row w bl _ _ 36 (0, 0) h.loc]; rfl)

theorem BV.later (h : BV w0 w B S bl gv gs m l lv sv V T) {wq w' : World} (hb : Below wq.heap.size wq w') (e : wq.heap = w.heap) (e1 : wq.os = w.os) (e2 : wq.tape = w.tape) (e3 : wq.output = w.output) : BV w0 w' B S bl gv gs m l lv sv V T := by
  have hb' : Below w.heap.size w w' := ⟨hb.os.trans e1, hb.tape.trans e2, hb.output.trans e3, by rw [← e]; exact hb.size, fun k hk => by rw [hb.block k (by rw [e]; exact hk), e]⟩
  have hl := lt_of_block h.loc
  have hol := h.ol
  have hoS := h.oS
  exact ⟨h.rc.below hb' (by omega), by rw [hb'.block bl hl]; exact h.loc, h.rv.below hb' h.rv.lt, h.rs.below hb' h.rs.lt, h.bel.trans (hb'.mono (by omega)), h.oS, h.ol, h.ov, h.os, h.vs⟩

theorem BV.heap (h : BV w0 w B S bl gv gs m l lv sv V T) {w' : World} (e : w'.heap = w.heap) (e1 : w'.os = w.os) (e2 : w'.tape = w.tape) (e3 : w'.output = w.output) : BV w0 w' B S bl gv gs m l lv sv V T :=
  h.later (wq := w) ⟨e1, e2, e3, by rw [e]; exact Nat.le_refl _, fun k _ => by rw [e]⟩ rfl rfl rfl rfl

theorem Rec.other {w : World} {S : Nat} {width block spacing regr slots : Int} {lv sv : Value} (h : Rec w S width block spacing regr slots lv sv) (g j : Nat) (v : Value) (hg : S ≠ g) : Rec (w.setCell ⟨g, j, none⟩ v) S width block spacing regr slots lv sv := by
  have o : ∀ i, (w.setCell ⟨g, j, none⟩ v).cell? ⟨S, i, none⟩ = w.cell? ⟨S, i, none⟩ := fun i => World.cell?_setCell_other w ⟨g, j, none⟩ ⟨S, i, none⟩ v (fun e => hg (congrArg Addr.block e).symm)
  exact ⟨(o 0).trans h.c0, (o 1).trans h.c1, (o 2).trans h.c2, (o 3).trans h.c3, (o 4).trans h.c4, (o 5).trans h.c5, (o 13).trans h.c13, (o 14).trans h.c14⟩

theorem upd_floats (f : Nat → Nat) (j x : Nat) : upd (fun s => Value.float .f64 (f s)) j (.float .f64 x) = fun s => Value.float .f64 (Slot.up f j x s) := by
  funext s
  by_cases h : s = j <;> simp [upd, Slot.up, h]

theorem BV.setV (h : BV w0 w B S bl gv gs m l lv sv V T) (j x : Nat) : BV w0 (w.setCell ⟨gv, j, none⟩ (.float .f64 x)) B S bl gv gs m l lv sv (Slot.up V j x) T := by
  have o1 := h.oS; have o2 := h.ov
  refine ⟨h.rc.other gv j _ (by omega), ?_, ?_, h.rs.setOther _ _ (fun e => h.vs e.symm), h.bel.setCell (p := ⟨gv, j, none⟩) h.ov _, h.oS, h.ol, h.ov, h.os, h.vs⟩
  · rw [heap_setCell_other w ⟨gv, j, none⟩ bl _ (h.rv.ne_one h.loc (by decide)).symm]; exact h.loc
  · rw [← upd_floats]; exact h.rv.set j _

theorem BV.setS (h : BV w0 w B S bl gv gs m l lv sv V T) (j x : Nat) : BV w0 (w.setCell ⟨gs, j, none⟩ (.float .f64 x)) B S bl gv gs m l lv sv V (Slot.up T j x) := by
  have o1 := h.oS; have o2 := h.os
  refine ⟨h.rc.other gs j _ (by omega), ?_, h.rv.setOther _ _ h.vs, ?_, h.bel.setCell (p := ⟨gs, j, none⟩) h.os _, h.oS, h.ol, h.ov, h.os, h.vs⟩
  · rw [heap_setCell_other w ⟨gs, j, none⟩ bl _ (h.rs.ne_one h.loc (by decide)).symm]; exact h.loc
  · rw [← upd_floats]; exact h.rs.set j _
end
end Go.Proofs.Qxb6606418a

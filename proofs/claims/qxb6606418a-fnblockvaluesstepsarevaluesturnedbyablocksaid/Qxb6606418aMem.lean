/- A row of cells of the call's own making, told by a function: 'Row w g n e f': block g holds at least n cells of type e, none frozen, the i-th being f i. -/
import Derived.WalkKit
namespace Go.Proofs.Qxb6606418a
open Go.RowKit

def Row (w : World) (g n : Nat) (e : TypeId) (f : Nat → Value) : Prop :=
  ∃ cur : Array Value, w.heap[g]? = some (.cells cur e (0, 0)) ∧ n ≤ cur.size ∧ ∀ i, i < n → cur[i]? = some (f i)

def upd {α : Type} (f : Nat → α) (j : Nat) (v : α) : Nat → α := fun i => if i = j then v else f i
theorem upd_same {α : Type} (f : Nat → α) (j : Nat) (v : α) : upd f j v j = v := by simp [upd]
theorem upd_other {α : Type} (f : Nat → α) (j i : Nat) (v : α) (h : i ≠ j) : upd f j v i = f i := by simp [upd, h]

namespace Row
variable {w : World} {g n : Nat} {e : TypeId} {f : Nat → Value}

theorem cell (h : Row w g n e f) (i : Nat) (hi : i < n) : w.cell? ⟨g, i, none⟩ = some (f i) := by
  obtain ⟨cur, hg, _, hc⟩ := h
  rw [cell_of_row w g i cur e (0, 0) hg]; exact hc i hi
theorem free (h : Row w g n e f) (i : Nat) : w.frozen? ⟨g, i, none⟩ = false := by
  obtain ⟨cur, hg, _, _⟩ := h
  exact frozen_of_row w g i cur e hg
theorem lt (h : Row w g n e f) : g < w.heap.size := by
  obtain ⟨cur, hg, _, _⟩ := h
  exact lt_of_block hg
theorem congr (h : Row w g n e f) {f' : Nat → Value} (hf : ∀ i, i < n → f i = f' i) : Row w g n e f' := by
  obtain ⟨cur, hg, hn, hc⟩ := h
  exact ⟨cur, hg, hn, fun i hi => by rw [← hf i hi]; exact hc i hi⟩
theorem set (h : Row w g n e f) (j : Nat) (u : Value) : Row (w.setCell ⟨g, j, none⟩ u) g n e (upd f j u) := by
  obtain ⟨cur, hg, hn, hc⟩ := h
  refine ⟨cur.setIfInBounds j u, heap_setCell_same w g j cur e u hg, by simpa using hn, fun i hi => ?_⟩
  by_cases hij : j = i
  · subst hij
    rw [Array.getElem?_setIfInBounds_self_of_lt (by omega), upd_same]
  · rw [Array.getElem?_setIfInBounds_ne hij, upd_other _ _ _ _ (fun e => hij e.symm)]; exact hc i hi
theorem setOther (h : Row w g n e f) (a : Addr) (u : Value) (ha : g ≠ a.block) : Row (w.setCell a u) g n e f := by
  obtain ⟨cur, hg, hn, hc⟩ := h
  exact ⟨cur, by rw [heap_setCell_other w a g u ha]; exact hg, hn, hc⟩
theorem alloc (h : Row w g n e f) (o : Obj) : Row (w.alloc o) g n e f := by
  have hlt := h.lt
  obtain ⟨cur, hg, hn, hc⟩ := h
  exact ⟨cur, by rw [Below.heap_alloc w o g hlt]; exact hg, hn, hc⟩
theorem drew (h : Row w g n e f) : Row w.drew g n e f := h
theorem of_heap (h : Row w g n e f) {w' : World} (hh : w'.heap[g]? = w.heap[g]?) : Row w' g n e f := by
  obtain ⟨cur, hg, hn, hc⟩ := h
  exact ⟨cur, by rw [hh]; exact hg, hn, hc⟩
theorem below (h : Row w g n e f) {B : Nat} {w' : World} (hb : Below B w w') (hg : g < B) : Row w' g n e f := h.of_heap (hb.block g hg)
theorem shorter (h : Row w g n e f) {m : Nat} (hm : m ≤ n) : Row w g m e f := by
  obtain ⟨cur, hg, hn, hc⟩ := h
  exact ⟨cur, hg, by omega, fun i hi => hc i (by omega)⟩
theorem ne_type {g' n' : Nat} {e' : TypeId} {f' : Nat → Value} (h : Row w g n e f) (h' : Row w g' n' e' f') (he : e ≠ e') : g ≠ g' := by
  intro hgg
  subst hgg
  obtain ⟨cur, hg, _⟩ := h
  obtain ⟨cur', hg', _⟩ := h'
  rw [hg] at hg'
  simp at hg'
  exact he hg'.2
end Row

theorem row_made (w : World) (z : Value) (m n : Nat) (e : TypeId) (h : n ≤ m) : Row (w.alloc (.cells (madeCells #[z] m) e)) w.heap.size n e (fun _ => z) :=
  ⟨madeCells #[z] m, heap_alloc_new w _, by rw [size_madeCells]; exact h, fun i hi => by
    have h1 : (madeCells #[z] m).toList[i]? = some z := by rw [toList_madeCells_one, List.getElem?_replicate, if_pos (by omega)]
    simpa using h1⟩

/-- 'make([]T, n)', T of one cell. -/
theorem wpList_make_row {P : Program} (w : World) {ops : Array Oper} {rest : List Oper} {o : Oper} {a : Act} {Q : Exit → Act → World → Prop}
    (hg : o.guard = none) (l c : Operand) (t : TypeId) (hop : o.op = Op.makeSlice t l c)
    (e : TypeId) (i : TypeInfo) (z : Value) (by_ : Nat) (h1 : P.underlying t = some (.slice e)) (h2 : P.info? e = some i) (h3 : i.zero = some z) (h4 : i.size = 1) (h5 : i.bytes = by_) (hz : z.cells = #[z])
    (kl kc : IntKind) (L C : Int) (n : Nat) (hl : a.eval l = .int kl L) (hc : a.eval c = .int kc C) (hL : L = (n : Int)) (hC : C = (n : Int)) (b2 : by_ * n ≤ 281474976710656) (b3 : n ≤ maxLen)
    (hK : ∀ w', Row w' w.heap.size n e (fun _ => z) → Below w.heap.size w w' → w'.heap.size = w.heap.size + 1 → wpList P ops Q rest (a.put o.dst (.slice (some ⟨w.heap.size, 0, none⟩) n n)) w') :
    wpList P ops Q (o :: rest) a w := by
  refine wpList_plain hg fun K hK' => ?_
  subst h5
  have h63' : (n : Int) ≤ 9223372036854775807 := by
    have h := b3
    simp [maxLen] at h
    omega
  have hb' : (i.bytes : Int) * (n : Int) ≤ 281474976710656 := by
    have h : ((i.bytes * n : Nat) : Int) ≤ 281474976710656 := by omega
    rwa [Int.natCast_mul] at h
  have hr := run_make (P := P) w t e i z h1 h2 h3 kl kc n n (by omega) (Int.le_refl _) hb' h63'
  simp only [Int.toNat_natCast, h4, hz, Nat.mul_one] at hr
  subst hL
  subst hC
  unfold Oper.wp
  simp [execOp, hop, hl, hc, hr, Result.andThen]
  exact hK' _ _ (hK _ (row_made w z n n e (Nat.le_refl _)) ((Below.refl _ _).alloc (Nat.le_refl _) _) (by simp))

end Go.Proofs.Qxb6606418a

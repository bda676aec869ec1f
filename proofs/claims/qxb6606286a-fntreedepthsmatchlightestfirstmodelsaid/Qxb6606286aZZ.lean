/- deflate.ZZTreeDepths (function 9): a fresh scratch, then treeDepths. -/
import Derived.Test.Qxb6606286aTree
namespace Go.Proofs.Qxb6606286a
open Go.RowKit
set_option linter.unusedVariables false

/-- The depth of leaf i, as the program reckons it. -/
def depOf (z : Nat → Int) (n i : Nat) : Nat := Huff.dep (Huff.run n (fun i => (z i / 65536).toNat) (n - 1)).par (2 * n - 2) i

def ZZEnd (z : Nat → Int) (n : Nat) (w w' : World) (e : Ending) : Prop :=
  ∃ g c, e = .returned (.slice (some ⟨g, 0, none⟩) n c) ∧ Row w' g n 29 (fun i => .int .u16 ((depOf z n i % 65536 : Nat) : Int)) ∧ Below w.heap.size w w' ∧ w.heap.size ≤ g

set_option maxHeartbeats 1000000 in
theorem zzTree (gl off n cap : Nat) (z : Nat → Int) (w : World) (hn0 : 0 < n) (hn : n ≤ 131072)
    (hz : ∀ i, i < n → 0 ≤ z i) (hT : Huff.rs (fun i => (z i / 65536).toNat) 0 n ≤ 4611686018427387904)
    (hc : ∀ i, i < n → w.cell? ⟨gl, off + i, none⟩ = some (.int .u64 (z i))) (hgl : gl < w.heap.size) :
    Calls Try.prog 9 #[.slice (some ⟨gl, off, none⟩) n cap] w fun e w' => ZZEnd z n w w' e := by
  go_enter Try.func9, Try.ntmps9
  go_wp2_with fail
  refine (treeDepths w.heap.size gl off n cap z _ hn0 hn (heap_alloc_new w _) hz hT (fun i hi => cell_later ((Below.refl _ _).alloc (Nat.le_refl _) _) (hc i hi)) hgl).mono ?_
  rintro e w1 ⟨c, rfl, hrow, hbel⟩
  have HR : Hid (ZZEnd z n w w1 (.returned (.slice (some ⟨w.heap.size + 1 + 4, 0, none⟩) n c))) := by
    refine ⟨_, c, rfl, ?_, ((Below.refl _ _).alloc (Nat.le_refl _) _).trans hbel, by omega⟩
    have h := hrow
    simp only [World.size_alloc] at h
    exact h
  have es : (w.alloc (Obj.cells #[Value.slice (some ⟨gl, off, none⟩) n cap, Value.slice none 0 0, Value.slice none 0 0, Value.slice none 0 0] 35)).heap.size = w.heap.size + 1 := by simp
  rw [es]
  clear hrow hbel es
  go_wp2
  go_ret
  exact HR.out
end Go.Proofs.Qxb6606286a

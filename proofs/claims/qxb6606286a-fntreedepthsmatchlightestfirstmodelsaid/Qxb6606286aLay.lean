/- HOW treeDepths LIES IN MEMORY: the scratch struct (block S), the boxes of the captured variables, the three rows. -/
import Derived.Test.Qxb6606286aPick
namespace Go.Proofs.Qxb6606286a
open Go.RowKit
set_option linter.unusedVariables false

structure Blk where
  S : Nat
  bs : Nat
  bn : Nat
  bl : Nat
  bj : Nat
  gw : Nat
  gp : Nat
  gd : Nat
  cw : Nat
  cp : Nat
  cd : Nat
  lv : Value

structure Mem (w : World) (B : Blk) (n m leaf joined : Nat) (wt par dp : Nat → Nat) : Prop where
  s : w.heap[B.bs]? = some (.cells #[.pointer (some ⟨B.S, 0, none⟩)] 32 (0, 0))
  n : w.heap[B.bn]? = some (.cells #[.int .i64 n] 3 (0, 0))
  l : w.heap[B.bl]? = some (.cells #[.int .i64 leaf] 3 (0, 0))
  j : w.heap[B.bj]? = some (.cells #[.int .i64 joined] 3 (0, 0))
  st : w.heap[B.S]? = some (.cells #[B.lv, .slice (some ⟨B.gw, 0, none⟩) m B.cw, .slice (some ⟨B.gp, 0, none⟩) m B.cp, .slice (some ⟨B.gd, 0, none⟩) m B.cd] 35 (0, 0))
  rw : Row w B.gw m 25 (fun i => .int .u64 (wt i))
  rp : Row w B.gp m 21 (fun i => .int .i32 (par i))
  rd : Row w B.gd m 29 (fun i => .int .u16 (dp i))
  d1 : B.bn ≠ B.bl
  d2 : B.bn ≠ B.bj
  d3 : B.bl ≠ B.bj
  o1 : B.S < B.bs
  o2 : B.S < B.bl
  o3 : B.S < B.bj
  o4 : B.S < B.gw
  o5 : B.S < B.gp
  o6 : B.S < B.gd

theorem ne_of_types {w : World} {a b : Nat} {x y : Array Value} {t u : TypeId} {f g : Nat × Nat} (ha : w.heap[a]? = some (.cells x t f)) (hb : w.heap[b]? = some (.cells y u g)) (h : t ≠ u) : a ≠ b := by
  intro e
  subst e
  rw [ha] at hb
  simp at hb
  exact h hb.2.1

theorem Put.below {w w' : World} {b : Nat} {v : Value} (h : Put w w' b v) {S : Nat} (hS : S ≤ b) : Below S w w' := by
  obtain ⟨q, rfl⟩ := h
  refine Below.setCell (p := ⟨b, 0, none⟩) ?_ hS v
  exact ⟨rfl, rfl, rfl, Nat.le_refl _, fun _ _ => rfl⟩
theorem Put.other {w w' : World} {b : Nat} {v : Value} (h : Put w w' b v) {k : Nat} (hk : k ≠ b) : w'.heap[k]? = w.heap[k]? := by
  obtain ⟨q, rfl⟩ := h
  exact heap_setCell_other (w.drewN q) ⟨b, 0, none⟩ k v hk
theorem Put.same {w w' : World} {b : Nat} {u v : Value} {t : TypeId} (h : Put w w' b v) (hb : w.heap[b]? = some (.cells #[u] t (0, 0))) : w'.heap[b]? = some (.cells #[v] t (0, 0)) := by
  obtain ⟨q, rfl⟩ := h
  exact one_setCell (w := w.drewN q) hb

theorem Row.ne_one {w : World} {g n b : Nat} {e t : TypeId} {f : Nat → Value} {u : Array Value} (h : Row w g n e f) (hb : w.heap[b]? = some (.cells u t (0, 0))) (ht : e ≠ t) : g ≠ b := by
  obtain ⟨cur, hg, _⟩ := h
  exact ne_of_types hg hb ht

theorem Mem.put_l {w w' : World} {B : Blk} {n m leaf joined : Nat} {wt par dp : Nat → Nat} (h : Mem w B n m leaf joined wt par dp) (hp : Put w w' B.bl (.int .i64 ((leaf : Int) + 1))) : Mem w' B n m (leaf + 1) joined wt par dp := by
  have e := hp.same h.l
  refine ⟨?_, ?_, ?_, ?_, ?_, ?_, ?_, ?_, h.d1, h.d2, h.d3, h.o1, h.o2, h.o3, h.o4, h.o5, h.o6⟩
  · rw [hp.other (ne_of_types h.s h.l (by decide))]; exact h.s
  · rw [hp.other h.d1]; exact h.n
  · rw [e]; simp
  · rw [hp.other (fun e => h.d3 e.symm)]; exact h.j
  · rw [hp.other (ne_of_types h.st h.l (by decide))]; exact h.st
  · exact h.rw.of_heap (hp.other (h.rw.ne_one h.l (by decide)))
  · exact h.rp.of_heap (hp.other (h.rp.ne_one h.l (by decide)))
  · exact h.rd.of_heap (hp.other (h.rd.ne_one h.l (by decide)))

theorem Mem.put_j {w w' : World} {B : Blk} {n m leaf joined : Nat} {wt par dp : Nat → Nat} (h : Mem w B n m leaf joined wt par dp) (hp : Put w w' B.bj (.int .i64 ((joined : Int) + 1))) : Mem w' B n m leaf (joined + 1) wt par dp := by
  have e := hp.same h.j
  refine ⟨?_, ?_, ?_, ?_, ?_, ?_, ?_, ?_, h.d1, h.d2, h.d3, h.o1, h.o2, h.o3, h.o4, h.o5, h.o6⟩
  · rw [hp.other (ne_of_types h.s h.j (by decide))]; exact h.s
  · rw [hp.other h.d2]; exact h.n
  · rw [hp.other h.d3]; exact h.l
  · rw [e]; simp
  · rw [hp.other (ne_of_types h.st h.j (by decide))]; exact h.st
  · exact h.rw.of_heap (hp.other (h.rw.ne_one h.j (by decide)))
  · exact h.rp.of_heap (hp.other (h.rp.ne_one h.j (by decide)))
  · exact h.rd.of_heap (hp.other (h.rd.ne_one h.j (by decide)))

theorem cell_of_st {w : World} {S : Nat} {v0 v1 v2 v3 : Value} {t : TypeId} (h : w.heap[S]? = some (.cells #[v0, v1, v2, v3] t (0, 0))) :
    w.cell? ⟨S, 0, none⟩ = some v0 ∧ w.cell? ⟨S, 1, none⟩ = some v1 ∧ w.cell? ⟨S, 2, none⟩ = some v2 ∧ w.cell? ⟨S, 3, none⟩ = some v3 := by
  refine ⟨?_, ?_, ?_, ?_⟩ <;> (rw [cell_of_row w S _ _ t (0, 0) h]; rfl)

/-- The closure, whatever way it goes. -/
theorem pick_any (made n m leaf joined : Nat) (wt par dp : Nat → Nat) (B : Blk) (w : World) (h : Mem w B n m leaf joined wt par dp)
    (h1 : leaf ≤ n) (h2 : n ≤ joined) (h3 : joined ≤ made) (h4 : leaf < n ∨ joined < made) (h5 : made ≤ m) (h6 : m ≤ 1048576) :
    Calls Try.prog 18 #[.int .i64 made, .pointer (some ⟨B.bl, 0, none⟩), .pointer (some ⟨B.bn, 0, none⟩), .pointer (some ⟨B.bj, 0, none⟩), .pointer (some ⟨B.bs, 0, none⟩)] w
      fun e w' => e = .returned (.int .i64 (Huff.pX n made leaf joined wt)) ∧ Mem w' B n m (Huff.pL n made leaf joined wt) (Huff.pJ n made leaf joined wt) wt par dp ∧ Below B.S w w' := by
  have cl := cell_of_one h.l
  have cn := cell_of_one h.n
  have cj := cell_of_one h.j
  have cs := cell_of_one h.s
  have fl := free_of_one h.l
  have fj := free_of_one h.j
  have cst := (cell_of_st h.st).2.1
  by_cases hl : leaf < n
  · by_cases hj : joined = made
    · subst hj
      have hp : Huff.pk n joined leaf joined wt = true := by simp [Huff.pk, hl]
      refine (pick_A joined leaf n B.bl B.bn B.bj B.bs w cl fl cn cj hl (by omega)).mono fun e w' ⟨he, hw⟩ => ?_
      simp only [Huff.pX, Huff.pL, Huff.pJ, hp, if_true]
      exact ⟨he, h.put_l hw, hw.below (Nat.le_of_lt h.o2)⟩
    · have cx := h.rw.cell leaf (by omega)
      have cy := h.rw.cell joined (by omega)
      by_cases hxy : wt leaf ≤ wt joined
      · have hp : Huff.pk n made leaf joined wt = true := by simp [Huff.pk, hl, hxy]
        refine (pick_B made leaf n joined B.bl B.bn B.bj B.bs B.S B.gw B.cw m _ _ w cl fl cn cj cs cst cx cy hl (by omega) (by omega) (by omega) (by omega) h6 (by omega)).mono fun e w' ⟨he, hw⟩ => ?_
        simp only [Huff.pX, Huff.pL, Huff.pJ, hp, if_true]
        exact ⟨he, h.put_l hw, hw.below (Nat.le_of_lt h.o2)⟩
      · have hp : ¬ Huff.pk n made leaf joined wt = true := by simp [Huff.pk, hl, hxy, hj]
        refine (pick_C made leaf n joined B.bl B.bn B.bj B.bs B.S B.gw B.cw m _ _ w cl cn cj fj cs cst cx cy hl (by omega) (by omega) (by omega) (by omega) h6 (by omega)).mono fun e w' ⟨he, hw⟩ => ?_
        simp only [Huff.pX, Huff.pL, Huff.pJ, hp]
        exact ⟨he, h.put_j hw, hw.below (Nat.le_of_lt h.o3)⟩
  · have hp : ¬ Huff.pk n made leaf joined wt = true := by simp [Huff.pk, hl]
    refine (pick_D made leaf n joined B.bl B.bn B.bj B.bs w cl cn cj fj (by omega) (by omega)).mono fun e w' ⟨he, hw⟩ => ?_
    simp only [Huff.pX, Huff.pL, Huff.pJ, hp]
    exact ⟨he, h.put_j hw, hw.below (Nat.le_of_lt h.o3)⟩

theorem Row.ne_row {w : World} {g n g' n' : Nat} {e e' : TypeId} {f f' : Nat → Value} (h : Row w g n e f) (h' : Row w g' n' e' f') (he : e ≠ e') : g ≠ g' := h.ne_type h' he

theorem cells_upd {f : Nat → Nat} {j v : Nat} {k : IntKind} {u : Value} (hu : u = .int k (v : Int)) : upd (fun i => Value.int k (f i : Int)) j u = fun i => Value.int k ((upd f j v i : Nat) : Int) := by
  funext i
  by_cases h : i = j <;> simp [upd, h, hu]

theorem Mem.set_w {w : World} {B : Blk} {n m leaf joined : Nat} {wt par dp : Nat → Nat} (h : Mem w B n m leaf joined wt par dp) (j v : Nat) (u : Value) (hu : u = .int .u64 (v : Int)) : Mem (w.setCell ⟨B.gw, j, none⟩ u) B n m leaf joined (upd wt j v) par dp := by
  have o : ∀ k, k ≠ B.gw → (w.setCell ⟨B.gw, j, none⟩ u).heap[k]? = w.heap[k]? := fun k hk => heap_setCell_other w ⟨B.gw, j, none⟩ k u hk
  refine ⟨?_, ?_, ?_, ?_, ?_, ?_, ?_, ?_, h.d1, h.d2, h.d3, h.o1, h.o2, h.o3, h.o4, h.o5, h.o6⟩
  · rw [o _ (h.rw.ne_one h.s (by decide)).symm]; exact h.s
  · rw [o _ (h.rw.ne_one h.n (by decide)).symm]; exact h.n
  · rw [o _ (h.rw.ne_one h.l (by decide)).symm]; exact h.l
  · rw [o _ (h.rw.ne_one h.j (by decide)).symm]; exact h.j
  · rw [o _ (h.rw.ne_one h.st (by decide)).symm]; exact h.st
  · rw [← cells_upd hu]; exact h.rw.set j u
  · exact h.rp.of_heap (o _ (h.rp.ne_row h.rw (by decide)))
  · exact h.rd.of_heap (o _ (h.rd.ne_row h.rw (by decide)))

theorem Mem.set_p {w : World} {B : Blk} {n m leaf joined : Nat} {wt par dp : Nat → Nat} (h : Mem w B n m leaf joined wt par dp) (j v : Nat) (u : Value) (hu : u = .int .i32 (v : Int)) : Mem (w.setCell ⟨B.gp, j, none⟩ u) B n m leaf joined wt (upd par j v) dp := by
  have o : ∀ k, k ≠ B.gp → (w.setCell ⟨B.gp, j, none⟩ u).heap[k]? = w.heap[k]? := fun k hk => heap_setCell_other w ⟨B.gp, j, none⟩ k u hk
  refine ⟨?_, ?_, ?_, ?_, ?_, ?_, ?_, ?_, h.d1, h.d2, h.d3, h.o1, h.o2, h.o3, h.o4, h.o5, h.o6⟩
  · rw [o _ (h.rp.ne_one h.s (by decide)).symm]; exact h.s
  · rw [o _ (h.rp.ne_one h.n (by decide)).symm]; exact h.n
  · rw [o _ (h.rp.ne_one h.l (by decide)).symm]; exact h.l
  · rw [o _ (h.rp.ne_one h.j (by decide)).symm]; exact h.j
  · rw [o _ (h.rp.ne_one h.st (by decide)).symm]; exact h.st
  · exact h.rw.of_heap (o _ (h.rw.ne_row h.rp (by decide)))
  · rw [← cells_upd hu]; exact h.rp.set j u
  · exact h.rd.of_heap (o _ (h.rd.ne_row h.rp (by decide)))

theorem Mem.set_d {w : World} {B : Blk} {n m leaf joined : Nat} {wt par dp : Nat → Nat} (h : Mem w B n m leaf joined wt par dp) (j v : Nat) (u : Value) (hu : u = .int .u16 (v : Int)) : Mem (w.setCell ⟨B.gd, j, none⟩ u) B n m leaf joined wt par (upd dp j v) := by
  have o : ∀ k, k ≠ B.gd → (w.setCell ⟨B.gd, j, none⟩ u).heap[k]? = w.heap[k]? := fun k hk => heap_setCell_other w ⟨B.gd, j, none⟩ k u hk
  refine ⟨?_, ?_, ?_, ?_, ?_, ?_, ?_, ?_, h.d1, h.d2, h.d3, h.o1, h.o2, h.o3, h.o4, h.o5, h.o6⟩
  · rw [o _ (h.rd.ne_one h.s (by decide)).symm]; exact h.s
  · rw [o _ (h.rd.ne_one h.n (by decide)).symm]; exact h.n
  · rw [o _ (h.rd.ne_one h.l (by decide)).symm]; exact h.l
  · rw [o _ (h.rd.ne_one h.j (by decide)).symm]; exact h.j
  · rw [o _ (h.rd.ne_one h.st (by decide)).symm]; exact h.st
  · exact h.rw.of_heap (o _ (h.rw.ne_row h.rd (by decide)))
  · exact h.rp.of_heap (o _ (h.rp.ne_row h.rd (by decide)))
  · rw [← cells_upd hu]; exact h.rd.set j u

theorem Mem.heap {w w' : World} {B : Blk} {n m leaf joined : Nat} {wt par dp : Nat → Nat} (h : Mem w B n m leaf joined wt par dp) (e : w'.heap = w.heap) : Mem w' B n m leaf joined wt par dp :=
  ⟨by rw [e]; exact h.s, by rw [e]; exact h.n, by rw [e]; exact h.l, by rw [e]; exact h.j, by rw [e]; exact h.st, h.rw.of_heap (by rw [e]), h.rp.of_heap (by rw [e]), h.rd.of_heap (by rw [e]), h.d1, h.d2, h.d3, h.o1, h.o2, h.o3, h.o4, h.o5, h.o6⟩

end Go.Proofs.Qxb6606286a

import Derived.Test.Qxb6606286aLay
import Derived.Test.Qxb6606286aGrow
import Derived.WalkKit
import Derived.BigQuiet
import Derived.Deep.QuietTactic
import Derived.Deep.RegionWith
import Derived.Deep.RegionHeld3
import Derived.Deep.DrawnRows
import Derived.Deep.DeepCutAuto
import Derived.Deep.Light
import Derived.WalkSpells
namespace Go.Proofs.Qxb6606286a
open Go.RowKit
set_option linter.unusedVariables false
attribute [local go_sem ↓] Go.wp_at_zero Go.wp_at_succ

/-- Ahead of the first loop: what stands in the struct, and the boxes of s and n. -/
structure P1 (w0 w : World) (S H n sz : Nat) (v0 v1 v2 v3 : Value) : Prop where
  s : w.heap[H]? = some (.cells #[.pointer (some ⟨S, 0, none⟩)] 32 (0, 0))
  nb : w.heap[H + 1]? = some (.cells #[.int .i64 n] 3 (0, 0))
  st : w.heap[S]? = some (.cells #[v0, v1, v2, v3] 35 (0, 0))
  bel : Below S w0 w
  size : w.heap.size = sz
  o1 : S < H
  o2 : H + 1 < sz

theorem P1.cs {w0 w : World} {S H n sz : Nat} {v0 v1 v2 v3 : Value} (h : P1 w0 w S H n sz v0 v1 v2 v3) : w.cell? ⟨H, 0, none⟩ = some (.pointer (some ⟨S, 0, none⟩)) := cell_of_one h.s
theorem P1.cn {w0 w : World} {S H n sz : Nat} {v0 v1 v2 v3 : Value} (h : P1 w0 w S H n sz v0 v1 v2 v3) : w.cell? ⟨H + 1, 0, none⟩ = some (.int .i64 n) := cell_of_one h.nb
theorem P1.fS {w0 w : World} {S H n sz : Nat} {v0 v1 v2 v3 : Value} (h : P1 w0 w S H n sz v0 v1 v2 v3) (i : Nat) : w.frozen? ⟨S, i, none⟩ = false := frozen_of_row _ _ _ _ _ h.st

/-- A new block is laid behind a world of P1. -/
theorem P1.grew {w0 w w3 : World} {S H n sz : Nat} {v0 v1 v2 v3 : Value} (h : P1 w0 w S H n sz v0 v1 v2 v3) (hb : Below w.heap.size w w3) (hs : w3.heap.size = w.heap.size + 1) : P1 w0 w3 S H n (sz + 1) v0 v1 v2 v3 := by
  have e := h.size
  have o1 := h.o1
  have o2 := h.o2
  exact ⟨by rw [hb.block H (by omega)]; exact h.s, by rw [hb.block (H + 1) (by omega)]; exact h.nb, by rw [hb.block S (by omega)]; exact h.st, h.bel.trans (hb.mono (by omega)), by omega, h.o1, by omega⟩

theorem Below.undrew {B : Nat} {w w' : World} (h : Below B w.drew w') : Below B w w' := ⟨h.os, h.tape, h.output, h.size, h.block⟩

theorem set_st {w : World} {S : Nat} {v0 v1 v2 v3 : Value} {t : TypeId} (h : w.heap[S]? = some (.cells #[v0, v1, v2, v3] t (0, 0))) (v : Value) :
    (w.setCell ⟨S, 1, none⟩ v).heap[S]? = some (.cells #[v0, v, v2, v3] t (0, 0)) ∧ (w.setCell ⟨S, 2, none⟩ v).heap[S]? = some (.cells #[v0, v1, v, v3] t (0, 0)) ∧ (w.setCell ⟨S, 3, none⟩ v).heap[S]? = some (.cells #[v0, v1, v2, v] t (0, 0)) := by
  refine ⟨?_, ?_, ?_⟩ <;> (rw [heap_setCell_same w S _ _ t v h]; rfl)

theorem P1.other {w0 w : World} {S H n sz : Nat} {v0 v1 v2 v3 : Value} (h : P1 w0 w S H n sz v0 v1 v2 v3) (i : Nat) (v u1 u2 u3 : Value) (hs : (w.setCell ⟨S, i, none⟩ v).heap[S]? = some (.cells #[v0, u1, u2, u3] 35 (0, 0))) :
    P1 w0 (w.setCell ⟨S, i, none⟩ v) S H n sz v0 u1 u2 u3 := by
  have o1 := h.o1
  exact ⟨by rw [heap_setCell_other w ⟨S, i, none⟩ H v (by simp; omega)]; exact h.s, by rw [heap_setCell_other w ⟨S, i, none⟩ (H + 1) v (by simp; omega)]; exact h.nb, hs,
    h.bel.setCell (p := ⟨S, i, none⟩) (Nat.le_refl _) v, by simpa using h.size, h.o1, h.o2⟩

/-- A row above S stays while the struct is written. -/
theorem Row.beside {w : World} {g n S i : Nat} {e : TypeId} {f : Nat → Value} (h : Row w g n e f) (v : Value) (hg : S < g) : Row (w.setCell ⟨S, i, none⟩ v) g n e f := h.setOther ⟨S, i, none⟩ v (by simp; omega)

theorem P1.row {w0 w : World} {S H n sz : Nat} {v0 v1 v2 v3 : Value} (h : P1 w0 w S H n sz v0 v1 v2 v3) (a : Addr) (v : Value) (hg : H + 2 ≤ a.block) : P1 w0 (w.setCell a v) S H n sz v0 v1 v2 v3 := by
  have o1 := h.o1
  exact ⟨by rw [heap_setCell_other w a H v (by omega)]; exact h.s, by rw [heap_setCell_other w a (H + 1) v (by omega)]; exact h.nb, by rw [heap_setCell_other w a S v (by omega)]; exact h.st,
    h.bel.setCell (by omega) v, by simpa using h.size, h.o1, h.o2⟩

/-- The weights' row while it is being filled. -/
def filling (z : Nat → Int) (k : Nat) (i : Nat) : Nat := if i < k then (z i / 65536).toNat else 0
theorem filling_upd (z : Nat → Int) (k : Nat) : upd (filling z k) k (z k / 65536).toNat = filling z (k + 1) := by
  funext i
  unfold upd filling
  by_cases e : i = k
  · subst e; simp
  · have : (i < k + 1) = (i < k) := by simp; omega
    simp [e, this]
theorem toNat_val {z : Int} (h : 0 ≤ z) : Value.int .u64 (z / 65536) = .int .u64 (((z / 65536).toNat : Nat) : Int) := by
  rw [Int.toNat_of_nonneg (by omega)]

/-- Two boxes of one cell laid behind a world. -/
theorem two_boxes (w : World) (x y : Value) (t : TypeId) : ((w.alloc (.cells #[x] t)).alloc (.cells #[y] t)).drew.heap[w.heap.size]? = some (.cells #[x] t (0, 0)) ∧
    ((w.alloc (.cells #[x] t)).alloc (.cells #[y] t)).drew.heap[w.heap.size + 1]? = some (.cells #[y] t (0, 0)) ∧ Below w.heap.size w ((w.alloc (.cells #[x] t)).alloc (.cells #[y] t)).drew := by
  refine ⟨?_, ?_, ((((Below.refl _ _).alloc (Nat.le_refl _) _).alloc (by simp) _)).drew⟩
  · show ((w.alloc (.cells #[x] t)).alloc (.cells #[y] t)).heap[w.heap.size]? = _
    rw [Below.heap_alloc _ _ _ (by simp)]; exact heap_alloc_new w _
  · have := heap_alloc_new (w.alloc (.cells #[x] t)) (.cells #[y] t)
    show ((w.alloc (.cells #[x] t)).alloc (.cells #[y] t)).heap[w.heap.size + 1]? = _
    simpa using this

theorem mem_start {w0 w W : World} {S H n m bl bj G3 G4 G5 : Nat} {v0 : Value} {f : Nat → Nat} (p : P1 w0 w S H n (H + 5) v0 (.slice (some ⟨H + 2, 0, none⟩) m G3) (.slice (some ⟨H + 3, 0, none⟩) m G4) (.slice (some ⟨H + 4, 0, none⟩) m G5))
    (r3 : Row w (H + 2) m 25 (fun i => .int .u64 (f i))) (r4 : Row w (H + 3) m 21 (fun _ => .int .i32 0)) (r5 : Row w (H + 4) m 29 (fun _ => .int .u16 0))
    (hl : W.heap[bl]? = some (.cells #[.int .i64 0] 3 (0, 0))) (hj : W.heap[bj]? = some (.cells #[.int .i64 n] 3 (0, 0))) (hb : Below w.heap.size w W) (e1 : H + 5 ≤ bl) (e2 : H + 5 ≤ bj) (e3 : bl ≠ bj) :
    Mem W ⟨S, H, H + 1, bl, bj, H + 2, H + 3, H + 4, G3, G4, G5, v0⟩ n m 0 n f (fun _ => 0) (fun _ => 0) ∧ Below S w0 W := by
  have e := p.size
  have o1 := p.o1
  refine ⟨⟨?_, ?_, ?_, hj, ?_, r3.below hb (by omega), r4.below hb (by omega), r5.below hb (by omega), ?_, ?_, e3, o1, ?_, ?_, ?_, ?_, ?_⟩, p.bel.trans (hb.mono (by omega))⟩
  · rw [hb.block H (by omega)]; exact p.s
  · rw [hb.block (H + 1) (by omega)]; exact p.nb
  · exact hl
  · rw [hb.block S (by omega)]; exact p.st
  all_goals (simp; try omega)

/-- What a round of the second loop picks, in letters. -/
structure Rd (n md T : Nat) (sx : Huff.St) (a b L1 J1 : Nat) : Prop where
  ea : Huff.aOf n md sx = a
  eb : Huff.bOf n md sx = b
  eL : Huff.l1 n md sx = L1
  eJ : Huff.j1 n md sx = J1
  ab : a ≠ b
  am : a < md
  bm : b < md
  l1 : L1 ≤ n
  j1 : n ≤ J1
  j2 : J1 ≤ md
  lj : L1 < n ∨ J1 < md
  sum : sx.wt a + sx.wt b ≤ T

theorem rd_of {n md T : Nat} {W0 : Nat → Nat} {sx : Huff.St} (h : Huff.Inv n (md - n) T W0 sx) (h1 : n ≤ md) (h2 : md + 1 < 2 * n) : ∃ a b L1 J1, Rd n md T sx a b L1 J1 := by
  have e : n + (md - n) = md := by omega
  obtain ⟨p, q⟩ := Huff.two_picks h (by omega)
  have hab := Huff.a_ne_b h (by omega)
  have hs := Huff.sum_ab h (by omega)
  rw [e] at p q hab hs
  refine ⟨_, _, _, _, rfl, rfl, rfl, rfl, hab, p.a8, q.a8, p.a1, p.a2, p.a3, ?_, hs⟩
  have := p.a4; have := h.h4
  omega

theorem run_next {n md : Nat} {W0 : Nat → Nat} {sx : Huff.St} (hr : Huff.run n W0 (md - n) = sx) (h1 : n ≤ md) : Huff.run n W0 (md + 1 - n) = Huff.step n md sx := by
  rw [show md + 1 - n = (md - n) + 1 by omega]
  simp only [Huff.run]
  rw [hr, show n + (md - n) = md by omega]

theorem wrap_small {x : Int} (h0 : 0 ≤ x) (h1 : x ≤ 4611686018427387904) : IntKind.u64.wrap x = x := by
  rw [IntKind.wrap_u64]
  omega

theorem wrap_small32 {x : Int} (h0 : 0 ≤ x) (h1 : x ≤ 1048576) : IntKind.i32.wrap x = x := by
  rw [IntKind.wrap_i32]
  omega
theorem addr_ne {b o o' : Nat} (h : ¬ o = o') : (⟨b, o, none⟩ : Addr) ≠ ⟨b, o', none⟩ := by
  intro e
  exact h (congrArg Addr.off e)

theorem step_eq {n md T : Nat} {sx : Huff.St} {a b L1 J1 : Nat} (rd : Rd n md T sx a b L1 J1) : Huff.step n md sx = ⟨Huff.l2 n md sx, Huff.j2 n md sx, upd sx.wt md (sx.wt a + sx.wt b), upd (upd sx.par a md) b md⟩ := by
  unfold Huff.step; rw [rd.ea, rd.eb]

/-- The depths' row while it is being filled from its end. -/
def deeping (par : Nat → Nat) (root j : Nat) (i : Nat) : Nat := if j ≤ i then Huff.dep par root i % 65536 else 0
theorem deeping_start (par : Nat → Nat) (root : Nat) : upd (fun _ => 0) root 0 = deeping par root root := by
  funext i
  unfold upd deeping
  by_cases e : i = root
  · subst e; simp [Huff.dep_root]
  · by_cases h : root ≤ i
    · simp [e, h, Huff.dep_root]
    · simp [e, h]
theorem deeping_upd {par : Nat → Nat} {root j : Nat} (hp : ∀ i, i < root → i < par i) (hj : j < root) : upd (deeping par root (j + 1)) j ((Huff.dep par root (par j) % 65536 + 1) % 65536) = deeping par root j := by
  funext i
  unfold upd deeping
  by_cases e : i = j
  · subst e
    rw [Huff.dep_up hp hj]
    simp
  · have : (j + 1 ≤ i) = (j ≤ i) := by simp; omega
    simp [e, this]
theorem wrap_u16 {x : Nat} (h : x < 65536) : IntKind.u16.wrap ((x : Int) + 1) = (((x + 1) % 65536 : Nat) : Int) := by
  rw [IntKind.wrap_u16]
  omega

/-- How treeDepths ends: the depths of the leaves, in a row of its own making. -/
def TreeEnd (z : Nat → Int) (n S : Nat) (w w' : World) (e : Ending) : Prop :=
  ∃ c, e = .returned (.slice (some ⟨w.heap.size + 4, 0, none⟩) n c) ∧
    Row w' (w.heap.size + 4) n 29 (fun i => .int .u16 ((Huff.dep (Huff.run n (fun i => (z i / 65536).toNat) (n - 1)).par (2 * n - 2) i % 65536 : Nat) : Int)) ∧ Below S w w'

theorem run_wt0 (z : Nat → Int) (n : Nat) : (Huff.run n (fun i => (z i / 65536).toNat) 0).wt = filling z n := rfl

set_option maxHeartbeats 2000000 in
set_option maxRecDepth 1000000 in
theorem treeDepths (S gl off n cap : Nat) (z : Nat → Int) (w : World) (hn0 : 0 < n) (hn : n ≤ 131072)
    (hS : w.heap[S]? = some (.cells #[.slice (some ⟨gl, off, none⟩) n cap, .slice none 0 0, .slice none 0 0, .slice none 0 0] 35 (0, 0)))
    (hz : ∀ i, i < n → 0 ≤ z i) (hT : Huff.rs (fun i => (z i / 65536).toNat) 0 n ≤ 4611686018427387904) (hc : ∀ i, i < n → w.cell? ⟨gl, off + i, none⟩ = some (.int .u64 (z i))) (hgl : gl < S) :
    Calls Try.prog 13 #[.pointer (some ⟨S, 0, none⟩)] w fun e w' => TreeEnd z n S w w' e := by
  have hSl : S < w.heap.size := lt_of_block hS
  obtain ⟨c0, c1, c2, c3⟩ := cell_of_st hS
  go_enter Try.func13, Try.ntmps13
  go_wp2_with fail
  have hM : (2 * (n : Int) - 1) = ((2 * n - 1 : Nat) : Int) := by omega
  rw [hM]
  clear hM
  obtain ⟨m, hm⟩ : ∃ m, 2 * n - 1 = m := ⟨_, rfl⟩
  have hm1 : m + 1 ≤ 2 * n := by omega
  have hm2 : 2 * n ≤ m + 1 := by omega
  rw [hm]
  clear hm
  generalize hw2 : (w.alloc (Obj.cells #[Value.pointer (some ⟨S, 0, none⟩)] 32)).alloc (Obj.cells #[Value.int IntKind.i64 (n : Int)] 3) = w2
  have p2 : P1 w w2 S w.heap.size n (w.heap.size + 2) (.slice (some ⟨gl, off, none⟩) n cap) (.slice none 0 0) (.slice none 0 0) (.slice none 0 0) := by
    rw [← hw2]
    refine ⟨?_, ?_, ?_, ?_, by simp, hSl, by omega⟩
    · rw [Below.heap_alloc _ _ _ (by simp)]; exact heap_alloc_new w _
    · have := heap_alloc_new (w.alloc (Obj.cells #[Value.pointer (some ⟨S, 0, none⟩)] 32)) (Obj.cells #[Value.int IntKind.i64 (n : Int)] 3); simpa using this
    · rw [Below.heap_alloc _ _ _ (by simp; omega), Below.heap_alloc _ _ _ hSl]; exact hS
    · exact ((Below.refl _ _).alloc (by omega) _).alloc (by simp; omega) _
  clear hw2 c0 c1 c2 c3
  generalize hH : w.heap.size = H at *
  have HH : Hid (w.heap.size = H) := hH
  clear hH
  go_cut [] (fun wx => ∃ G3, m ≤ G3 ∧ P1 w wx S H n (H + 3) (.slice (some ⟨gl, off, none⟩) n cap) (.slice (some ⟨H + 2, 0, none⟩) m G3) (.slice none 0 0) (.slice none 0 0) ∧ Row wx (H + 2) m 25 (fun _ => .int .u64 0))
  case first =>
    have cs := p2.cs
    have c1 := (cell_of_st p2.st).2.1
    have f1 := p2.fS 1
    have HP : Hid (P1 w w2 S H n (H + 2) (.slice (some ⟨gl, off, none⟩) n cap) (.slice none 0 0) (.slice none 0 0) (.slice none 0 0)) := p2
    clear p2
    go_region_with ((go_at_call 15; refine (grow15 m _ (by omega) (by omega)).mono ?_; rintro e w9 ⟨⟨G, hG1, hG2, rfl⟩, hrow, hbel, hsz⟩; have p9 := HP.out.grew (w3 := w9) (Below.undrew hbel) hsz; have hr9 : Hid (Row w9 w2.heap.size m 25 (fun _ => .int .u64 0)) := hrow; have HB : Hid (Below w2.heap.size w2 w9) := Below.undrew hbel; have HP9 : Hid (P1 w w9 S H n ((H + 2) + 1) (.slice (some ⟨gl, off, none⟩) n cap) (.slice none 0 0) (.slice none 0 0) (.slice none 0 0)) := p9; have hGa : (m : Int) ≤ (G : Int) := (by omega); have hGb : (0 : Int) ≤ (m : Int) := (by omega); have c3 := (cell_of_st p9.st).2.1; have cs3 := p9.cs; have f3 := p9.fS 1; clear p9 hrow hbel hsz))
    all_goals
      go_wp2_with fail
      go_meet
      have e2 := HP.out.size
      have q3 := HP9.out
      have r9 := hr9.out
      have o1 := HP.out.o1
      refine ⟨G, hG1, ?_, ?_⟩
      · rw [e2]; exact q3.other 1 _ _ _ _ (set_st q3.st _).1
      · rw [e2] at r9 ⊢; exact r9.beside _ (by omega)
  case rest =>
    obtain ⟨G3, hG3, p3, r3⟩ := hcut
    clear p2 w2
    go_wp2_with fail
    go_cut [] (fun wx => ∃ G4, m ≤ G4 ∧ P1 w wx S H n (H + 4) (.slice (some ⟨gl, off, none⟩) n cap) (.slice (some ⟨H + 2, 0, none⟩) m G3) (.slice (some ⟨H + 3, 0, none⟩) m G4) (.slice none 0 0) ∧ Row wx (H + 2) m 25 (fun _ => .int .u64 0) ∧ Row wx (H + 3) m 21 (fun _ => .int .i32 0))
    case first =>
      have cs := p3.cs
      have c1 := (cell_of_st p3.st).2.2.1
      have f1 := p3.fS 2
      have HP : Hid (P1 w wc S H n (H + 3) (.slice (some ⟨gl, off, none⟩) n cap) (.slice (some ⟨H + 2, 0, none⟩) m G3) (.slice none 0 0) (.slice none 0 0)) := p3
      have HR2 : Hid (Row wc (H + 2) m 25 (fun _ => .int .u64 0)) := r3
      clear r3
      clear p3
      go_region_with ((go_at_call 16; refine (grow16 m _ (by omega) (by omega)).mono ?_; rintro e w9 ⟨⟨G, hG1, hG2, rfl⟩, hrow, hbel, hsz⟩; have p9 := HP.out.grew (w3 := w9) (Below.undrew hbel) hsz; have hr9 : Hid (Row w9 wc.heap.size m 21 (fun _ => .int .i32 0)) := hrow; have HB : Hid (Below wc.heap.size wc w9) := Below.undrew hbel; have HP9 : Hid (P1 w w9 S H n ((H + 3) + 1) (.slice (some ⟨gl, off, none⟩) n cap) (.slice (some ⟨H + 2, 0, none⟩) m G3) (.slice none 0 0) (.slice none 0 0)) := p9; have hGa : (m : Int) ≤ (G : Int) := (by omega); have hGb : (0 : Int) ≤ (m : Int) := (by omega); have c3 := (cell_of_st p9.st).2.2.1; have cs3 := p9.cs; have f3 := p9.fS 2; clear p9 hrow hbel hsz))
      all_goals
        go_wp2_with fail
        go_meet
        have e2 := HP.out.size
        have q3 := HP9.out
        have r9 := hr9.out
        have o1 := HP.out.o1
        refine ⟨G, hG1, ?_, ?_, ?_⟩
        · rw [e2]; exact q3.other 2 _ _ _ _ (set_st q3.st _).2.1
        · exact (HR2.out.below HB.out (by omega)).beside _ (by omega)
        · rw [e2] at r9 ⊢; exact r9.beside _ (by omega)
    case rest =>
      clear p3 r3
      obtain ⟨G4, hG4, p4, r3, r4⟩ := hcut
      go_wp2_with fail
      go_cut [] (fun wx => ∃ G5, m ≤ G5 ∧ P1 w wx S H n (H + 5) (.slice (some ⟨gl, off, none⟩) n cap) (.slice (some ⟨H + 2, 0, none⟩) m G3) (.slice (some ⟨H + 3, 0, none⟩) m G4) (.slice (some ⟨H + 4, 0, none⟩) m G5) ∧ Row wx (H + 2) m 25 (fun _ => .int .u64 0) ∧ Row wx (H + 3) m 21 (fun _ => .int .i32 0) ∧ Row wx (H + 4) m 29 (fun _ => .int .u16 0))
      case first =>
        have cs := p4.cs
        have c1 := (cell_of_st p4.st).2.2.2
        have f1 := p4.fS 3
        have HP : Hid (P1 w wc S H n (H + 4) (.slice (some ⟨gl, off, none⟩) n cap) (.slice (some ⟨H + 2, 0, none⟩) m G3) (.slice (some ⟨H + 3, 0, none⟩) m G4) (.slice none 0 0)) := p4
        have HR2 : Hid (Row wc (H + 2) m 25 (fun _ => .int .u64 0)) := r3
        clear r3
        have HR3 : Hid (Row wc (H + 3) m 21 (fun _ => .int .i32 0)) := r4
        clear r4
        clear p4
        go_region_with ((go_at_call 17; refine (grow17 m _ (by omega) (by omega)).mono ?_; rintro e w9 ⟨⟨G, hG1, hG2, rfl⟩, hrow, hbel, hsz⟩; have p9 := HP.out.grew (w3 := w9) (Below.undrew hbel) hsz; have hr9 : Hid (Row w9 wc.heap.size m 29 (fun _ => .int .u16 0)) := hrow; have HB : Hid (Below wc.heap.size wc w9) := Below.undrew hbel; have HP9 : Hid (P1 w w9 S H n ((H + 4) + 1) (.slice (some ⟨gl, off, none⟩) n cap) (.slice (some ⟨H + 2, 0, none⟩) m G3) (.slice (some ⟨H + 3, 0, none⟩) m G4) (.slice none 0 0)) := p9; have hGa : (m : Int) ≤ (G : Int) := (by omega); have hGb : (0 : Int) ≤ (m : Int) := (by omega); have c3 := (cell_of_st p9.st).2.2.2; have cs3 := p9.cs; have f3 := p9.fS 3; clear p9 hrow hbel hsz))
        all_goals
          go_wp2_with fail
          go_meet
          have e2 := HP.out.size
          have q3 := HP9.out
          have r9 := hr9.out
          have o1 := HP.out.o1
          refine ⟨G, hG1, ?_, ?_, ?_, ?_⟩
          · rw [e2]; exact q3.other 3 _ _ _ _ (set_st q3.st _).2.2
          · exact (HR2.out.below HB.out (by omega)).beside _ (by omega)
          · exact (HR3.out.below HB.out (by omega)).beside _ (by omega)
          · rw [e2] at r9 ⊢; exact r9.beside _ (by omega)
      case rest =>
        clear p4 r3 r4
        obtain ⟨G5, hG5, p5, r3, r4, r5⟩ := hcut
        have cs := p5.cs
        have c0 := (cell_of_st p5.st).1
        go_wp2_with fail
        clear cs c0
        go_loopw [63] (fun i wr => ∃ k : Nat, k ≤ n ∧ i = .int .i64 k ∧ P1 w wr S H n (H + 5) (.slice (some ⟨gl, off, none⟩) n cap) (.slice (some ⟨H + 2, 0, none⟩) m G3) (.slice (some ⟨H + 3, 0, none⟩) m G4) (.slice (some ⟨H + 4, 0, none⟩) m G5) ∧
            Row wr (H + 2) m 25 (fun i => .int .u64 (filling z k i)) ∧ Row wr (H + 3) m 21 (fun _ => .int .i32 0) ∧ Row wr (H + 4) m 29 (fun _ => .int .u16 0)) (fun i _ => n - (intOf i).toNat)
        case atStart => exact ⟨0, Nat.zero_le _, rfl, p5, r3, r4, r5⟩
        case round =>
          clear p5 r3 r4 r5
          obtain ⟨k, hk, rfl, p5, r3, r4, r5⟩ := hrel
          by_cases hlt : k < n
          · have cs := p5.cs
            have c0 := (cell_of_st p5.st).2.1
            have ck : wr.cell? ⟨gl, off + k, none⟩ = some (.int .u64 (z k)) := (p5.bel.cell (by exact hgl)).trans (hc k hlt)
            have cr := r3.cell k (by omega)
            have fr := r3.free k
            have hkm : (k : Int) < (m : Int) := by omega
            have hzk := hz k hlt
            have e1 := toNat_val hzk
            have p6 := p5.row ⟨H + 2, k, none⟩ (.int .u64 (z k / 65536)) (Nat.le_refl _)
            have r6 := r3.set k (.int .u64 (z k / 65536))
            rw [cells_upd e1, filling_upd] at r6
            have r7 := r4.setOther ⟨H + 2, k, none⟩ (.int .u64 (z k / 65536)) (by simp)
            have r8 := r5.setOther ⟨H + 2, k, none⟩ (.int .u64 (z k / 65536)) (by simp)
            have HX := And.intro p6 (And.intro r6 (And.intro r7 r8))
            have HH : Hid _ := HX
            clear e1 p5 r3 r4 r5 p6 r6 r7 r8 HX
            go_wp2
            go_roundw
            case rel => exact ⟨k + 1, by omega, by go_num, HH.out⟩
            case measure => simp [intOf]; omega
          · obtain rfl : n = k := by omega
            go_wp2_with fail
            go_cut [7, 8] (fun s7 s8 wx => ∃ bl bj, s7 = .pointer (some ⟨bl, 0, none⟩) ∧ s8 = .pointer (some ⟨bj, 0, none⟩) ∧ Mem wx ⟨S, H, H + 1, bl, bj, H + 2, H + 3, H + 4, G3, G4, G5, .slice (some ⟨gl, off, none⟩) n cap⟩ n m 0 n (filling z n) (fun _ => 0) (fun _ => 0) ∧ Below S w wx)
            case first =>
              have cn := p5.cn
              have HP : Hid (P1 w wr S H n (H + 5) (.slice (some ⟨gl, off, none⟩) n cap) (.slice (some ⟨H + 2, 0, none⟩) m G3) (.slice (some ⟨H + 3, 0, none⟩) m G4) (.slice (some ⟨H + 4, 0, none⟩) m G5)) := p5
              have cn1 : ∀ o, (wr.alloc o).cell? ⟨H + 1, 0, none⟩ = some (.int .i64 n) := fun o => cell_later ((Below.refl _ _).alloc (Nat.le_refl _) o) cn
              have cn2 : ∀ o o', ((wr.alloc o).alloc o').cell? ⟨H + 1, 0, none⟩ = some (.int .i64 n) := fun o o' => cell_later ((Below.refl _ _).alloc (Nat.le_refl _) o') (cn1 o)
              clear p5
              go_region
              all_goals
                go_wp2_with fail
                go_meet
              · obtain ⟨x1, x2, x3⟩ := two_boxes wr (.int .i64 0) (.int .i64 n) 3
                have e := HP.out.size
                exact ⟨_, _, rfl, rfl, mem_start HP.out r3 r4 r5 x1 x2 x3 (by omega) (by omega) (by omega)⟩
              · obtain ⟨x1, x2, x3⟩ := two_boxes wr (.int .i64 n) (.int .i64 0) 3
                have e := HP.out.size
                exact ⟨_, _, rfl, rfl, mem_start HP.out r3 r4 r5 x2 x1 x3 (by omega) (by omega) (by omega)⟩
            case rest =>
              clear p5 r3 r4 r5
              obtain ⟨bl, bj, rfl, rfl, hmem, hbel⟩ := hcut
              have cn := cell_of_one hmem.n
              go_wp2_with fail
              clear cn
              obtain ⟨W0, hW0⟩ : ∃ W0, W0 = fun i => (z i / 65536).toNat := ⟨_, rfl⟩
              have HW0 : Hid (W0 = fun i => (z i / 65536).toNat) := hW0
              rw [← hW0] at hT
              go_loopw [10] (fun i wr => ∃ md : Nat, n ≤ md ∧ md ≤ m ∧ i = .int .i64 md ∧ Mem wr ⟨S, H, H + 1, bl, bj, H + 2, H + 3, H + 4, G3, G4, G5, .slice (some ⟨gl, off, none⟩) n cap⟩ n m (Huff.run n W0 (md - n)).leaf (Huff.run n W0 (md - n)).joined (Huff.run n W0 (md - n)).wt (Huff.run n W0 (md - n)).par (fun _ => 0) ∧ Below S w wr) (fun i _ => m - (intOf i).toNat)
              case atStart => exact ⟨n, Nat.le_refl _, by omega, rfl, by rw [Nat.sub_self, hW0]; exact hmem, hbel⟩
              case round =>
                clear hmem hbel hW0
                obtain ⟨md, hmd1, hmd2, rfl, hmem, hbel⟩ := hrel
                by_cases hlt : md < m
                · have hinv := Huff.inv_run n W0 (md - n) (by omega)
                  obtain ⟨sx, hsx⟩ : ∃ sx, Huff.run n W0 (md - n) = sx := ⟨_, rfl⟩
                  rw [hsx] at hmem hinv
                  have HS : Hid (Huff.run n W0 (md - n) = sx) := hsx
                  clear hsx
                  have h1 := hinv.h1
                  have h2 := hinv.h2
                  have h3 : sx.joined ≤ md := by have := hinv.h3; omega
                  have h4 : sx.leaf < n ∨ sx.joined < md := by have := hinv.h4; omega
                  obtain ⟨a, b, L1, J1, rd⟩ := rd_of hinv hmd1 (by omega)
                  have hpk : Calls Try.prog 18 #[.int .i64 md, .pointer (some ⟨bl, 0, none⟩), .pointer (some ⟨H + 1, 0, none⟩), .pointer (some ⟨bj, 0, none⟩), .pointer (some ⟨H, 0, none⟩)] wr
                      fun e w' => e = .returned (.int .i64 (a : Int)) ∧ Mem w' ⟨S, H, H + 1, bl, bj, H + 2, H + 3, H + 4, G3, G4, G5, .slice (some ⟨gl, off, none⟩) n cap⟩ n m L1 J1 sx.wt sx.par (fun _ => 0) ∧ Below S wr w' := by
                    have h := pick_any md n m sx.leaf sx.joined sx.wt sx.par (fun _ => 0) _ wr hmem h1 h2 h3 h4 hmd2 (by omega)
                    rw [← rd.ea, ← rd.eL, ← rd.eJ]; exact h
                  have HI : Hid (Huff.Inv n (md - n) (Huff.rs W0 0 n) W0 sx) := hinv
                  have HB : Hid (Below S w wr) := hbel
                  clear hmem hinv h1 h2 h3 h4 hbel
                  go_wp2_with fail
                  refine hpk.mono ?_
                  rintro e w1 ⟨rfl, hm1', hb1⟩
                  clear hpk
                  have hpk : Calls Try.prog 18 #[.int .i64 md, .pointer (some ⟨bl, 0, none⟩), .pointer (some ⟨H + 1, 0, none⟩), .pointer (some ⟨bj, 0, none⟩), .pointer (some ⟨H, 0, none⟩)] w1
                      fun e w' => e = .returned (.int .i64 (b : Int)) ∧ Mem w' ⟨S, H, H + 1, bl, bj, H + 2, H + 3, H + 4, G3, G4, G5, .slice (some ⟨gl, off, none⟩) n cap⟩ n m (Huff.l2 n md sx) (Huff.j2 n md sx) sx.wt sx.par (fun _ => 0) ∧ Below S w1 w' := by
                    have h := pick_any md n m L1 J1 sx.wt sx.par (fun _ => 0) _ w1 hm1' rd.l1 rd.j1 rd.j2 rd.lj hmd2 (by omega)
                    rw [← rd.eb]; unfold Huff.bOf Huff.l2 Huff.j2; rw [rd.eL, rd.eJ]; exact h
                  have HB1 : Hid (Below S w w1) := HB.out.trans hb1
                  clear hm1' hb1
                  go_wp2_with fail
                  refine hpk.mono ?_
                  rintro e w2 ⟨rfl, hm2', hb2⟩
                  clear hpk
                  have HB2 : Hid (Below S w w2) := HB1.out.trans hb2
                  clear hb2
                  have cs := cell_of_one hm2'.s
                  have c1 := (cell_of_st hm2'.st).2.1
                  have ca := hm2'.rw.cell a (by have := rd.am; omega)
                  have cb := hm2'.rw.cell b (by have := rd.bm; omega)
                  have cm := hm2'.rw.cell md hlt
                  have fm := hm2'.rw.free md
                  have am : ¬ md = a := by have := rd.am; omega
                  have bm : ¬ md = b := by have := rd.bm; omega
                  have ba1 : (a : Int) < (m : Int) := by have := rd.am; omega
                  have ba2 : (b : Int) < (m : Int) := by have := rd.bm; omega
                  have ba3 : (md : Int) < (m : Int) := by omega
                  have bb1 : (0 : Int) ≤ (a : Int) := by omega
                  have bb2 : (0 : Int) ≤ (b : Int) := by omega
                  have bb3 : (0 : Int) ≤ (md : Int) := by omega
                  have hsum : (sx.wt a : Int) + (sx.wt b : Int) ≤ 4611686018427387904 := by have := rd.sum; omega
                  have n1 : ¬ H + 2 = S := by omega
                  have ka : ∀ v, (w2.setCell ⟨H + 2, md, none⟩ v).cell? ⟨H + 2, a, none⟩ = some (.int .u64 (sx.wt a)) := fun v => (World.cell?_setCell_other w2 ⟨H + 2, md, none⟩ ⟨H + 2, a, none⟩ v (addr_ne am)).trans ca
                  have kb : ∀ v, (w2.setCell ⟨H + 2, md, none⟩ v).cell? ⟨H + 2, b, none⟩ = some (.int .u64 (sx.wt b)) := fun v => (World.cell?_setCell_other w2 ⟨H + 2, md, none⟩ ⟨H + 2, b, none⟩ v (addr_ne bm)).trans cb
                  have hwr : IntKind.u64.wrap ((sx.wt a : Int) + (sx.wt b : Int)) = (sx.wt a : Int) + (sx.wt b : Int) := wrap_small (by omega) (by omega)
                  have HM : Hid (Mem w2 ⟨S, H, H + 1, bl, bj, H + 2, H + 3, H + 4, G3, G4, G5, .slice (some ⟨gl, off, none⟩) n cap⟩ n m (Huff.l2 n md sx) (Huff.j2 n md sx) sx.wt sx.par (fun _ => 0)) := hm2'
                  have RD : Hid (Rd n md (Huff.rs W0 0 n) sx a b L1 J1) := rd
                  clear hm2' rd
                  go_wp2_with fail
                  go_region_held3 (fun w' => w'.cell? ⟨H, 0, none⟩ = some (.pointer (some ⟨S, 0, none⟩)) ∧ w'.cell? ⟨S, 1, none⟩ = some (.slice (some ⟨H + 2, 0, none⟩) m G3) ∧ w'.cell? ⟨H + 2, a, none⟩ = some (.int .u64 (sx.wt a)) ∧ w'.cell? ⟨H + 2, b, none⟩ = some (.int .u64 (sx.wt b))) (go_keep) (fail)
                  obtain ⟨w3, hw3⟩ : ∃ w3, (w2.setCell ⟨H + 2, md, none⟩ (Value.int IntKind.u64 ((sx.wt a : Int) + (sx.wt b : Int)))).drew = w3 := ⟨_, rfl⟩
                  have hm3 : Mem w3 ⟨S, H, H + 1, bl, bj, H + 2, H + 3, H + 4, G3, G4, G5, .slice (some ⟨gl, off, none⟩) n cap⟩ n m (Huff.l2 n md sx) (Huff.j2 n md sx) (upd sx.wt md (sx.wt a + sx.wt b)) sx.par (fun _ => 0) := by
                    rw [← hw3]; exact (HM.out.set_w md (sx.wt a + sx.wt b) _ (by rw [Int.natCast_add])).heap rfl
                  have HB3 : Hid (Below S w w3) := by
                    rw [← hw3]; exact (HB2.out.setCell (p := ⟨H + 2, md, none⟩) (by simp; omega) _).drew
                  rw [hw3]
                  clear cs c1 ca cb cm fm am bm hsum n1 ka kb hwr HM hw3 HB HB1 HB2
                  have cs := cell_of_one hm3.s
                  have c2 := (cell_of_st hm3.st).2.2.1
                  have ab : ¬ a = b := RD.out.ab
                  have ba : ¬ b = a := fun e => ab e.symm
                  have ca := hm3.rp.cell a (by have := RD.out.am; omega)
                  have cb := hm3.rp.cell b (by have := RD.out.bm; omega)
                  have fa := hm3.rp.free a
                  have fb := hm3.rp.free b
                  have ka : ∀ v, (w3.setCell ⟨H + 3, b, none⟩ v).cell? ⟨H + 3, a, none⟩ = some (.int .i32 (sx.par a)) := fun v => (World.cell?_setCell_other w3 ⟨H + 3, b, none⟩ ⟨H + 3, a, none⟩ v (addr_ne ba)).trans ca
                  have kb : ∀ v, (w3.setCell ⟨H + 3, a, none⟩ v).cell? ⟨H + 3, b, none⟩ = some (.int .i32 (sx.par b)) := fun v => (World.cell?_setCell_other w3 ⟨H + 3, a, none⟩ ⟨H + 3, b, none⟩ v (addr_ne ab)).trans cb
                  have n1 : ¬ H + 3 = S := by omega
                  have hwr : IntKind.i32.wrap (md : Int) = (md : Int) := wrap_small32 (by omega) (by omega)
                  have HM : Hid (Mem w3 ⟨S, H, H + 1, bl, bj, H + 2, H + 3, H + 4, G3, G4, G5, .slice (some ⟨gl, off, none⟩) n cap⟩ n m (Huff.l2 n md sx) (Huff.j2 n md sx) (upd sx.wt md (sx.wt a + sx.wt b)) sx.par (fun _ => 0)) := hm3
                  clear hm3
                  go_wp2_with fail
                  go_region_held3 (fun w' => w'.cell? ⟨H, 0, none⟩ = some (.pointer (some ⟨S, 0, none⟩)) ∧ w'.cell? ⟨S, 2, none⟩ = some (.slice (some ⟨H + 3, 0, none⟩) m G4)) (go_keep) (fail)
                  go_wp2_with fail
                  go_roundw
                  case rel =>
                    refine ⟨md + 1, by omega, by omega, by go_num, ?_, ?_⟩
                    · rw [run_next HS.out hmd1, step_eq RD.out]
                      exact ((HM.out.set_p a md _ rfl).set_p b md _ rfl).heap rfl
                    · exact ((HB3.out.setCell (p := ⟨H + 3, a, none⟩) (by simp; omega) _).setCell (p := ⟨H + 3, b, none⟩) (by simp; omega) _).drew
                  case measure => simp [intOf]; omega
                · obtain rfl : m = md := by omega
                  have hinv := Huff.inv_run n W0 (n - 1) (by omega)
                  rw [show m - n = n - 1 by omega] at hmem
                  obtain ⟨sx, hsx⟩ : ∃ sx, Huff.run n W0 (n - 1) = sx := ⟨_, rfl⟩
                  rw [hsx] at hmem hinv
                  have HS : Hid (Huff.run n W0 (n - 1) = sx) := hsx
                  clear hsx
                  have HI : Hid (Huff.Inv n (n - 1) (Huff.rs W0 0 n) W0 sx) := hinv
                  clear hinv
                  have cs := cell_of_one hmem.s
                  have c3 := (cell_of_st hmem.st).2.2.2
                  have cr := hmem.rd.cell (m - 1) (by omega)
                  have fr := hmem.rd.free (m - 1)
                  have HM : Hid (Mem wr ⟨S, H, H + 1, bl, bj, H + 2, H + 3, H + 4, G3, G4, G5, .slice (some ⟨gl, off, none⟩) n cap⟩ n m sx.leaf sx.joined sx.wt sx.par (fun _ => 0)) := hmem
                  clear hmem
                  go_wp2_with fail
                  clear cs c3 cr fr
                  go_loopw [13] (fun i wr => ∃ j : Nat, j + 1 ≤ m ∧ i = .int .i64 ((j : Int) - 1) ∧ Mem wr ⟨S, H, H + 1, bl, bj, H + 2, H + 3, H + 4, G3, G4, G5, .slice (some ⟨gl, off, none⟩) n cap⟩ n m sx.leaf sx.joined sx.wt sx.par (deeping sx.par (m - 1) j) ∧ Below S w wr) (fun i _ => (intOf i + 1).toNat)
                  case atStart =>
                    refine ⟨m - 1, by omega, by go_num, ?_, hbel.setCell (p := ⟨H + 4, m - 1, none⟩) (by simp; omega) _⟩
                    rw [← deeping_start]
                    exact HM.out.set_d (m - 1) 0 _ rfl
                  case round =>
                    clear hbel HM
                    obtain ⟨j, hj, rfl, hmem, hbel⟩ := hrel
                    have hpar : ∀ i, i < m - 1 → i < sx.par i := fun i hi => (Huff.last_par HI.out i (by omega)).2.2
                    by_cases hj0 : 0 < j
                    · obtain ⟨t, rfl⟩ : ∃ t, j = t + 1 := ⟨j - 1, by omega⟩
                      have et : ((t + 1 : Nat) : Int) - 1 = (t : Int) := by omega
                      rw [et]
                      clear et
                      have hup := Huff.last_par HI.out t (by omega)
                      have hdu := deeping_upd (root := m - 1) hpar (show t < m - 1 by omega)
                      have cs := cell_of_one hmem.s
                      have c3 := (cell_of_st hmem.st).2.2.2
                      have c2 := (cell_of_st hmem.st).2.2.1
                      have cp := hmem.rp.cell t (by omega)
                      have cd := hmem.rd.cell (sx.par t) (by omega)
                      have ct := hmem.rd.cell t (by omega)
                      have ft := hmem.rd.free t
                      have ed : deeping sx.par (m - 1) (t + 1) (sx.par t) = Huff.dep sx.par (m - 1) (sx.par t) % 65536 := by unfold deeping; rw [if_pos (by omega)]
                      simp only [ed] at cd
                      have hlt1 : Huff.dep sx.par (m - 1) (sx.par t) % 65536 < 65536 := Nat.mod_lt _ (by omega)
                      have hwr := wrap_u16 hlt1
                      obtain ⟨D, hD⟩ : ∃ D, Huff.dep sx.par (m - 1) (sx.par t) % 65536 = D := ⟨_, rfl⟩
                      rw [hD] at cd hwr hlt1 hdu
                      obtain ⟨P, hP⟩ : ∃ P, sx.par t = P := ⟨_, rfl⟩
                      rw [hP] at cd cp hup
                      obtain ⟨D', hD'⟩ : ∃ D', (D + 1) % 65536 = D' := ⟨_, rfl⟩
                      rw [hD'] at hwr hdu
                      have HD : Hid (upd (deeping sx.par (m - 1) (t + 1)) t D' = deeping sx.par (m - 1) t) := hdu
                      have tP : ¬ t = P := by omega
                      have b1 : (t : Int) < (m : Int) := by omega
                      have b2 : (P : Int) < (m : Int) := by omega
                      have b3 : (0 : Int) ≤ (t : Int) := by omega
                      have b4 : (0 : Int) ≤ (P : Int) := by omega
                      have k2 : ∀ v, (wr.setCell ⟨H + 4, t, none⟩ v).cell? ⟨H + 4, P, none⟩ = some (.int .u16 (D : Int)) := fun v => (World.cell?_setCell_other wr ⟨H + 4, t, none⟩ ⟨H + 4, P, none⟩ v (addr_ne tP)).trans cd
                      have n1 : ¬ H + 4 = S := by omega
                      have HM : Hid (Mem wr ⟨S, H, H + 1, bl, bj, H + 2, H + 3, H + 4, G3, G4, G5, .slice (some ⟨gl, off, none⟩) n cap⟩ n m sx.leaf sx.joined sx.wt sx.par (deeping sx.par (m - 1) (t + 1))) := hmem
                      have HB : Hid (Below S w wr) := hbel
                      clear hmem hbel hpar hup hdu ed hD hP hD' hlt1
                      go_wp2_with fail
                      go_region_held3 (fun w' => w'.cell? ⟨H, 0, none⟩ = some (.pointer (some ⟨S, 0, none⟩)) ∧ w'.cell? ⟨S, 3, none⟩ = some (.slice (some ⟨H + 4, 0, none⟩) m G5) ∧ w'.cell? ⟨S, 2, none⟩ = some (.slice (some ⟨H + 3, 0, none⟩) m G4) ∧ w'.cell? ⟨H + 3, t, none⟩ = some (.int .i32 (P : Int)) ∧ w'.cell? ⟨H + 4, P, none⟩ = some (.int .u16 (D : Int))) (go_keep) (fail)
                      go_wp2_with fail
                      go_roundw
                      case rel =>
                        refine ⟨t, by omega, by go_num, ?_, ?_⟩
                        · rw [← HD.out]; exact (HM.out.set_d t D' _ rfl).heap rfl
                        · exact (HB.out.setCell (p := ⟨H + 4, t, none⟩) (by simp; omega) _).drew
                      case measure => simp [intOf]
                    · obtain rfl : j = 0 := by omega
                      have et : ((0 : Nat) : Int) - 1 = -1 := by omega
                      rw [et]
                      clear et
                      have cs := cell_of_one hmem.s
                      have cn := cell_of_one hmem.n
                      have c3 := (cell_of_st hmem.st).2.2.2
                      have b1 : (n : Int) ≤ (G5 : Int) := by omega
                      have b2 : (0 : Int) ≤ (n : Int) := by omega
                      have hrow : Row wr (H + 4) n 29 (fun i => .int .u16 ((Huff.dep sx.par (2 * n - 2) i % 65536 : Nat) : Int)) := (hmem.rd.shorter (show n ≤ m by omega)).congr (fun i hi => by simp only [deeping, Nat.zero_le, if_true]; rw [show m - 1 = 2 * n - 2 by omega])
                      have HR : Hid (Row wr (H + 4) n 29 (fun i => .int .u16 ((Huff.dep sx.par (2 * n - 2) i % 65536 : Nat) : Int))) := hrow
                      have HB : Hid (Below S w wr) := hbel
                      clear hmem hbel hpar hrow
                      go_wp2_with fail
                      go_quiet (fail)
                      go_wp2_with fail
                      go_ret
                      refine ⟨G5, by rw [HH.out]; rfl, ?_, HB.out.trans ⟨rfl, rfl, rfl, Nat.le_refl _, fun _ _ => rfl⟩⟩
                      rw [HH.out, ← HW0.out, HS.out]
                      exact HR.out

end Go.Proofs.Qxb6606286a

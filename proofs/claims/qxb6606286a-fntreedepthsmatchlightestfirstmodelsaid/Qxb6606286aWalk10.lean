/- deflateB1HuffmanModel (function 10). -/
import Derived.Test.Qxb6606286aModel
import Derived.WalkKit
import Derived.BigQuiet
import Derived.Deep.QuietTactic
import Derived.Deep.RegionHeld3
import Derived.Deep.DrawnRows
import Derived.Deep.Light
import Derived.WalkSpells
namespace Go.Proofs.Qxb6606286a
open Go.RowKit
set_option linter.unusedVariables false
attribute [local go_sem ↓] Go.wp_at_zero Go.wp_at_succ

theorem Try.info4 : (Try.prog.info? 4).map (fun i => (i.zero, i.size, i.bytes)) = some (some (.bool false), 1, 1) := by kernel_rfl
theorem Try.info3' : (Try.prog.info? 3).map (fun i => (i.zero, i.size, i.bytes)) = some (some (.int .i64 0), 1, 8) := by kernel_rfl

theorem upd_map {α : Type} (g : α → Value) (f : Nat → α) (j : Nat) (v : α) : upd (fun i => g (f i)) j (g v) = fun i => g (upd f j v i) := by
  funext i
  by_cases h : i = j <;> simp [upd, h]

/-- The model's three rows. -/
structure MM (w0 w : World) (B gw gu gp m : Nat) (wt : Nat → Nat) (us : Nat → Bool) (pr : Nat → Int) : Prop where
  rw : Row w gw m 25 (fun i => .int .u64 (wt i))
  ru : Row w gu m 4 (fun i => .bool (us i))
  rp : Row w gp m 3 (fun i => .int .i64 (pr i))
  bel : Below B w0 w
  o1 : B ≤ gw
  o2 : B ≤ gu
  o3 : B ≤ gp

theorem MM.set_w {w0 w : World} {B gw gu gp m : Nat} {wt : Nat → Nat} {us : Nat → Bool} {pr : Nat → Int} (h : MM w0 w B gw gu gp m wt us pr) (j v : Nat) (u : Value) (hu : u = .int .u64 (v : Int)) : MM w0 (w.setCell ⟨gw, j, none⟩ u) B gw gu gp m (upd wt j v) us pr := by
  refine ⟨?_, h.ru.setOther _ _ (h.ru.ne_row h.rw (by decide)), h.rp.setOther _ _ (h.rp.ne_row h.rw (by decide)), h.bel.setCell (p := ⟨gw, j, none⟩) h.o1 _, h.o1, h.o2, h.o3⟩
  rw [← cells_upd hu]; exact h.rw.set j u
theorem MM.set_u {w0 w : World} {B gw gu gp m : Nat} {wt : Nat → Nat} {us : Nat → Bool} {pr : Nat → Int} (h : MM w0 w B gw gu gp m wt us pr) (j : Nat) (v : Bool) : MM w0 (w.setCell ⟨gu, j, none⟩ (.bool v)) B gw gu gp m wt (upd us j v) pr := by
  refine ⟨h.rw.setOther _ _ (h.rw.ne_row h.ru (by decide)), ?_, h.rp.setOther _ _ (h.rp.ne_row h.ru (by decide)), h.bel.setCell (p := ⟨gu, j, none⟩) h.o2 _, h.o1, h.o2, h.o3⟩
  rw [← upd_map Value.bool]; exact h.ru.set j _
theorem MM.set_p {w0 w : World} {B gw gu gp m : Nat} {wt : Nat → Nat} {us : Nat → Bool} {pr : Nat → Int} (h : MM w0 w B gw gu gp m wt us pr) (j : Nat) (v : Int) : MM w0 (w.setCell ⟨gp, j, none⟩ (.int .i64 v)) B gw gu gp m wt us (upd pr j v) := by
  refine ⟨h.rw.setOther _ _ (h.rw.ne_row h.rp (by decide)), h.ru.setOther _ _ (h.ru.ne_row h.rp (by decide)), ?_, h.bel.setCell (p := ⟨gp, j, none⟩) h.o3 _, h.o1, h.o2, h.o3⟩
  rw [← upd_map (Value.int .i64)]; exact h.rp.set j _
theorem MM.heap {w0 w w' : World} {B gw gu gp m : Nat} {wt : Nat → Nat} {us : Nat → Bool} {pr : Nat → Int} (h : MM w0 w B gw gu gp m wt us pr) (e : w'.heap = w.heap) (e1 : w'.os = w.os) (e2 : w'.tape = w.tape) (e3 : w'.output = w.output) : MM w0 w' B gw gu gp m wt us pr :=
  ⟨h.rw.of_heap (by rw [e]), h.ru.of_heap (by rw [e]), h.rp.of_heap (by rw [e]), h.bel.trans ⟨e1, e2, e3, by rw [e]; exact Nat.le_refl _, fun k _ => by rw [e]⟩, h.o1, h.o2, h.o3⟩

def filled (k : Nat) (i : Nat) : Int := if i < k then -1 else 0
theorem filled_upd (k : Nat) : upd (filled k) k (-1) = filled (k + 1) := by
  funext i
  unfold upd filled
  by_cases e : i = k
  · subst e; simp
  · have : (i < k + 1) = (i < k) := by simp; omega
    simp [e, this]

theorem MM.congr_p {w0 w : World} {B gw gu gp m : Nat} {wt : Nat → Nat} {us : Nat → Bool} {pr pr' : Nat → Int} (h : MM w0 w B gw gu gp m wt us pr) (e : ∀ i, i < m → pr i = pr' i) : MM w0 w B gw gu gp m wt us pr' :=
  ⟨h.rw, h.ru, h.rp.congr (fun i hi => by rw [e i hi]), h.bel, h.o1, h.o2, h.o3⟩
theorem MM.drewN {w0 w : World} {B gw gu gp m : Nat} {wt : Nat → Nat} {us : Nat → Bool} {pr : Nat → Int} (h : MM w0 w B gw gu gp m wt us pr) (q : Nat) : MM w0 (w.drewN q) B gw gu gp m wt us pr := h.heap rfl rfl rfl rfl

/-- The answer's row while it is being filled. -/
def outing (z : Nat → Int) (n k i : Nat) : Nat := if i < k then depOf z n i % 65536 else 0
theorem outing_upd (z : Nat → Int) (n k : Nat) : upd (outing z n k) k (depOf z n k % 65536) = outing z n (k + 1) := by
  funext i
  unfold upd outing
  by_cases e : i = k
  · subst e; simp
  · have : (i < k + 1) = (i < k) := by simp; omega
    simp [e, this]
theorem wrap16 (x : Nat) : IntKind.u16.wrap (x : Int) = ((x % 65536 : Nat) : Int) := by
  rw [IntKind.wrap_u16]
  omega

set_option maxHeartbeats 2000000 in
set_option maxRecDepth 1000000 in
theorem model (gl off n cap : Nat) (z : Nat → Int) (w : World) (h0 : 0 < n) (hn : n ≤ 131072) (hz : ∀ i, i < n → 0 ≤ z i) (hfit : fitTo z 17592186044416 n)
    (hc : ∀ i, i < n → w.cell? ⟨gl, off + i, none⟩ = some (.int .u64 (z i))) (hgl : gl < w.heap.size) :
    Calls Try.prog 10 #[.slice (some ⟨gl, off, none⟩) n cap] w fun e w' => ZZEnd z n w w' e := by
  obtain ⟨i25, hi25, hz25, hy25, hb25⟩ := info_parts Try.info25
  obtain ⟨i4, hi4, hz4, hy4, hb4⟩ := info_parts Try.info4
  obtain ⟨i3, hi3, hz3, hy3, hb3⟩ := info_parts Try.info3'
  have HF : Hid (fitTo z 17592186044416 n) := hfit
  have HC : Hid (∀ i, i < n → w.cell? ⟨gl, off + i, none⟩ = some (.int .u64 (z i))) := hc
  have HZ : Hid (∀ i, i < n → 0 ≤ z i) := hz
  clear hfit hc hz
  obtain ⟨m, hm1, hm2⟩ : ∃ m, m + 1 ≤ 2 * n ∧ 2 * n ≤ m + 1 := ⟨2 * n - 1, by omega, by omega⟩
  go_enter Try.func10, Try.ntmps10
  go_wp2_with (first | (at_make; refine wpList_make_row _ rfl (.tmp 22) (.tmp 22) 22 rfl 25 i25 (.int .u64 0) 8 Try.underlying22 hi25 hz25 hy25 hb25 rfl .i64 .i64 _ _ m rfl rfl (by omega) (by omega) (by omega) (by unfold maxLen; omega) ?_; intro w1 r b s; have R1 : Hid (Row w1 w.heap.size m 25 (fun _ => .int .u64 0)) := r; have B1 : Hid (Below w.heap.size w w1) := b; have S1 : Hid (w1.heap.size = w.heap.size + 1) := s; clear r b s) | (at_make; refine wpList_make_row _ rfl (.tmp 24) (.tmp 24) 37 rfl 4 i4 (.bool false) 1 Try.underlying37 hi4 hz4 hy4 hb4 rfl .i64 .i64 _ _ m rfl rfl (by omega) (by omega) (by omega) (by unfold maxLen; omega) ?_; intro w2 r b s; have R2 : Hid (Row w2 w1.heap.size m 4 (fun _ => .bool false)) := r; have B2 : Hid (Below w1.heap.size w1 w2) := b; have S2 : Hid (w2.heap.size = w1.heap.size + 1) := s; clear r b s) | (at_make; refine wpList_make_row _ rfl (.tmp 26) (.tmp 26) 30 rfl 3 i3 (.int .i64 0) 8 Try.underlying30 hi3 hz3 hy3 hb3 rfl .i64 .i64 _ _ m rfl rfl (by omega) (by omega) (by omega) (by unfold maxLen; omega) ?_; intro w3 r b s; have R3 : Hid (Row w3 w2.heap.size m 3 (fun _ => .int .i64 0)) := r; have B3 : Hid (Below w2.heap.size w2 w3) := b; have S3 : Hid (w3.heap.size = w2.heap.size + 1) := s; clear r b s))
  have eM : 2 * (n : Int) - 1 = (m : Int) := by omega
  rw [eM]
  clear eM
  obtain ⟨H, hH⟩ : ∃ H, w.heap.size = H := ⟨_, rfl⟩
  have e1 : w1.heap.size = H + 1 := by rw [S1.out, hH]
  have e2 : w2.heap.size = H + 2 := by rw [S2.out, e1]
  have mm : MM w w3 H H (H + 1) (H + 2) m (fun _ => 0) (fun _ => false) (filled 0) := by
    have x1 := R1.out; have x2 := R2.out; have x3 := R3.out; have y1 := B1.out; have y2 := B2.out; have y3 := B3.out
    rw [hH] at x1 y1
    rw [e1] at x2 y2
    rw [e2] at x3 y3
    exact ⟨(x1.below y2 (by omega)).below y3 (by omega), x2.below y3 (by omega), x3, (y1.trans (y2.mono (by omega))).trans (y3.mono (by omega)), Nat.le_refl _, by omega, by omega⟩
  rw [hH, e1, e2]
  have hglH : gl < H := by omega
  have HH : Hid (w.heap.size = H) := hH
  clear e1 e2 R1 R2 R3 B1 B2 B3 S1 S2 S3 hH hgl
  go_loopw [8] (fun i wr => ∃ k : Nat, k ≤ m ∧ i = .int .i64 k ∧ MM w wr H H (H + 1) (H + 2) m (fun _ => 0) (fun _ => false) (filled k)) (fun i _ => m - (intOf i).toNat)
  case atStart => exact ⟨0, Nat.zero_le _, rfl, mm⟩
  case round =>
    clear mm
    obtain ⟨k, hk, rfl, mm⟩ := hrel
    by_cases hlt : k < m
    · have c1 := mm.rp.cell k hlt
      have f1 := mm.rp.free k
      have mm2 := mm.set_p k (-1)
      rw [filled_upd] at mm2
      have HM : Hid (MM w (wr.setCell ⟨H + 2, k, none⟩ (.int .i64 (-1))) H H (H + 1) (H + 2) m (fun _ => 0) (fun _ => false) (filled (k + 1))) := mm2
      clear mm mm2
      go_wp2
      go_roundw
      case rel => exact ⟨k + 1, by omega, by go_num, HM.out⟩
      case measure => simp [intOf]; omega
    · obtain rfl : m = k := by omega
      go_wp2_with fail
      go_loopw [9] (fun i wr => ∃ k : Nat, k ≤ n ∧ i = .int .i64 k ∧ MM w wr H H (H + 1) (H + 2) m (filling z k) (fun _ => false) (filled m)) (fun i _ => n - (intOf i).toNat)
      case atStart => exact ⟨0, Nat.zero_le _, rfl, mm⟩
      case round =>
        clear mm
        obtain ⟨k, hk, rfl, mm⟩ := hrel
        by_cases hlt : k < n
        · have c0 : wr.cell? ⟨gl, off + k, none⟩ = some (.int .u64 (z k)) := (mm.bel.cell (by exact hglH)).trans (HC.out k hlt)
          have c1 := mm.rw.cell k (by omega)
          have f1 := mm.rw.free k
          have hzk := HZ.out k hlt
          have mm2 := mm.set_w k (z k / 65536).toNat _ (toNat_val hzk)
          rw [filling_upd] at mm2
          have HM : Hid (MM w (wr.setCell ⟨H, k, none⟩ (.int .u64 (z k / 65536))) H H (H + 1) (H + 2) m (filling z (k + 1)) (fun _ => false) (filled m)) := mm2
          have b1 : (k : Int) < (m : Int) := by omega
          clear mm mm2
          go_wp2
          go_roundw
          case rel => exact ⟨k + 1, by omega, by go_num, HM.out⟩
          case measure => simp [intOf]; omega
        · obtain rfl : n = k := by omega
          go_wp2_with fail
          obtain ⟨W0, hW0⟩ : ∃ W0, W0 = fun i => (z i / 65536).toNat := ⟨_, rfl⟩
          have HW0 : Hid (W0 = fun i => (z i / 65536).toNat) := hW0
          have hT : Huff.rs W0 0 n ≤ 4611686018427387904 := by rw [hW0]; exact fit_sum HF.out hn
          have hsrt : ∀ i j, i ≤ j → j < n → W0 i ≤ W0 j := fun i j hij hj => by
            have := fit_mono HF.out (j - i) i (by omega)
            rw [show i + (j - i) = j by omega] at this
            rw [hW0]
            show (z i / 65536).toNat ≤ (z j / 65536).toNat
            omega
          obtain ⟨zz, hzz, hz0⟩ := Huff.exists_z (W0 := W0) n hsrt
          have HO : Hid (∀ k, k < n → Huff.Ord n k zz (Huff.run n W0 k)) := Huff.ord_run hsrt hz0 hzz
          clear hsrt hz0
          go_loopw [10] (fun i wr => ∃ md : Nat, n ≤ md ∧ md ≤ m ∧ i = .int .i64 md ∧ MM w wr H H (H + 1) (H + 2) m (Huff.run n W0 (md - n)).wt (usB n (Huff.run n W0 (md - n)).leaf (Huff.run n W0 (md - n)).joined) (prI n (Huff.run n W0 (md - n)))) (fun i _ => m - (intOf i).toNat)
          case atStart =>
            refine ⟨n, Nat.le_refl _, by omega, rfl, ?_⟩
            rw [Nat.sub_self, ← us_start, ← pr_start, hW0]
            exact mm.congr_p (fun i hi => by simp [filled, hi])
          case round =>
            clear mm hW0
            obtain ⟨md, hmd1, hmd2, rfl, mm⟩ := hrel
            by_cases hlt : md < m
            · have hinv := Huff.inv_run n W0 (md - n) (by omega)
              have hord := HO.out (md - n) (by omega)
              obtain ⟨sx, hsx⟩ : ∃ sx, Huff.run n W0 (md - n) = sx := ⟨_, rfl⟩
              rw [hsx] at mm hinv hord
              have HS : Hid (Huff.run n W0 (md - n) = sx) := hsx
              obtain ⟨a, b, L1, J1, rm⟩ := rm_of hinv hord hzz hmd1 (by omega)
              have RM : Hid (Rm n md (Huff.rs W0 0 n) zz sx a b L1 J1) := rm
              have HI : Hid (Huff.Inv n (md - n) (Huff.rs W0 0 n) W0 sx) := hinv
              have M0 : Hid (MM w wr H H (H + 1) (H + 2) m sx.wt (usB n sx.leaf sx.joined) (prI n sx)) := mm
              have am := rm.rd.am
              have bm := rm.rd.bm
              clear hsx hinv hord rm mm
              go_wp2_with fail
              refine (lightest H (H + 1) m m m md (usB n sx.leaf sx.joined) sx.wt _ (by omega) hmd2 M0.out.rw M0.out.ru).mono ?_
              rintro e wa ⟨r, rfl, hb, q, rfl⟩
              obtain rfl : r = (a : Int) := best_pick HI.out.h1 HI.out.h2 (by have := HI.out.h3; omega) RM.out.la hb
              clear hb
              obtain ⟨wa, hwa⟩ : ∃ wa, wr.drewN q = wa := ⟨_, rfl⟩
              have M1 : Hid (MM w wa H H (H + 1) (H + 2) m sx.wt (usB n sx.leaf sx.joined) (prI n sx)) := by rw [← hwa]; exact M0.out.drewN q
              rw [hwa]
              clear hwa M0
              have c1 := M1.out.ru.cell a (by omega)
              have f1 := M1.out.ru.free a
              have b1 : (a : Int) < (m : Int) := by omega
              have M2 := M1.out.set_u a true
              rw [us_upd RM.out.la] at M2
              have M3 : Hid (MM w (wa.setCell ⟨H + 1, a, none⟩ (.bool true)) H H (H + 1) (H + 2) m sx.wt (usB n L1 J1) (prI n sx)) := M2
              clear M2
              go_wp2_with fail
              refine (lightest H (H + 1) m m m md (usB n L1 J1) sx.wt _ (by omega) hmd2 M3.out.rw M3.out.ru).mono ?_
              rintro e wb ⟨r, rfl, hb, q2, rfl⟩
              obtain rfl : r = (b : Int) := best_pick RM.out.rd.l1 RM.out.rd.j1 RM.out.rd.j2 RM.out.lb hb
              clear hb c1 f1
              obtain ⟨wb, hwb⟩ : ∃ wb, (wa.setCell ⟨H + 1, a, none⟩ (.bool true)).drewN q2 = wb := ⟨_, rfl⟩
              have M4 : Hid (MM w wb H H (H + 1) (H + 2) m sx.wt (usB n L1 J1) (prI n sx)) := by rw [← hwb]; exact M3.out.drewN q2
              rw [hwb]
              clear hwb M1 M3
              have c1 := M4.out.ru.cell b (by omega)
              have f1 := M4.out.ru.free b
              have b2 : (b : Int) < (m : Int) := by omega
              have M5 := M4.out.set_u b true
              rw [us_upd RM.out.lb] at M5
              obtain ⟨wc, hwc⟩ : ∃ wc, wb.setCell ⟨H + 1, b, none⟩ (.bool true) = wc := ⟨_, rfl⟩
              rw [hwc] at M5
              have ca := M5.rw.cell a (by omega)
              have cb := M5.rw.cell b (by omega)
              have cm := M5.rw.cell md hlt
              have fm := M5.rw.free md
              have am' : ¬ md = a := by omega
              have bm' : ¬ md = b := by omega
              have b3 : (md : Int) < (m : Int) := by omega
              have b4 : (0 : Int) ≤ (a : Int) := by omega
              have b5 : (0 : Int) ≤ (b : Int) := by omega
              have b6 : (0 : Int) ≤ (md : Int) := by omega
              have hsum : (sx.wt a : Int) + (sx.wt b : Int) ≤ 4611686018427387904 := by have := RM.out.rd.sum; omega
              have hwr : IntKind.u64.wrap ((sx.wt a : Int) + (sx.wt b : Int)) = (sx.wt a : Int) + (sx.wt b : Int) := wrap_small (by omega) (by omega)
              have ka : ∀ v, (wc.setCell ⟨H, md, none⟩ v).cell? ⟨H, a, none⟩ = some (.int .u64 (sx.wt a)) := fun v => (World.cell?_setCell_other wc ⟨H, md, none⟩ ⟨H, a, none⟩ v (addr_ne am')).trans ca
              have kb : ∀ v, (wc.setCell ⟨H, md, none⟩ v).cell? ⟨H, b, none⟩ = some (.int .u64 (sx.wt b)) := fun v => (World.cell?_setCell_other wc ⟨H, md, none⟩ ⟨H, b, none⟩ v (addr_ne bm')).trans cb
              have M6 : Hid (MM w wc H H (H + 1) (H + 2) m sx.wt (usB n (Huff.l2 n md sx) (Huff.j2 n md sx)) (prI n sx)) := M5
              have HWC : Hid (wb.setCell ⟨H + 1, b, none⟩ (.bool true) = wc) := hwc
              clear M5 hwc
              go_wp2_with fail
              rw [HWC.out]
              clear c1 f1 M4 HWC
              go_region_held3 (fun w' => w'.cell? ⟨H, a, none⟩ = some (.int .u64 (sx.wt a)) ∧ w'.cell? ⟨H, b, none⟩ = some (.int .u64 (sx.wt b))) (go_keep) (fail)
              obtain ⟨wd, hwd⟩ : ∃ wd, (wc.setCell ⟨H, md, none⟩ (Value.int IntKind.u64 ((sx.wt a : Int) + (sx.wt b : Int)))).drew = wd := ⟨_, rfl⟩
              have M7 : MM w wd H H (H + 1) (H + 2) m (upd sx.wt md (sx.wt a + sx.wt b)) (usB n (Huff.l2 n md sx) (Huff.j2 n md sx)) (prI n sx) := by
                rw [← hwd]; exact (M6.out.set_w md (sx.wt a + sx.wt b) _ (by rw [Int.natCast_add])).heap rfl rfl rfl rfl
              rw [hwd]
              clear hwd ca cb cm fm ka kb hwr hsum M6
              have c1 := M7.rp.cell a (by omega)
              have f1 := M7.rp.free a
              have M8 := M7.set_p a (md : Int)
              have c2 := M8.rp.cell b (by omega)
              have f2 := M8.rp.free b
              have M9 := M8.set_p b (md : Int)
              rw [pr_next RM.out] at M9
              have HM : Hid _ := M9
              clear M7 M8 M9
              go_wp2
              go_roundw
              case rel =>
                refine ⟨md + 1, by omega, by omega, by go_num, ?_⟩
                rw [run_next HS.out hmd1]
                have := HM.out
                rw [step_eq RM.out.rd] at this ⊢
                exact this
              case measure => simp [intOf]; omega
            · obtain rfl : m = md := by omega
              have htree : Huff.Tree n (Huff.rs W0 0 n) W0 (Huff.run n W0 (n - 1)) := Huff.tree_of n W0 h0
              have hdep : ∀ i, depOf z n i = Huff.dep (Huff.run n W0 (n - 1)).par (2 * n - 2) i := fun i => by rw [HW0.out]; rfl
              rw [show m - n = n - 1 by omega] at mm
              obtain ⟨sx, hsx⟩ : ∃ sx, Huff.run n W0 (n - 1) = sx := ⟨_, rfl⟩
              rw [hsx] at mm htree
              simp only [hsx] at hdep
              have TR : Hid (Huff.Tree n (Huff.rs W0 0 n) W0 sx) := htree
              have HD : Hid (∀ i, depOf z n i = Huff.dep sx.par (2 * n - 2) i) := hdep
              have M0 : Hid (MM w wr H H (H + 1) (H + 2) m sx.wt (usB n sx.leaf sx.joined) (prI n sx)) := mm
              clear hsx htree hdep mm
              obtain ⟨i29, hi29, hz29, hy29, hb29⟩ := info_parts Try.info29
              go_wp2_with (at_make; refine wpList_make_row _ rfl (.tmp 89) (.tmp 89) 27 rfl 29 i29 (.int .u16 0) 2 Try.underlying27 hi29 hz29 hy29 hb29 rfl .i64 .i64 _ _ n rfl rfl (by omega) (by omega) (by omega) (by unfold maxLen; omega) ?_; intro w5 r b s; have R5 : Hid (Row w5 wr.heap.size n 29 (fun _ => .int .u16 0)) := r; have B5 : Hid (Below wr.heap.size wr w5) := b; clear r b s)
              obtain ⟨O, hO⟩ : ∃ O, wr.heap.size = O := ⟨_, rfl⟩
              have r5 : Row w5 O n 29 (fun i => .int .u16 (outing z n 0 i : Nat)) := by rw [← hO]; exact R5.out
              have rp5 : Row w5 (H + 2) m 3 (fun i => .int .i64 (prI n sx i)) := M0.out.rp.below B5.out M0.out.rp.lt
              have hHO : H ≤ O := by have := M0.out.rw.lt; omega
              have be5 : Below H w w5 := M0.out.bel.trans (B5.out.mono (by omega))
              rw [hO]
              clear hO M0 R5 B5
              go_loopw [14] (fun i wr => ∃ k : Nat, k ≤ n ∧ i = .int .i64 k ∧ Row wr O n 29 (fun i => .int .u16 (outing z n k i : Nat)) ∧ Row wr (H + 2) m 3 (fun i => .int .i64 (prI n sx i)) ∧ Below H w wr) (fun i _ => n - (intOf i).toNat)
              case atStart => exact ⟨0, Nat.zero_le _, rfl, r5, rp5, be5⟩
              case round =>
                clear r5 rp5 be5
                obtain ⟨k, hk, rfl, r5, rp5, be5⟩ := hrel
                by_cases hlt4 : k < n
                · have R5 : Hid (Row wr O n 29 (fun i => .int .u16 (outing z n k i : Nat))) := r5
                  have RP : Hid (Row wr (H + 2) m 3 (fun i => .int .i64 (prI n sx i))) := rp5
                  have BE : Hid (Below H w wr) := be5
                  clear r5 rp5 be5
                  have b1 : (k : Int) < (n : Int) := by omega
                  go_wp2_with fail
                  go_loop [15, 16] (fun d j => ∃ e t : Nat, t ≤ 2 * n - 2 ∧ e + Huff.dep sx.par (2 * n - 2) t = depOf z n k ∧ d = .int .i64 e ∧ j = .int .i64 t) (fun _ j => 2 * n - 2 - (intOf j).toNat)
                  case atStart => exact ⟨0, k, by omega, by rw [Nat.zero_add, HD.out], rfl, rfl⟩
                  case round =>
                    obtain ⟨e, t, ht, he, rfl, rfl⟩ := hrel
                    have HE : Hid (e + Huff.dep sx.par (2 * n - 2) t = depOf z n k) := he
                    have hel : depOf z n k ≤ n := by have := TR.out.le_leaf k hlt4; rw [HD.out]; omega
                    have hel2 : e ≤ n := by omega
                    clear he hel
                    have c1 := RP.out.cell t (by omega)
                    have b2 : (t : Int) < (m : Int) := by omega
                    have b3 : (0 : Int) ≤ (t : Int) := by omega
                    by_cases htr : t < 2 * n - 2
                    · have hup := Huff.last_par TR.out.inv t htr
                      have hd := TR.out.dep t htr
                      rw [pr_last TR.out.inv t htr] at c1
                      have HD2 : Hid (Huff.dep sx.par (2 * n - 2) t = Huff.dep sx.par (2 * n - 2) (sx.par t) + 1) := hd
                      have hup1 := hup.2.1
                      have hup2 := hup.2.2
                      clear hd hup
                      go_wp2
                      go_round
                      case rel => exact ⟨e + 1, sx.par t, by omega, by have := HE.out; have := HD2.out; omega, by go_num, rfl⟩
                      case measure => simp [intOf]; omega
                    · obtain rfl : t = 2 * n - 2 := by omega
                      rw [pr_root TR.out.inv h0] at c1
                      have hde : e = depOf z n k := by have := HE.out; rw [Huff.dep_root _ _ _ (Nat.le_refl _)] at this; omega
                      have hwr := wrap16 e
                      have c2 := R5.out.cell k hlt4
                      have f2 := R5.out.free k
                      have hup := outing_upd z n k
                      rw [← hde] at hup
                      have ee : ((e % 65536 : Nat) : Int) = (e : Int) % 65536 := by omega
                      have r6 := R5.out.set k (.int .u16 ((e : Int) % 65536))
                      rw [cells_upd (v := e % 65536) (by rw [ee]), hup] at r6
                      have rp6 := RP.out.setOther ⟨O, k, none⟩ (.int .u16 ((e : Int) % 65536)) (RP.out.ne_row R5.out (by decide))
                      have be6 := BE.out.setCell (p := ⟨O, k, none⟩) hHO (.int .u16 ((e : Int) % 65536))
                      have HX := And.intro r6 (And.intro rp6 be6)
                      have HH6 : Hid _ := HX
                      clear hup r6 rp6 be6 HX hde ee
                      go_wp2
                      go_roundw
                      case rel => exact ⟨k + 1, by omega, by go_num, HH6.out⟩
                      case measure => simp [intOf]; omega
                · obtain rfl : n = k := by omega
                  have HZE : Hid (ZZEnd z n w wr (.returned (.slice (some ⟨O, 0, none⟩) n n))) := by
                    refine ⟨O, n, rfl, r5.congr (fun i hi => by simp [outing, hi]), ?_, ?_⟩
                    · rw [HH.out]; exact be5
                    · rw [HH.out]; exact hHO
                  clear r5 rp5 be5
                  go_wp2
                  go_ret
                  exact HZE.out
end Go.Proofs.Qxb6606286a

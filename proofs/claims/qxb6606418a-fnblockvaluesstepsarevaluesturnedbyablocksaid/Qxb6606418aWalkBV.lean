/- blockValues (15): the walk. -/
import Derived.Test.Qxb6606418aBV
namespace Go.Proofs.Qxb6606418a
open Go.RowKit
set_option linter.unusedVariables false
attribute [local go_sem ↓] Go.wp_at_zero Go.wp_at_succ
attribute [local go_sem] run_store_float

theorem Try.info30 : (Try.prog.info? 30).map (fun i => (i.zero, i.size, i.bytes)) = some (some (.float .f64 0), 1, 8) := by kernel_rfl

def BVEnd (m : Nat) (V T : Nat → Nat) (w w' : World) (e : Ending) : Prop :=
  ∃ gv gs, e = .returned (.tuple #[.slice (some ⟨gv, 0, none⟩) m m, .slice (some ⟨gs, 0, none⟩) m m]) ∧ Row w' gv m 30 (fun s => .float .f64 (V s)) ∧ Row w' gs m 30 (fun s => .float .f64 (T s)) ∧ Below w.heap.size w w'

theorem make_run (m : Nat) (hm : (m : Int) ≤ 65536) (w : World) : (Instr.makeSlice 27 (.int .i64 (m : Int)) (.int .i64 (m : Int))).run Try.prog w = .ok (.slice (some ⟨w.heap.size, 0, none⟩) m m) (w.alloc (.cells (madeCells #[.float .f64 0] m) 30)) := by
  obtain ⟨i30, hi30, hz30, hy30, hb30⟩ := info_parts Try.info30
  have hr := run_make (P := Try.prog) w 27 30 i30 (.float .f64 0) Try.underlying27 hi30 hz30 .i64 .i64 m m (by omega) (Int.le_refl _) (by rw [hb30]; omega) (by omega)
  simp only [Int.toNat_natCast, hy30, Nat.mul_one] at hr
  exact hr

/-- The two rows that make has laid. -/
theorem two_rows (w : World) (m : Nat) : Row (((w.alloc (.cells (madeCells #[.float .f64 0] m) 30)).alloc (.cells (madeCells #[.float .f64 0] m) 30)).drew) w.heap.size m 30 (fun _ => .float .f64 0) ∧
    Row (((w.alloc (.cells (madeCells #[.float .f64 0] m) 30)).alloc (.cells (madeCells #[.float .f64 0] m) 30)).drew) (w.heap.size + 1) m 30 (fun _ => .float .f64 0) ∧
    Below w.heap.size w (((w.alloc (.cells (madeCells #[.float .f64 0] m) 30)).alloc (.cells (madeCells #[.float .f64 0] m) 30)).drew) := by
  refine ⟨((row_made w (.float .f64 0) m m 30 (Nat.le_refl _)).alloc _).drew, ?_, (((Below.refl _ _).alloc (Nat.le_refl _) _).alloc (by simp) _).drew⟩
  have := row_made (w.alloc (.cells (madeCells #[.float .f64 0] m) 30)) (.float .f64 0) m m 30 (Nat.le_refl _)
  rw [World.size_alloc] at this
  exact this.drew

theorem bv_start {w0 w W : World} {B S bl gv gs m : Nat} {l : Ly} {lv sv : Value} (rc : Rec w S l.width l.block l.spacing l.regr l.slots lv sv) (loc : w.heap[bl]? = some (.cells l.cells 36 (0, 0))) (bel : Below B w0 w) (oS : S < B) (ol : B ≤ bl)
    (hb : Below w.heap.size w W) (rv : Row W gv m 30 (fun _ => .float .f64 0)) (rs : Row W gs m 30 (fun _ => .float .f64 0)) (ev : w.heap.size ≤ gv) (es : w.heap.size ≤ gs) (vs : gv ≠ gs) : BV w0 W B S bl gv gs m l lv sv (fun _ => 0) (fun _ => 0) := by
  have hl := lt_of_block loc
  exact ⟨rc.below hb (by omega), by rw [hb.block bl hl]; exact loc, rv, rs, bel.trans (hb.mono (by omega)), oS, ol, by omega, by omega, vs⟩

theorem in_block {width block regr : Int} {sp Q f k : Nat} (hQ : block * (sp : Int) = (Q : Int)) (hw : width ≤ block) (hr : regr ≤ (sp : Int)) (hf : (f : Int) < width) (hk : (k : Int) < regr) : k < sp ∧ f * sp + k < Q := by
  refine ⟨by omega, ?_⟩
  have h1 : ((f : Int) + 1) * (sp : Int) ≤ block * (sp : Int) := Int.mul_le_mul_of_nonneg_right (by omega) (by omega)
  rw [hQ, Int.add_mul, Int.one_mul] at h1
  have h2 : ((f * sp : Nat) : Int) = (f : Int) * (sp : Int) := Int.natCast_mul f sp
  omega
theorem in_slots {B R Q m x : Nat} (hB : B < R) (hR : (R : Int) * (Q : Int) ≤ (m : Int)) (hx : x < Q) : B * Q + x < m := by
  have h1 : (B + 1) * Q ≤ R * Q := Nat.mul_le_mul_right Q hB
  rw [Nat.add_mul, Nat.one_mul] at h1
  have h2 : ((R * Q : Nat) : Int) = (R : Int) * (Q : Int) := Int.natCast_mul R Q
  omega
theorem wrap_i64_small {x : Int} (h0 : 0 ≤ x) (h1 : x ≤ 1073741824) : IntKind.i64.wrap x = x := by rw [IntKind.wrap_i64]; omega

set_option maxHeartbeats 4000000 in
set_option maxRecDepth 1000000 in
theorem blockValues (S : Nat) (width block regr i : Int) (sp m Q R F : Nat) (la sa : Option Addr) (len cap len' cap' : Nat) (A A' : Nat → Option Addr) (L C Bk Ok L' C' Bk' Ok' : Nat → Nat) (LF SF : Nat → Nat → Nat) (w : World)
    (hrec : Rec w S width block sp regr m (.slice la len cap) (.slice sa len' cap')) (hS : S < w.heap.size)
    (hM : Mat w la len A L C Bk Ok LF) (hM' : Mat w sa len' A' L' C' Bk' Ok' SF) (hle : len ≤ len') (hto : rowsTo width L L' len) (hlen : len ≤ 1048576)
    (hP : LayoutP width block sp regr m i Q R) (hF : i * (R : Int) = (F : Int)) (hF1 : F ≤ 1073741824) :
    Calls Try.prog 15 #[.pointer (some ⟨S, 0, none⟩), .int .i64 i] w fun e w' =>
      BVEnd m (Slot.vals width regr Q sp F LF (min (F + R) len - F) 0 0) (Slot.stps width regr Q sp F R SF (min (F + R) len - F) 0 0) w w' e := by
  have hb1 := hP.b1; have hb2 := hP.b2; have hs1 := hP.s1; have hs2 := hP.s2; have hwb := hP.wb; have hrs := hP.rs; have hl1 := hP.l1; have hq1 := hP.q1; have hq2 := hP.q2
  have HQ : Hid (block * (sp : Int) = (Q : Int)) := hP.q
  have HR : Hid ((m : Int) / (Q : Int) = (R : Int)) := hP.r
  have HRQ : Hid ((R : Int) * (Q : Int) ≤ (m : Int)) := hP.r1
  have hR1 : (R : Int) ≤ 65536 := by
    have h1 := hP.r1
    have h2 : (R : Int) * 1 ≤ (R : Int) * (Q : Int) := Int.mul_le_mul_of_nonneg_left hq1 (by omega)
    omega
  have HF : Hid (i * (R : Int) = (F : Int)) := hF
  have HM : Hid (Mat w la len A L C Bk Ok LF) := hM
  have HM' : Hid (Mat w sa len' A' L' C' Bk' Ok' SF) := hM'
  have HT : Hid (rowsTo width L L' len) := hto
  have HC : Hid (Rec w S width block sp regr m (.slice la len cap) (.slice sa len' cap')) := hrec
  have HS : Hid (S < w.heap.size) := hS
  clear hP hF hM hM' hto hrec hS
  obtain ⟨i30, hi30, hz30, hy30, hb30⟩ := info_parts Try.info30
  go_enter Try.func15, Try.ntmps15
  go_wp2_with fail
  refine (rowsOf S width block sp regr m Q R i F la len cap (.slice sa len' cap') w HC.out HS.out HQ.out hq1 hq2 (by omega) hl1 HR.out (by omega) hR1 HF.out (by omega) (by omega) hlen).mono ?_
  rintro e w1 ⟨rfl, hbel1⟩
  have hrec1 := HC.out.below hbel1 HS.out
  have HC1 : Hid (Rec w1 S width block sp regr m (.slice la len cap) (.slice sa len' cap')) := hrec1
  have HB1 : Hid (Below w.heap.size w w1) := hbel1
  obtain ⟨c0, c1, c2, c3, c4, c5, c13, c14⟩ := hrec1
  clear hbel1
  go_wp2_with fail
  have eE : min ((F : Int) + (R : Int)) (len : Int) = ((min (F + R) len : Nat) : Int) := by omega
  rw [eE]
  clear eE
  obtain ⟨E, hE⟩ : ∃ E, min (F + R) len = E := ⟨_, rfl⟩
  have HE : Hid (min (F + R) len = E) := hE
  have hE1 : E ≤ F + R := by omega
  have hE2 : E ≤ len := by omega
  rw [hE]
  clear hE
  obtain ⟨w2, hw2⟩ : ∃ w2, w1.alloc (Obj.cells #[Value.int IntKind.i64 width, Value.int IntKind.i64 block, Value.int IntKind.i64 (sp : Int), Value.int IntKind.i64 regr, Value.int IntKind.i64 (m : Int), Value.bool true] 36) = w2 := ⟨_, rfl⟩
  obtain ⟨bl, hbl⟩ : ∃ bl, w1.heap.size = bl := ⟨_, rfl⟩
  have hloc : w2.heap[bl]? = some (.cells (Ly.cells ⟨width, block, sp, regr, m⟩) 36 (0, 0)) := by rw [← hw2, ← hbl]; exact heap_alloc_new w1 _
  have hb2 : Below w1.heap.size w1 w2 := by rw [← hw2]; exact (Below.refl _ _).alloc (Nat.le_refl _) _
  have hBl : w.heap.size ≤ bl := by rw [← hbl]; exact HB1.out.size
  have hrc2 : Rec w2 S width block sp regr m (.slice la len cap) (.slice sa len' cap') := HC1.out.below hb2 (Nat.lt_of_lt_of_le HS.out HB1.out.size)
  have hB2 : Below w.heap.size w w2 := HB1.out.trans (hb2.mono HB1.out.size)
  rw [hw2, hbl]
  clear c0 c1 c2 c3 c4 c5 c13 c14 hw2 hbl hb2 HB1 HC1 HC
  have hc4 : w2.cell? ⟨bl, 4, none⟩ = some (.int .i64 (m : Int)) := by rw [cell_of_row w2 bl 4 _ 36 (0, 0) hloc]; rfl
  have start : ∀ W gv gs, Below w2.heap.size w2 W → Row W gv m 30 (fun _ => .float .f64 0) → Row W gs m 30 (fun _ => .float .f64 0) → w2.heap.size ≤ gv → w2.heap.size ≤ gs → gv ≠ gs → BV w W w.heap.size S bl gv gs m ⟨width, block, sp, regr, m⟩ (.slice la len cap) (.slice sa len' cap') (fun _ => 0) (fun _ => 0) := fun W gv gs h1 h2 h3 h4 h5 h6 =>
    bv_start (l := ⟨width, block, sp, regr, m⟩) hrc2 hloc hB2 HS.out hBl h1 h2 h3 h4 h5 h6
  have HST : Hid (∀ W gv gs, Below w2.heap.size w2 W → Row W gv m 30 (fun _ => .float .f64 0) → Row W gs m 30 (fun _ => .float .f64 0) → w2.heap.size ≤ gv → w2.heap.size ≤ gs → gv ≠ gs → BV w W w.heap.size S bl gv gs m ⟨width, block, sp, regr, m⟩ (.slice la len cap) (.slice sa len' cap') (fun _ => 0) (fun _ => 0)) := start
  clear start hloc hrc2 hB2 hBl
  go_cut [4, 5] (fun s4 s5 wx => ∃ gv gs, s4 = .slice (some ⟨gv, 0, none⟩) m m ∧ s5 = .slice (some ⟨gs, 0, none⟩) m m ∧ BV w wx w.heap.size S bl gv gs m ⟨width, block, sp, regr, m⟩ (.slice la len cap) (.slice sa len' cap') (fun _ => 0) (fun _ => 0))
  case first =>
    have hmk := make_run m hl1
    have hc4' : ∀ o, (w2.alloc o).cell? ⟨bl, 4, none⟩ = some (.int .i64 (m : Int)) := fun o => cell_later ((Below.refl _ _).alloc (Nat.le_refl _) o) hc4
    have hc4'' : ∀ o o', ((w2.alloc o).alloc o').cell? ⟨bl, 4, none⟩ = some (.int .i64 (m : Int)) := fun o o' => cell_later ((Below.refl _ _).alloc (Nat.le_refl _) o') (hc4' o)
    go_region
    all_goals
      go_wp2_with fail
      go_meet
    · obtain ⟨r1, r2, b3⟩ := two_rows w2 m
      exact ⟨_, _, rfl, rfl, HST.out _ _ _ b3 r1 r2 (by omega) (by omega) (by omega)⟩
    · obtain ⟨r1, r2, b3⟩ := two_rows w2 m
      exact ⟨_, _, rfl, rfl, HST.out _ _ _ b3 r2 r1 (by omega) (by omega) (by omega)⟩
  case rest =>
    clear hc4 HST
    obtain ⟨gv, gs, rfl, rfl, hbv⟩ := hcut
    go_wp2_with fail
    go_loopw [9] (fun rw_ wr => ∃ B : Nat, (B = 0 ∨ F + B ≤ E) ∧ rw_ = .int .i64 ((F + B : Nat) : Int) ∧ BV w wr w.heap.size S bl gv gs m ⟨width, block, sp, regr, m⟩ (.slice la len cap) (.slice sa len' cap') (Slot.vals width regr Q sp F LF B 0 0) (Slot.stps width regr Q sp F R SF B 0 0)) (fun rw_ _ => E - (intOf rw_).toNat)
    case atStart => exact ⟨0, .inl rfl, rfl, by rw [Slot.vals_zero, Slot.stps_zero]; exact hbv⟩
    case round =>
      clear hbv
      obtain ⟨B, hBE, rfl, hbv⟩ := hrel
      by_cases hlt : F + B < E
      · have HV : Hid (BV w wr w.heap.size S bl gv gs m ⟨width, block, sp, regr, m⟩ (.slice la len cap) (.slice sa len' cap') (Slot.vals width regr Q sp F LF B 0 0) (Slot.stps width regr Q sp F R SF B 0 0)) := hbv
        clear hbv
        obtain ⟨row, hrow⟩ : ∃ row, F + B = row := ⟨_, rfl⟩
        rw [hrow]
        have HRow : Hid (F + B = row) := hrow
        have hr1 : row < E := by omega
        have hr2 : F ≤ row := by omega
        clear hrow hBE hlt
        have hBR : B < R := by have := HRow.out; omega
        have hBR' : (B : Int) < (R : Int) := by omega
        go_wp2_with fail
        go_cut [10, 11] (fun s10 s11 wx => s10 = .int .i64 (B : Int) ∧ s11 = .int .i64 (Slot.bef R B : Int) ∧ BV w wx w.heap.size S bl gv gs m ⟨width, block, sp, regr, m⟩ (.slice la len cap) (.slice sa len' cap') (Slot.vals width regr Q sp F LF B 0 0) (Slot.stps width regr Q sp F R SF B 0 0))
        case first =>
          have hsub : (row : Int) - (F : Int) = (B : Int) := by have := HRow.out; omega
          have hbm := Slot.bef_mod hBR
          obtain ⟨P, hP⟩ : ∃ P, Slot.bef R B = P := ⟨_, rfl⟩
          rw [hP] at hbm
          have HP : Hid (Slot.bef R B = P) := hP
          have hPR : P < R := by rw [← hP]; exact Slot.bef_lt hBR
          have x1 : IntKind.i64.wrap ((B : Int) + (R : Int)) = (B : Int) + (R : Int) := by rw [IntKind.wrap_i64]; omega
          have x2 : IntKind.i64.wrap ((B : Int) + (R : Int) - 1) = (B : Int) + (R : Int) - 1 := by rw [IntKind.wrap_i64]; omega
          have x3 : ((B : Int) + (R : Int) - 1).tmod (R : Int) = (P : Int) := by rw [Int.tmod_eq_emod_of_nonneg (by omega)]; exact hbm
          have x4 : IntKind.i64.wrap (P : Int) = (P : Int) := by rw [IntKind.wrap_i64]; omega
          have x5 : ((R : Int) == 0) = false := by simp; omega
          have x6 : ¬ R = 0 := by omega
          have x7 : ¬ (R : Int) = 0 := by omega
          have x8 : IntKind.i64.wrap (B : Int) = (B : Int) := by rw [IntKind.wrap_i64]; omega
          obtain ⟨c0, c1, c2, c3, c4, c5⟩ := HV.out.lc
          have HA : Hid (BV w wr w.heap.size S bl gv gs m ⟨width, block, sp, regr, m⟩ (.slice la len cap) (.slice sa len' cap') (Slot.vals width regr Q sp F LF B 0 0) (Slot.stps width regr Q sp F R SF B 0 0)) := HV.out
          clear hP
          go_region_held3 (fun w' => w'.cell? ⟨bl, 0, none⟩ = some (.int .i64 width) ∧ w'.cell? ⟨bl, 1, none⟩ = some (.int .i64 block) ∧ w'.cell? ⟨bl, 2, none⟩ = some (.int .i64 (sp : Int)) ∧ w'.cell? ⟨bl, 3, none⟩ = some (.int .i64 regr) ∧ w'.cell? ⟨bl, 4, none⟩ = some (.int .i64 (m : Int)) ∧ w'.cell? ⟨bl, 5, none⟩ = some (.bool true)) (go_keep)
            ((go_at_call 17; refine (rows width block sp regr m Q R _ HQ.out hq1 hq2 (by omega) hl1 HR.out (by omega) hR1).mono ?_; rintro e wn ⟨rfl, hbn⟩; have HA : Hid (BV w wn w.heap.size S bl gv gs m ⟨width, block, sp, regr, m⟩ (.slice la len cap) (.slice sa len' cap') (Slot.vals width regr Q sp F LF B 0 0) (Slot.stps width regr Q sp F R SF B 0 0)) := HA.out.later hbn rfl rfl rfl rfl; obtain ⟨d0, d1, d2, d3, d4, d5⟩ := HA.out.lc; clear hbn))
          go_wp2_with fail
          go_meet
          exact ⟨rfl, by rw [HP.out], HA.out⟩
        case rest =>
          obtain ⟨rfl, rfl, hbv⟩ := hcut
          obtain ⟨lb, lo, hla, hcl⟩ := HM.out.at_ (by omega)
          obtain ⟨lb', lo', hla', hcl'⟩ := HM'.out.at_ (by omega)
          have hrl := hcl row (by omega)
          have hrs' := hcl' row (by omega)
          have HRL : Hid (w.cell? ⟨lb, lo + row, none⟩ = some (.slice (A row) (L row) (C row))) := hrl
          have HRS : Hid (w.cell? ⟨lb', lo' + row, none⟩ = some (.slice (A' row) (L' row) (C' row))) := hrs'
          have hlb : lb < w.heap.size := World.block_lt_of_cell? w _ hrl
          have hlb' : lb' < w.heap.size := World.block_lt_of_cell? w _ hrs'
          have hwl := HT.out row (by omega)
          have hwl1 := hwl.1
          have hwl2 := hwl.2
          have hll := HM.out.ll row (by omega)
          have hll' := HM'.out.ll row (by omega)
          subst hla
          subst hla'
          clear hcl hcl' hrl hrs' hwl HV
          have c0 := hbv.lc.1
          go_wp2_with fail
          clear c0
          go_loopw [51] (fun fc wr => ∃ f : Nat, (f = 0 ∨ (f : Int) ≤ width) ∧ fc = .int .i64 (f : Int) ∧ BV w wr w.heap.size S bl gv gs m ⟨width, block, sp, regr, m⟩ (.slice (some ⟨lb, lo, none⟩) len cap) (.slice (some ⟨lb', lo', none⟩) len' cap') (Slot.vals width regr Q sp F LF B f 0) (Slot.stps width regr Q sp F R SF B f 0)) (fun fc _ => (width - intOf fc).toNat)
          case atStart => exact ⟨0, .inl rfl, rfl, hbv⟩
          case round =>
            clear hbv
            obtain ⟨f, hf0, rfl, hbv⟩ := hrel
            by_cases hfw : (f : Int) < width
            · have c3 := hbv.lc.2.2.2.1
              obtain ⟨hA1, hA2⟩ := HM.out.row row (by omega) (by omega)
              obtain ⟨hA1', hA2'⟩ := HM'.out.row row (by omega) (by omega)
              have hel := hA2 f (by omega)
              have hel' := hA2' f (by omega)
              have HEL : Hid (w.cell? ⟨Bk row, Ok row + f, none⟩ = some (.float .f64 (LF row f))) := hel
              have HEL' : Hid (w.cell? ⟨Bk' row, Ok' row + f, none⟩ = some (.float .f64 (SF row f))) := hel'
              have hbk : Bk row < w.heap.size := World.block_lt_of_cell? w _ hel
              have hbk' : Bk' row < w.heap.size := World.block_lt_of_cell? w _ hel'
              have HA1 : Hid (A row = some ⟨Bk row, Ok row, none⟩) := hA1
              have HA1' : Hid (A' row = some ⟨Bk' row, Ok' row, none⟩) := hA1'
              clear hA1 hA2 hA1' hA2' hel hel'
              go_wp2_with fail
              clear c3
              go_loopw [56] (fun kc wr => ∃ k : Nat, (k = 0 ∨ (k : Int) ≤ regr) ∧ kc = .int .i64 (k : Int) ∧ BV w wr w.heap.size S bl gv gs m ⟨width, block, sp, regr, m⟩ (.slice (some ⟨lb, lo, none⟩) len cap) (.slice (some ⟨lb', lo', none⟩) len' cap') (Slot.vals width regr Q sp F LF B f k) (Slot.stps width regr Q sp F R SF B f k)) (fun kc _ => (regr - intOf kc).toNat)
              case atStart => exact ⟨0, .inl rfl, rfl, hbv⟩
              case round =>
                clear hbv
                obtain ⟨k, hk0, rfl, hbv⟩ := hrel
                by_cases hkr : (k : Int) < regr
                · have HV : Hid (BV w wr w.heap.size S bl gv gs m ⟨width, block, sp, regr, m⟩ (.slice (some ⟨lb, lo, none⟩) len cap) (.slice (some ⟨lb', lo', none⟩) len' cap') (Slot.vals width regr Q sp F LF B f k) (Slot.stps width regr Q sp F R SF B f k)) := hbv
                  clear hbv
                  obtain ⟨hks, hfk⟩ := in_block HQ.out hwb hrs hfw hkr
                  have hin := in_slots hBR HRQ.out hfk
                  have hvk := Slot.vals_k (LF := LF) (first := F) (B := B) hfw hkr hks hfk
                  obtain ⟨X, hX⟩ : ∃ X, B * Q = X := ⟨_, rfl⟩
                  obtain ⟨Y, hY⟩ : ∃ Y, f * sp = Y := ⟨_, rfl⟩
                  rw [hX, hY] at hvk
                  rw [hX, hY] at hin
                  have hX' : (B : Int) * (Q : Int) = (X : Int) := by rw [← hX, Int.natCast_mul]
                  have hY' : (f : Int) * (sp : Int) = (Y : Int) := by rw [← hY, Int.natCast_mul]
                  rw [show F + B = row from HRow.out] at hvk
                  have HVK : Hid (Slot.up (Slot.vals width regr Q sp F LF B f k) (X + Y + k) (LF row f) = Slot.vals width regr Q sp F LF B f (k + 1)) := hvk
                  clear hvk hX hY
                  have y1 : IntKind.i64.wrap (X : Int) = (X : Int) := wrap_i64_small (by omega) (by omega)
                  have y2 : IntKind.i64.wrap (Y : Int) = (Y : Int) := wrap_i64_small (by omega) (by omega)
                  have y3 : IntKind.i64.wrap ((X : Int) + (Y : Int)) = (X : Int) + (Y : Int) := wrap_i64_small (by omega) (by omega)
                  have y4 : IntKind.i64.wrap ((X : Int) + (Y : Int) + (k : Int)) = (X : Int) + (Y : Int) + (k : Int) := wrap_i64_small (by omega) (by omega)
                  have z1 : (X : Int) + (Y : Int) + (k : Int) < (m : Int) := by omega
                  have z2 : (0 : Int) ≤ (X : Int) + (Y : Int) + (k : Int) := by omega
                  have z7 : ((X : Int) + (Y : Int) + (k : Int)).toNat = X + Y + k := by omega
                  have z3 : (row : Int) < (len : Int) := by omega
                  have z4 : (0 : Int) ≤ (row : Int) := by omega
                  have z5 : (f : Int) < (L row : Int) := by omega
                  have z6 : (0 : Int) ≤ (f : Int) := by omega
                  have n1 : ¬ gv = bl := HV.out.rv.ne_one HV.out.loc (by decide)
                  have n2 : ¬ gv = S := by have := HV.out.oS; have := HV.out.ov; omega
                  have n3 : ¬ gv = lb := by have := HV.out.ov; omega
                  have n4 : ¬ gv = Bk row := by have := HV.out.ov; omega
                  obtain ⟨c0, c1, c2, c3, c4, c5⟩ := HV.out.lc
                  have c13 := HV.out.rc.c13
                  have cr : wr.cell? ⟨lb, lo + row, none⟩ = some (.slice (some ⟨Bk row, Ok row, none⟩) (L row) (C row)) := by rw [← HA1.out]; exact (HV.out.bel.cell (by exact hlb)).trans HRL.out
                  have ce : wr.cell? ⟨Bk row, Ok row + f, none⟩ = some (.float .f64 (LF row f)) := (HV.out.bel.cell (by exact hbk)).trans HEL.out
                  have HA : Hid (BV w wr w.heap.size S bl gv gs m ⟨width, block, sp, regr, m⟩ (.slice (some ⟨lb, lo, none⟩) len cap) (.slice (some ⟨lb', lo', none⟩) len' cap') (Slot.vals width regr Q sp F LF B f k) (Slot.stps width regr Q sp F R SF B f k)) := HV.out
                  go_wp2_with fail
                  go_region_held3 (fun w' => w'.cell? ⟨bl, 0, none⟩ = some (.int .i64 width) ∧ w'.cell? ⟨bl, 1, none⟩ = some (.int .i64 block) ∧ w'.cell? ⟨bl, 2, none⟩ = some (.int .i64 (sp : Int)) ∧ w'.cell? ⟨bl, 3, none⟩ = some (.int .i64 regr) ∧ w'.cell? ⟨bl, 4, none⟩ = some (.int .i64 (m : Int)) ∧ w'.cell? ⟨bl, 5, none⟩ = some (.bool true) ∧ w'.cell? ⟨S, 13, none⟩ = some (.slice (some ⟨lb, lo, none⟩) len cap) ∧ w'.cell? ⟨lb, lo + row, none⟩ = some (.slice (some ⟨Bk row, Ok row, none⟩) (L row) (C row)) ∧ w'.cell? ⟨Bk row, Ok row + f, none⟩ = some (.float .f64 (LF row f))) (go_keep)
                    ((go_at_call 18; refine (stride width block sp regr m Q true _ HQ.out hq1 hq2).mono ?_; rintro e wn ⟨rfl, hbn⟩; have HA : Hid (BV w wn w.heap.size S bl gv gs m ⟨width, block, sp, regr, m⟩ (.slice (some ⟨lb, lo, none⟩) len cap) (.slice (some ⟨lb', lo', none⟩) len' cap') (Slot.vals width regr Q sp F LF B f k) (Slot.stps width regr Q sp F R SF B f k)) := HA.out.later hbn rfl rfl rfl rfl; obtain ⟨d0, d1, d2, d3, d4, d5⟩ := HA.out.lc; have d13 := HA.out.rc.c13; have dr : wn.cell? ⟨lb, lo + row, none⟩ = some (.slice (some ⟨Bk row, Ok row, none⟩) (L row) (C row)) := (by rw [← HA1.out]; exact (HA.out.bel.cell (by exact hlb)).trans HRL.out); have de : wn.cell? ⟨Bk row, Ok row + f, none⟩ = some (.float .f64 (LF row f)) := (HA.out.bel.cell (by exact hbk)).trans HEL.out; have dv := HA.out.rv.cell (X + Y + k) (by omega); have fv := HA.out.rv.free (X + Y + k); clear hbn))
                  obtain ⟨wa, hwa⟩ : ∃ wa, wn.setCell ⟨gv, X + Y + k, none⟩ (.float .f64 (LF row f)) = wa := ⟨_, rfl⟩
                  have HV2 : Hid (BV w wa w.heap.size S bl gv gs m ⟨width, block, sp, regr, m⟩ (.slice (some ⟨lb, lo, none⟩) len cap) (.slice (some ⟨lb', lo', none⟩) len' cap') (Slot.vals width regr Q sp F LF B f (k + 1)) (Slot.stps width regr Q sp F R SF B f k)) := by rw [← hwa, ← HVK.out]; exact HA.out.setV (X + Y + k) (LF row f)
                  rw [hwa]
                  clear hwa HA HV HVK c0 c1 c2 c3 c4 c5 c13 cr ce d0 d1 d2 d3 d4 d5 d13 dr de dv fv y1 y3 y4 z1 z2 z7 hX' n1 n2 n3 n4 hin
                  have hPR := Slot.bef_lt hBR
                  have hin := in_slots hPR HRQ.out hfk
                  have hvk := Slot.stps_k (SF := SF) (first := F) hfw hkr hks hfk hBR
                  obtain ⟨P, hP⟩ : ∃ P, Slot.bef R B = P := ⟨_, rfl⟩
                  rw [hP] at hin hvk hPR
                  obtain ⟨X, hX⟩ : ∃ X, P * Q = X := ⟨_, rfl⟩
                  have hY : f * sp = Y := by have h2 := Int.natCast_mul f sp; omega
                  rw [hX, hY] at hvk
                  rw [hX, hY] at hin
                  have hX' : (P : Int) * (Q : Int) = (X : Int) := by rw [← hX, Int.natCast_mul]
                  rw [show F + B = row from HRow.out] at hvk
                  have HVK : Hid (Slot.up (Slot.stps width regr Q sp F R SF B f k) (X + Y + k) (SF row f) = Slot.stps width regr Q sp F R SF B f (k + 1)) := hvk
                  have HP : Hid (Slot.bef R B = P) := hP
                  rw [hP]
                  clear hvk hX hY hP
                  have y1 : IntKind.i64.wrap (X : Int) = (X : Int) := wrap_i64_small (by omega) (by omega)
                  have y3 : IntKind.i64.wrap ((X : Int) + (Y : Int)) = (X : Int) + (Y : Int) := wrap_i64_small (by omega) (by omega)
                  have y4 : IntKind.i64.wrap ((X : Int) + (Y : Int) + (k : Int)) = (X : Int) + (Y : Int) + (k : Int) := wrap_i64_small (by omega) (by omega)
                  have z1 : (X : Int) + (Y : Int) + (k : Int) < (m : Int) := by omega
                  have z2 : (0 : Int) ≤ (X : Int) + (Y : Int) + (k : Int) := by omega
                  have z7 : ((X : Int) + (Y : Int) + (k : Int)).toNat = X + Y + k := by omega
                  have z8 : (row : Int) < (len' : Int) := by omega
                  have z9 : (f : Int) < (L' row : Int) := by omega
                  have n1 : ¬ gs = bl := HV2.out.rs.ne_one HV2.out.loc (by decide)
                  have n2 : ¬ gs = S := by have := HV2.out.oS; have := HV2.out.os; omega
                  have n3 : ¬ gs = lb' := by have := HV2.out.os; omega
                  have n4 : ¬ gs = Bk' row := by have := HV2.out.os; omega
                  obtain ⟨c0, c1, c2, c3, c4, c5⟩ := HV2.out.lc
                  have c14 := HV2.out.rc.c14
                  have cr : wa.cell? ⟨lb', lo' + row, none⟩ = some (.slice (some ⟨Bk' row, Ok' row, none⟩) (L' row) (C' row)) := by rw [← HA1'.out]; exact (HV2.out.bel.cell (by exact hlb')).trans HRS.out
                  have ce : wa.cell? ⟨Bk' row, Ok' row + f, none⟩ = some (.float .f64 (SF row f)) := (HV2.out.bel.cell (by exact hbk')).trans HEL'.out
                  have HA : Hid (BV w wa w.heap.size S bl gv gs m ⟨width, block, sp, regr, m⟩ (.slice (some ⟨lb, lo, none⟩) len cap) (.slice (some ⟨lb', lo', none⟩) len' cap') (Slot.vals width regr Q sp F LF B f (k + 1)) (Slot.stps width regr Q sp F R SF B f k)) := HV2.out
                  go_wp2_with fail
                  go_region_held3 (fun w' => w'.cell? ⟨bl, 0, none⟩ = some (.int .i64 width) ∧ w'.cell? ⟨bl, 1, none⟩ = some (.int .i64 block) ∧ w'.cell? ⟨bl, 2, none⟩ = some (.int .i64 (sp : Int)) ∧ w'.cell? ⟨bl, 3, none⟩ = some (.int .i64 regr) ∧ w'.cell? ⟨bl, 4, none⟩ = some (.int .i64 (m : Int)) ∧ w'.cell? ⟨bl, 5, none⟩ = some (.bool true) ∧ w'.cell? ⟨S, 14, none⟩ = some (.slice (some ⟨lb', lo', none⟩) len' cap') ∧ w'.cell? ⟨lb', lo' + row, none⟩ = some (.slice (some ⟨Bk' row, Ok' row, none⟩) (L' row) (C' row)) ∧ w'.cell? ⟨Bk' row, Ok' row + f, none⟩ = some (.float .f64 (SF row f))) (go_keep)
                    ((go_at_call 18; refine (stride width block sp regr m Q true _ HQ.out hq1 hq2).mono ?_; rintro e wn ⟨rfl, hbn⟩; have HA : Hid (BV w wn w.heap.size S bl gv gs m ⟨width, block, sp, regr, m⟩ (.slice (some ⟨lb, lo, none⟩) len cap) (.slice (some ⟨lb', lo', none⟩) len' cap') (Slot.vals width regr Q sp F LF B f (k + 1)) (Slot.stps width regr Q sp F R SF B f k)) := HA.out.later hbn rfl rfl rfl rfl; obtain ⟨d0, d1, d2, d3, d4, d5⟩ := HA.out.lc; have d14 := HA.out.rc.c14; have dr : wn.cell? ⟨lb', lo' + row, none⟩ = some (.slice (some ⟨Bk' row, Ok' row, none⟩) (L' row) (C' row)) := (by rw [← HA1'.out]; exact (HA.out.bel.cell (by exact hlb')).trans HRS.out); have de : wn.cell? ⟨Bk' row, Ok' row + f, none⟩ = some (.float .f64 (SF row f)) := (HA.out.bel.cell (by exact hbk')).trans HEL'.out; have dv := HA.out.rs.cell (X + Y + k) (by omega); have fv := HA.out.rs.free (X + Y + k); clear hbn))
                  obtain ⟨wz, hwz⟩ : ∃ wz, wn.setCell ⟨gs, X + Y + k, none⟩ (.float .f64 (SF row f)) = wz := ⟨_, rfl⟩
                  have HV3 : Hid (BV w wz w.heap.size S bl gv gs m ⟨width, block, sp, regr, m⟩ (.slice (some ⟨lb, lo, none⟩) len cap) (.slice (some ⟨lb', lo', none⟩) len' cap') (Slot.vals width regr Q sp F LF B f (k + 1)) (Slot.stps width regr Q sp F R SF B f (k + 1))) := by rw [← hwz, ← HVK.out]; exact HA.out.setS (X + Y + k) (SF row f)
                  rw [hwz, ← HP.out]
                  clear hwz HA HV2 HVK c0 c1 c2 c3 c4 c5 c14 cr ce d0 d1 d2 d3 d4 d5 d14 dr de dv fv
                  go_wp2_with fail
                  go_roundw
                  case rel => exact ⟨k + 1, by omega, by go_num, HV3.out⟩
                  case measure => simp [intOf]; omega
                · have hkk : k = regr.toNat := by omega
                  rw [hkk, Slot.vals_f, Slot.stps_f] at hbv
                  have HV : Hid (BV w wr w.heap.size S bl gv gs m ⟨width, block, sp, regr, m⟩ (.slice (some ⟨lb, lo, none⟩) len cap) (.slice (some ⟨lb', lo', none⟩) len' cap') (Slot.vals width regr Q sp F LF B (f + 1) 0) (Slot.stps width regr Q sp F R SF B (f + 1) 0)) := hbv
                  clear hbv hkk
                  go_wp2
                  go_roundw
                  case rel => exact ⟨f + 1, by omega, by go_num, HV.out⟩
                  case measure => simp [intOf]; omega
            · have hff : f = width.toNat := by omega
              rw [hff, Slot.vals_b, Slot.stps_b] at hbv
              have HV : Hid (BV w wr w.heap.size S bl gv gs m ⟨width, block, sp, regr, m⟩ (.slice (some ⟨lb, lo, none⟩) len cap) (.slice (some ⟨lb', lo', none⟩) len' cap') (Slot.vals width regr Q sp F LF (B + 1) 0 0) (Slot.stps width regr Q sp F R SF (B + 1) 0 0)) := hbv
              clear hbv hff
              go_wp2
              go_roundw
              case rel => exact ⟨B + 1, by have := HRow.out; omega, by rw [← HRow.out]; go_num, HV.out⟩
              case measure => have := HRow.out; simp [intOf]; omega
      · have hBB : B = min (F + R) len - F := by have := HE.out; omega
        rw [hBB] at hbv
        have HEND : Hid (BVEnd m (Slot.vals width regr Q sp F LF (min (F + R) len - F) 0 0) (Slot.stps width regr Q sp F R SF (min (F + R) len - F) 0 0) w wr (.returned (.tuple #[.slice (some ⟨gv, 0, none⟩) m m, .slice (some ⟨gs, 0, none⟩) m m]))) := ⟨gv, gs, rfl, hbv.rv, hbv.rs, hbv.bel⟩
        clear hbv hBB
        go_wp2
        go_ret2
        exact HEND.out
end Go.Proofs.Qxb6606418a

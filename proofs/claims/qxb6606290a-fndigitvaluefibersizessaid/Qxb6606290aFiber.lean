/- FnDigitValueFiberSizes (5). -/
import Derived.Test.Qxb6606290aDigit
import Derived.Test.Qxb6606290aMem
import Derived.WalkKit
import Derived.Deep.Light
namespace Go.Proofs.Qxb6606290a
open Go.RowKit
set_option linter.unusedVariables false

/-- How many of the first k bytes have the answer v - 1. -/
def cnt : Nat → Nat → Nat
  | 0, _ => 0
  | k + 1, v => cnt k v + if dig k + 1 = (v : Int) then 1 else 0

theorem cnt_upd (k D : Nat) (h : dig k + 1 = (D : Int)) : upd (cnt k) D (cnt k D + 1) = cnt (k + 1) := by
  funext v
  simp only [cnt]
  by_cases e : v = D
  · subst e; rw [upd_same, if_pos h]
  · rw [upd_other _ _ _ _ e, if_neg (by omega)]; rfl

theorem cnt_le : ∀ k v, cnt k v ≤ k
  | 0, _ => Nat.le_refl _
  | k + 1, v => by
    have := cnt_le k v
    simp only [cnt]
    split <;> omega

theorem dig_range : ∀ c : Fin 256, -1 ≤ dig c ∧ dig c ≤ 15 := by decide +kernel
theorem cnt_0 : cnt 256 0 = 234 := by decide +kernel
theorem cnt_1 : ∀ v : Fin 10, cnt 256 (v + 1) = 1 := by decide +kernel
theorem cnt_2 : ∀ v : Fin 6, cnt 256 (v + 11) = 2 := by decide +kernel

theorem grown_of {w w' : World} {cur : Array Value} {t : TypeId} (hb : Below w.heap.size w w') (hs : w'.heap.size = w.heap.size + 1) (hg : w'.heap[w.heap.size]? = some (.cells cur t (0, 0))) : Grown w w' := by
  refine ⟨hb.frame _, fun a => ?_, hb.size⟩
  rcases Nat.lt_trichotomy a.block w.heap.size with h | h | h
  · exact hb.frozen h
  · have e1 : w'.heap[a.block]? = some (.cells cur t (0, 0)) := by rw [h]; exact hg
    have e2 : w.heap[a.block]? = none := by rw [h]; simp
    simp [World.frozen?, e1, e2]
  · have e1 : w'.heap[a.block]? = none := Array.getElem?_eq_none (by omega)
    have e2 : w.heap[a.block]? = none := Array.getElem?_eq_none (by omega)
    simp [World.frozen?, e1, e2]

theorem row_grown {w w' : World} {n : Nat} {t : TypeId} {f : Nat → Value} (hr : Row w' w.heap.size n t f) (hb : Below w.heap.size w w') (hs : w'.heap.size = w.heap.size + 1) : Grown w w' := by
  obtain ⟨cur, hg, _⟩ := hr
  exact grown_of hb hs hg

theorem cells_upd {f : Nat → Nat} {j v : Nat} {k : IntKind} {u : Value} (hu : u = .int k (v : Int)) : upd (fun i => Value.int k (f i : Int)) j u = fun i => Value.int k ((upd f j v i : Nat) : Int) := by
  funext i
  by_cases h : i = j <;> simp [upd, h, hu]

theorem row_start (w : World) : Row (w.alloc (Obj.cells #[Value.int IntKind.i64 0, Value.int IntKind.i64 0, Value.int IntKind.i64 0, Value.int IntKind.i64 0, Value.int IntKind.i64 0, Value.int IntKind.i64 0, Value.int IntKind.i64 0, Value.int IntKind.i64 0, Value.int IntKind.i64 0, Value.int IntKind.i64 0, Value.int IntKind.i64 0, Value.int IntKind.i64 0, Value.int IntKind.i64 0, Value.int IntKind.i64 0, Value.int IntKind.i64 0, Value.int IntKind.i64 0, Value.int IntKind.i64 0] 25)) w.heap.size 17 25 (fun v => .int .i64 (cnt 0 v : Nat)) :=
  ⟨_, heap_alloc_new w _, by decide, fun i hi => by
    have : i = 0 ∨ i = 1 ∨ i = 2 ∨ i = 3 ∨ i = 4 ∨ i = 5 ∨ i = 6 ∨ i = 7 ∨ i = 8 ∨ i = 9 ∨ i = 10 ∨ i = 11 ∨ i = 12 ∨ i = 13 ∨ i = 14 ∨ i = 15 ∨ i = 16 := by omega
    rcases this with rfl | rfl | rfl | rfl | rfl | rfl | rfl | rfl | rfl | rfl | rfl | rfl | rfl | rfl | rfl | rfl | rfl <;> rfl⟩

set_option maxHeartbeats 1000000 in
set_option maxRecDepth 100000 in
theorem walk5_all (w : World) : Calls Try.prog 5 #[] w fun e w' => e = .returned (.bool true) ∧ Grown w w' := by
  go_enter Try.func5, Try.ntmps5
  go_wp2_with fail
  have hr0 := row_start w
  obtain ⟨w1, hw1⟩ : ∃ w1, w.alloc (Obj.cells #[Value.int IntKind.i64 0, Value.int IntKind.i64 0, Value.int IntKind.i64 0, Value.int IntKind.i64 0, Value.int IntKind.i64 0, Value.int IntKind.i64 0, Value.int IntKind.i64 0, Value.int IntKind.i64 0, Value.int IntKind.i64 0, Value.int IntKind.i64 0, Value.int IntKind.i64 0, Value.int IntKind.i64 0, Value.int IntKind.i64 0, Value.int IntKind.i64 0, Value.int IntKind.i64 0, Value.int IntKind.i64 0, Value.int IntKind.i64 0] 25) = w1 := ⟨_, rfl⟩
  have hb0 : Below w.heap.size w w1 := by rw [← hw1]; exact (Below.refl _ _).alloc (Nat.le_refl _) _
  have hs0 : w1.heap.size = w.heap.size + 1 := by rw [← hw1]; simp
  rw [hw1] at hr0
  rw [hw1]
  clear hw1
  go_loopw [2] (fun i wr => ∃ k : Nat, k ≤ 256 ∧ i = .int .i64 k ∧ Row wr w.heap.size 17 25 (fun v => .int .i64 (cnt k v : Nat)) ∧ Below w.heap.size w wr ∧ wr.heap.size = w.heap.size + 1) (fun i _ => 256 - (intOf i).toNat)
  case atStart => exact ⟨0, by omega, rfl, hr0, hb0, hs0⟩
  case round =>
    clear hr0 hb0 hs0
    obtain ⟨k, hk, rfl, hr, hb, hs⟩ := hrel
    by_cases hlt : k < 256
    · have hd := dig_range ⟨k, hlt⟩
      obtain ⟨D, hD⟩ : ∃ D : Nat, dig k = (D : Int) - 1 := ⟨(dig k + 1).toNat, by simp at hd; omega⟩
      have hD17 : D < 17 := by simp at hd; omega
      have hcl := cnt_le k D
      have hup := cnt_upd k D (by omega)
      have c1 := hr.cell D hD17
      have f1 := hr.free D
      have r1 := hr.set D (.int .i64 ((cnt k D : Int) + 1))
      rw [cells_upd (v := cnt k D + 1) (by rw [Int.natCast_add]; rfl), hup] at r1
      have b1 := hb.setCell (p := ⟨w.heap.size, D, none⟩) (Nat.le_refl _) (.int .i64 ((cnt k D : Int) + 1))
      have s1 : (wr.setCell ⟨w.heap.size, D, none⟩ (.int .i64 ((cnt k D : Int) + 1))).heap.size = w.heap.size + 1 := by simpa using hs
      have HX := And.intro r1 (And.intro b1 s1)
      have HH : Hid _ := HX
      have HD : Hid (dig k = (D : Int) - 1) := hD
      have hki : (k : Int) < 256 := by omega
      have g1 : (D : Int) < 17 := by omega
      have g2 : (0 : Int) ≤ (D : Int) := by omega
      clear hd hD hup hr hb hs r1 b1 s1 HX
      generalize cnt k D = x at *
      go_wp2_with fail
      refine (zzDigit k _ hlt).mono ?_
      rintro e w' ⟨rfl, rfl⟩
      rw [HD.out]
      go_wp2
      go_roundw
      case rel => exact ⟨k + 1, by omega, by go_num, HH.out⟩
      case measure => simp [intOf]; omega
    · obtain rfl : k = 256 := by omega
      have HG : Hid (Grown w wr) := row_grown hr hb hs
      have c0 := hr.cell 0 (by omega)
      rw [cnt_0] at c0
      have C1 : Hid (∀ v, 1 ≤ v → v ≤ 10 → wr.cell? ⟨w.heap.size, v, none⟩ = some (.int .i64 1)) := fun v h1 h2 => by
        rw [hr.cell v (by omega)]
        have := cnt_1 ⟨v - 1, by omega⟩
        simp only at this
        rw [show v - 1 + 1 = v by omega] at this
        rw [this]; rfl
      have C2 : Hid (∀ v, 11 ≤ v → v ≤ 16 → wr.cell? ⟨w.heap.size, v, none⟩ = some (.int .i64 2)) := fun v h1 h2 => by
        rw [hr.cell v (by omega)]
        have := cnt_2 ⟨v - 11, by omega⟩
        simp only at this
        rw [show v - 11 + 11 = v by omega] at this
        rw [this]; rfl
      clear hr hb hs
      go_wp2_with fail
      go_loop [4] (fun i => ∃ v : Nat, 1 ≤ v ∧ v ≤ 11 ∧ i = .int .i64 v) (fun i => 11 - (intOf i).toNat)
      case atStart => exact ⟨1, by omega, by omega, rfl⟩
      case round =>
        obtain ⟨v, hv1, hv2, rfl⟩ := hrel
        by_cases hv : v ≤ 10
        · have c1 := C1.out v hv1 hv
          have g1 : (v : Int) ≤ 10 := by omega
          go_wp2
          go_round
          case rel => exact ⟨v + 1, by omega, by omega, by go_num⟩
          case measure => simp [intOf]; omega
        · obtain rfl : v = 11 := by omega
          go_wp2_with fail
          go_loop [5] (fun i => ∃ v : Nat, 11 ≤ v ∧ v ≤ 17 ∧ i = .int .i64 v) (fun i => 17 - (intOf i).toNat)
          case atStart => exact ⟨11, by omega, by omega, rfl⟩
          case round =>
            obtain ⟨v, hv1, hv2, rfl⟩ := hrel
            by_cases hv : v ≤ 16
            · have c1 := C2.out v hv1 hv
              have g1 : (v : Int) ≤ 16 := by omega
              go_wp2
              go_round
              case rel => exact ⟨v + 1, by omega, by omega, by go_num⟩
              case measure => simp [intOf]; omega
            · obtain rfl : v = 17 := by omega
              go_wp2
              go_ret
              exact ⟨rfl, HG.out⟩
end Go.Proofs.Qxb6606290a

/- THE CLOSURE 'lightest' (function 18): the next leaf, or the next joined node. -/
import Derived.Test.Qxb6606286aSmall
import Derived.WalkKit
import Derived.BigQuiet
import Derived.Deep.QuietTactic
import Derived.Deep.Light
namespace Go.Proofs.Qxb6606286a
open Go.RowKit
set_option linter.unusedVariables false

/-- The world behind some draws and one store into a block of one cell. -/
def Put (w w' : World) (b : Nat) (v : Value) : Prop := ∃ q, w' = (w.drewN q).setCell ⟨b, 0, none⟩ v

section
variable (made leaf n joined : Nat) (bl bn bj bs S gw cw nodes : Nat) (x y : Int) (w : World)

set_option maxHeartbeats 1000000 in
set_option maxRecDepth 1000000 in
theorem pick_A
    (hbl : w.cell? ⟨bl, 0, none⟩ = some (.int .i64 leaf)) (hfl : w.frozen? ⟨bl, 0, none⟩ = false)
    (hbn : w.cell? ⟨bn, 0, none⟩ = some (.int .i64 n)) (hbj : w.cell? ⟨bj, 0, none⟩ = some (.int .i64 made))
    (hln : leaf < n) (hn : n ≤ 1048576) :
    Calls Try.prog 18 #[.int .i64 made, .pointer (some ⟨bl, 0, none⟩), .pointer (some ⟨bn, 0, none⟩), .pointer (some ⟨bj, 0, none⟩), .pointer (some ⟨bs, 0, none⟩)] w
      fun e w' => e = .returned (.int .i64 leaf) ∧ Put w w' bl (.int .i64 ((leaf : Int) + 1)) := by
  have h1 : (leaf : Int) < (n : Int) := by omega
  have h2 : ((made : Int) == (made : Int)) = true := by simp
  have hs := World.cell?_setCell_same w ⟨bl, 0, none⟩ (.int .i64 ((leaf : Int) + 1)) hbl
  go_enter Try.func18, Try.ntmps18
  go_wp2
  go_quiet (fail)
  go_wp2
  go_ret
  exact ⟨rfl, _, rfl⟩

set_option maxHeartbeats 1000000 in
set_option maxRecDepth 1000000 in
theorem pick_B
    (hbl : w.cell? ⟨bl, 0, none⟩ = some (.int .i64 leaf)) (hfl : w.frozen? ⟨bl, 0, none⟩ = false)
    (hbn : w.cell? ⟨bn, 0, none⟩ = some (.int .i64 n)) (hbj : w.cell? ⟨bj, 0, none⟩ = some (.int .i64 joined))
    (hbs : w.cell? ⟨bs, 0, none⟩ = some (.pointer (some ⟨S, 0, none⟩))) (hS : w.cell? ⟨S, 1, none⟩ = some (.slice (some ⟨gw, 0, none⟩) nodes cw))
    (hx : w.cell? ⟨gw, leaf, none⟩ = some (.int .u64 x)) (hy : w.cell? ⟨gw, joined, none⟩ = some (.int .u64 y))
    (hln : leaf < n) (hjm : joined < made) (hn : n ≤ 1048576) (hl2 : leaf < nodes) (hj2 : joined < nodes) (hnn : nodes ≤ 1048576) (hxy : x ≤ y) :
    Calls Try.prog 18 #[.int .i64 made, .pointer (some ⟨bl, 0, none⟩), .pointer (some ⟨bn, 0, none⟩), .pointer (some ⟨bj, 0, none⟩), .pointer (some ⟨bs, 0, none⟩)] w
      fun e w' => e = .returned (.int .i64 leaf) ∧ Put w w' bl (.int .i64 ((leaf : Int) + 1)) := by
  have h1 : (leaf : Int) < (n : Int) := by omega
  have h2 : ((joined : Int) == (made : Int)) = false := by simp; omega
  have h3 : (leaf : Int) < (nodes : Int) := by omega
  have h4 : (joined : Int) < (nodes : Int) := by omega
  have h5 : (0 : Int) ≤ (leaf : Int) := by omega
  have h6 : (0 : Int) ≤ (joined : Int) := by omega
  have hs := World.cell?_setCell_same w ⟨bl, 0, none⟩ (.int .i64 ((leaf : Int) + 1)) hbl
  go_enter Try.func18, Try.ntmps18
  go_wp2
  go_quiet (fail)
  go_wp2
  go_ret
  exact ⟨rfl, _, rfl⟩

set_option maxHeartbeats 1000000 in
set_option maxRecDepth 1000000 in
theorem pick_C
    (hbl : w.cell? ⟨bl, 0, none⟩ = some (.int .i64 leaf))
    (hbn : w.cell? ⟨bn, 0, none⟩ = some (.int .i64 n)) (hbj : w.cell? ⟨bj, 0, none⟩ = some (.int .i64 joined)) (hfj : w.frozen? ⟨bj, 0, none⟩ = false)
    (hbs : w.cell? ⟨bs, 0, none⟩ = some (.pointer (some ⟨S, 0, none⟩))) (hS : w.cell? ⟨S, 1, none⟩ = some (.slice (some ⟨gw, 0, none⟩) nodes cw))
    (hx : w.cell? ⟨gw, leaf, none⟩ = some (.int .u64 x)) (hy : w.cell? ⟨gw, joined, none⟩ = some (.int .u64 y))
    (hln : leaf < n) (hjm : joined < made) (hn : n ≤ 1048576) (hl2 : leaf < nodes) (hj2 : joined < nodes) (hnn : nodes ≤ 1048576) (hxy : ¬ x ≤ y) :
    Calls Try.prog 18 #[.int .i64 made, .pointer (some ⟨bl, 0, none⟩), .pointer (some ⟨bn, 0, none⟩), .pointer (some ⟨bj, 0, none⟩), .pointer (some ⟨bs, 0, none⟩)] w
      fun e w' => e = .returned (.int .i64 joined) ∧ Put w w' bj (.int .i64 ((joined : Int) + 1)) := by
  have h1 : (leaf : Int) < (n : Int) := by omega
  have h2 : ((joined : Int) == (made : Int)) = false := by simp; omega
  have h3 : (leaf : Int) < (nodes : Int) := by omega
  have h4 : (joined : Int) < (nodes : Int) := by omega
  have h5 : (0 : Int) ≤ (leaf : Int) := by omega
  have h6 : (0 : Int) ≤ (joined : Int) := by omega
  have hs := World.cell?_setCell_same w ⟨bj, 0, none⟩ (.int .i64 ((joined : Int) + 1)) hbj
  go_enter Try.func18, Try.ntmps18
  go_wp2
  go_quiet (fail)
  go_wp2
  go_ret
  exact ⟨rfl, _, rfl⟩

set_option maxHeartbeats 1000000 in
set_option maxRecDepth 1000000 in
theorem pick_D
    (hbl : w.cell? ⟨bl, 0, none⟩ = some (.int .i64 leaf))
    (hbn : w.cell? ⟨bn, 0, none⟩ = some (.int .i64 n)) (hbj : w.cell? ⟨bj, 0, none⟩ = some (.int .i64 joined)) (hfj : w.frozen? ⟨bj, 0, none⟩ = false)
    (hln : n ≤ leaf) (hj2 : joined ≤ 1048576) :
    Calls Try.prog 18 #[.int .i64 made, .pointer (some ⟨bl, 0, none⟩), .pointer (some ⟨bn, 0, none⟩), .pointer (some ⟨bj, 0, none⟩), .pointer (some ⟨bs, 0, none⟩)] w
      fun e w' => e = .returned (.int .i64 joined) ∧ Put w w' bj (.int .i64 ((joined : Int) + 1)) := by
  have h1 : decide ((leaf : Int) < (n : Int)) = false := by simp; omega
  have h1' : decide (leaf < n) = false := by simp; omega
  have hs := World.cell?_setCell_same w ⟨bj, 0, none⟩ (.int .i64 ((joined : Int) + 1)) hbj
  go_enter Try.func18, Try.ntmps18
  go_wp2
  go_quiet (fail)
  go_wp2
  go_ret
  exact ⟨rfl, _, rfl⟩
end
end Go.Proofs.Qxb6606286a

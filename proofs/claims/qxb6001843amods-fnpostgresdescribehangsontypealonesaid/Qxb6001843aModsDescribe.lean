/-
  THE CONTRACT of '(postgres).describe' and of 'ZZPostgresDescribe': the column's Kind becomes 'kindOf' its Type, its Bits 'bitsOf' its Type and what they were; nothing else that was there turns.
-/
import Derived.Test.Qxb6001843aModsRows
import Derived.WalkKit
import Derived.WalkSpells
namespace Go.Proofs.Qxb6001843aMods
open Go.RowKit
set_option linter.unusedVariables false

/-! ### The plain functions -/

/-- The kind that a type's name gives. -/
def kindOf (t : ByteArray) : Int :=
  if (t.toList == [115, 109, 97, 108, 108, 105, 110, 116]) = true then 0
  else if (t.toList == [105, 110, 116, 101, 103, 101, 114]) = true then 0
  else if (t.toList == [98, 105, 103, 105, 110, 116]) = true then 0
  else if (t.toList == [110, 117, 109, 101, 114, 105, 99]) = true then 1
  else if (t.toList == [99, 104, 97, 114, 97, 99, 116, 101, 114, 32, 118, 97, 114, 121, 105, 110, 103]) = true then 2
  else if (t.toList == [99, 104, 97, 114, 97, 99, 116, 101, 114]) = true then 2
  else if (t.toList == [116, 101, 120, 116]) = true then 2
  else if (t.toList == [116, 105, 109, 101, 115, 116, 97, 109, 112, 32, 119, 105, 116, 104, 111, 117, 116, 32, 116, 105, 109, 101, 32, 122, 111, 110, 101]) = true then 3
  else if (t.toList == [98, 111, 111, 108, 101, 97, 110]) = true then 4
  else if (t.toList == [106, 115, 111, 110]) = true then 5
  else if (t.toList == [106, 115, 111, 110, 98]) = true then 5
  else 6

/-- The width that a type's name gives; b where it gives none. -/
def bitsOf (t : ByteArray) (b : Int) : Int :=
  if (t.toList == [115, 109, 97, 108, 108, 105, 110, 116]) = true then 16
  else if (t.toList == [105, 110, 116, 101, 103, 101, 114]) = true then 32
  else if (t.toList == [98, 105, 103, 105, 110, 116]) = true then 64
  else b

/-! ### What became of the world -/

/-- Cell 1 of block b holds K, cell 3 holds B; no other old block has turned. -/
def After (w : World) (b : Nat) (K B : Int) (w' : World) : Prop :=
  w'.cell? ⟨b, 1, none⟩ = some (.int .i64 K) ∧ w'.cell? ⟨b, 3, none⟩ = some (.int .i64 B) ∧ w.grownBy w' (some b)

theorem after_one (w : World) (o : Obj) (b : Nat) (k0 b0 K : Int) (hb : b < w.heap.size) (g1 : w.cell? ⟨b, 1, none⟩ = some (.int .i64 k0)) (g3 : w.cell? ⟨b, 3, none⟩ = some (.int .i64 b0)) :
    After w b K b0 ((w.setCell ⟨b, 1, none⟩ (.int .i64 K)).alloc o) := by
  have hs : (w.setCell ⟨b, 1, none⟩ (.int .i64 K)).heap.size = w.heap.size := by simp [World.setCell]
  have c1 : (w.setCell ⟨b, 1, none⟩ (.int .i64 K)).cell? ⟨b, 1, none⟩ = some (.int .i64 K) := World.cell?_setCell_same _ _ _ g1
  have c3 : (w.setCell ⟨b, 1, none⟩ (.int .i64 K)).cell? ⟨b, 3, none⟩ = some (.int .i64 b0) := (World.cell?_setCell_other _ _ _ _ (by simp)).trans g3
  refine ⟨(World.cell?_of_block (Below.heap_alloc _ o b (by omega))).trans c1, (World.cell?_of_block (Below.heap_alloc _ o b (by omega))).trans c3, rfl, rfl, rfl, by simp [World.setCell], fun k hk hne => ?_⟩
  rw [Below.heap_alloc _ o k (by omega), Below.heap_setCell _ _ _ _ (fun e => hne (by rw [e]))]

theorem after_two (w : World) (o : Obj) (b : Nat) (k0 b0 K B : Int) (hb : b < w.heap.size) (g1 : w.cell? ⟨b, 1, none⟩ = some (.int .i64 k0)) (g3 : w.cell? ⟨b, 3, none⟩ = some (.int .i64 b0)) :
    After w b K B (((w.setCell ⟨b, 1, none⟩ (.int .i64 K)).setCell ⟨b, 3, none⟩ (.int .i64 B)).alloc o) := by
  have hs : ((w.setCell ⟨b, 1, none⟩ (.int .i64 K)).setCell ⟨b, 3, none⟩ (.int .i64 B)).heap.size = w.heap.size := by simp [World.setCell]
  have c1 : (w.setCell ⟨b, 1, none⟩ (.int .i64 K)).cell? ⟨b, 1, none⟩ = some (.int .i64 K) := World.cell?_setCell_same _ _ _ g1
  have c3 : (w.setCell ⟨b, 1, none⟩ (.int .i64 K)).cell? ⟨b, 3, none⟩ = some (.int .i64 b0) := (World.cell?_setCell_other _ _ _ _ (by simp)).trans g3
  have d1 : ((w.setCell ⟨b, 1, none⟩ (.int .i64 K)).setCell ⟨b, 3, none⟩ (.int .i64 B)).cell? ⟨b, 1, none⟩ = some (.int .i64 K) := (World.cell?_setCell_other _ _ _ _ (by simp)).trans c1
  have d3 : ((w.setCell ⟨b, 1, none⟩ (.int .i64 K)).setCell ⟨b, 3, none⟩ (.int .i64 B)).cell? ⟨b, 3, none⟩ = some (.int .i64 B) := World.cell?_setCell_same _ _ _ c3
  refine ⟨(World.cell?_of_block (Below.heap_alloc _ o b (by omega))).trans d1, (World.cell?_of_block (Below.heap_alloc _ o b (by omega))).trans d3, rfl, rfl, rfl, by simp [World.setCell], fun k hk hne => ?_⟩
  rw [Below.heap_alloc _ o k (by omega), Below.heap_setCell _ _ _ _ (fun e => hne (by rw [e])), Below.heap_setCell _ _ _ _ (fun e => hne (by rw [e]))]

theorem After.told {w : World} {b : Nat} {K B K' B' : Int} {w' : World} (h : After w b K B w') (e1 : K' = K) (e2 : B' = B) : After w b K' B' w' := by rw [e1, e2]; exact h

/-! ### The walk, one way a type's name -/

set_option maxHeartbeats 1000000 in
theorem way0 (b : Nat) (t : ByteArray) (k0 b0 : Int) (w : World) (g1 : w.cell? ⟨b, 1, none⟩ = some (.int .i64 k0)) (g2 : w.cell? ⟨b, 2, none⟩ = some (.string t)) (g3 : w.cell? ⟨b, 3, none⟩ = some (.int .i64 b0)) (z1 : w.frozen? ⟨b, 1, none⟩ = false) (z3 : w.frozen? ⟨b, 3, none⟩ = false) (hb : b < w.heap.size) (h0 : (t.toList == [115, 109, 97, 108, 108, 105, 110, 116]) = true) :
    Calls Trym.prog 10 #[.agg #[], .pointer (some ⟨b, 0, none⟩)] w fun e w' => e = .returned (.tuple #[]) ∧ After w b (kindOf t) (bitsOf t b0) w' := by
  have G1 : Hid (w.cell? ⟨b, 1, none⟩ = some (.int .i64 k0)) := g1
  have G3 : Hid (w.cell? ⟨b, 3, none⟩ = some (.int .i64 b0)) := g3
  have HK : Hid (kindOf t = 0) := (by unfold kindOf; rw [h0]; rfl : kindOf t = 0)
  have HB : Hid (bitsOf t b0 = 16) := (by unfold bitsOf; rw [h0]; rfl : bitsOf t b0 = 16)
  go_enter Trym.func10, Trym.ntmps10
  go_wp2
  go_end0
  exact ⟨rfl, (after_two w _ b k0 b0 0 16 hb G1.out G3.out).told HK.out HB.out⟩

set_option maxHeartbeats 1000000 in
theorem way1 (b : Nat) (t : ByteArray) (k0 b0 : Int) (w : World) (g1 : w.cell? ⟨b, 1, none⟩ = some (.int .i64 k0)) (g2 : w.cell? ⟨b, 2, none⟩ = some (.string t)) (g3 : w.cell? ⟨b, 3, none⟩ = some (.int .i64 b0)) (z1 : w.frozen? ⟨b, 1, none⟩ = false) (z3 : w.frozen? ⟨b, 3, none⟩ = false) (hb : b < w.heap.size) (h0 : (t.toList == [115, 109, 97, 108, 108, 105, 110, 116]) = false) (h1 : (t.toList == [105, 110, 116, 101, 103, 101, 114]) = true) :
    Calls Trym.prog 10 #[.agg #[], .pointer (some ⟨b, 0, none⟩)] w fun e w' => e = .returned (.tuple #[]) ∧ After w b (kindOf t) (bitsOf t b0) w' := by
  have G1 : Hid (w.cell? ⟨b, 1, none⟩ = some (.int .i64 k0)) := g1
  have G3 : Hid (w.cell? ⟨b, 3, none⟩ = some (.int .i64 b0)) := g3
  have HK : Hid (kindOf t = 0) := (by unfold kindOf; rw [h0, h1]; rfl : kindOf t = 0)
  have HB : Hid (bitsOf t b0 = 32) := (by unfold bitsOf; rw [h0, h1]; rfl : bitsOf t b0 = 32)
  go_enter Trym.func10, Trym.ntmps10
  go_wp2
  go_end0
  exact ⟨rfl, (after_two w _ b k0 b0 0 32 hb G1.out G3.out).told HK.out HB.out⟩

set_option maxHeartbeats 1000000 in
theorem way2 (b : Nat) (t : ByteArray) (k0 b0 : Int) (w : World) (g1 : w.cell? ⟨b, 1, none⟩ = some (.int .i64 k0)) (g2 : w.cell? ⟨b, 2, none⟩ = some (.string t)) (g3 : w.cell? ⟨b, 3, none⟩ = some (.int .i64 b0)) (z1 : w.frozen? ⟨b, 1, none⟩ = false) (z3 : w.frozen? ⟨b, 3, none⟩ = false) (hb : b < w.heap.size) (h0 : (t.toList == [115, 109, 97, 108, 108, 105, 110, 116]) = false) (h1 : (t.toList == [105, 110, 116, 101, 103, 101, 114]) = false) (h2 : (t.toList == [98, 105, 103, 105, 110, 116]) = true) :
    Calls Trym.prog 10 #[.agg #[], .pointer (some ⟨b, 0, none⟩)] w fun e w' => e = .returned (.tuple #[]) ∧ After w b (kindOf t) (bitsOf t b0) w' := by
  have G1 : Hid (w.cell? ⟨b, 1, none⟩ = some (.int .i64 k0)) := g1
  have G3 : Hid (w.cell? ⟨b, 3, none⟩ = some (.int .i64 b0)) := g3
  have HK : Hid (kindOf t = 0) := (by unfold kindOf; rw [h0, h1, h2]; rfl : kindOf t = 0)
  have HB : Hid (bitsOf t b0 = 64) := (by unfold bitsOf; rw [h0, h1, h2]; rfl : bitsOf t b0 = 64)
  go_enter Trym.func10, Trym.ntmps10
  go_wp2
  go_end0
  exact ⟨rfl, (after_two w _ b k0 b0 0 64 hb G1.out G3.out).told HK.out HB.out⟩

set_option maxHeartbeats 1000000 in
theorem way3 (b : Nat) (t : ByteArray) (k0 b0 : Int) (w : World) (g1 : w.cell? ⟨b, 1, none⟩ = some (.int .i64 k0)) (g2 : w.cell? ⟨b, 2, none⟩ = some (.string t)) (g3 : w.cell? ⟨b, 3, none⟩ = some (.int .i64 b0)) (z1 : w.frozen? ⟨b, 1, none⟩ = false) (z3 : w.frozen? ⟨b, 3, none⟩ = false) (hb : b < w.heap.size) (h0 : (t.toList == [115, 109, 97, 108, 108, 105, 110, 116]) = false) (h1 : (t.toList == [105, 110, 116, 101, 103, 101, 114]) = false) (h2 : (t.toList == [98, 105, 103, 105, 110, 116]) = false) (h3 : (t.toList == [110, 117, 109, 101, 114, 105, 99]) = true) :
    Calls Trym.prog 10 #[.agg #[], .pointer (some ⟨b, 0, none⟩)] w fun e w' => e = .returned (.tuple #[]) ∧ After w b (kindOf t) (bitsOf t b0) w' := by
  have G1 : Hid (w.cell? ⟨b, 1, none⟩ = some (.int .i64 k0)) := g1
  have G3 : Hid (w.cell? ⟨b, 3, none⟩ = some (.int .i64 b0)) := g3
  have HK : Hid (kindOf t = 1) := (by unfold kindOf; rw [h0, h1, h2, h3]; rfl : kindOf t = 1)
  have HB : Hid (bitsOf t b0 = b0) := (by unfold bitsOf; rw [h0, h1, h2]; rfl : bitsOf t b0 = b0)
  go_enter Trym.func10, Trym.ntmps10
  go_wp2
  go_end0
  exact ⟨rfl, (after_one w _ b k0 b0 1 hb G1.out G3.out).told HK.out HB.out⟩

set_option maxHeartbeats 1000000 in
theorem way4 (b : Nat) (t : ByteArray) (k0 b0 : Int) (w : World) (g1 : w.cell? ⟨b, 1, none⟩ = some (.int .i64 k0)) (g2 : w.cell? ⟨b, 2, none⟩ = some (.string t)) (g3 : w.cell? ⟨b, 3, none⟩ = some (.int .i64 b0)) (z1 : w.frozen? ⟨b, 1, none⟩ = false) (z3 : w.frozen? ⟨b, 3, none⟩ = false) (hb : b < w.heap.size) (h0 : (t.toList == [115, 109, 97, 108, 108, 105, 110, 116]) = false) (h1 : (t.toList == [105, 110, 116, 101, 103, 101, 114]) = false) (h2 : (t.toList == [98, 105, 103, 105, 110, 116]) = false) (h3 : (t.toList == [110, 117, 109, 101, 114, 105, 99]) = false) (h4 : (t.toList == [99, 104, 97, 114, 97, 99, 116, 101, 114, 32, 118, 97, 114, 121, 105, 110, 103]) = true) :
    Calls Trym.prog 10 #[.agg #[], .pointer (some ⟨b, 0, none⟩)] w fun e w' => e = .returned (.tuple #[]) ∧ After w b (kindOf t) (bitsOf t b0) w' := by
  have G1 : Hid (w.cell? ⟨b, 1, none⟩ = some (.int .i64 k0)) := g1
  have G3 : Hid (w.cell? ⟨b, 3, none⟩ = some (.int .i64 b0)) := g3
  have HK : Hid (kindOf t = 2) := (by unfold kindOf; rw [h0, h1, h2, h3, h4]; rfl : kindOf t = 2)
  have HB : Hid (bitsOf t b0 = b0) := (by unfold bitsOf; rw [h0, h1, h2]; rfl : bitsOf t b0 = b0)
  go_enter Trym.func10, Trym.ntmps10
  go_wp2
  go_end0
  exact ⟨rfl, (after_one w _ b k0 b0 2 hb G1.out G3.out).told HK.out HB.out⟩

set_option maxHeartbeats 1000000 in
theorem way5 (b : Nat) (t : ByteArray) (k0 b0 : Int) (w : World) (g1 : w.cell? ⟨b, 1, none⟩ = some (.int .i64 k0)) (g2 : w.cell? ⟨b, 2, none⟩ = some (.string t)) (g3 : w.cell? ⟨b, 3, none⟩ = some (.int .i64 b0)) (z1 : w.frozen? ⟨b, 1, none⟩ = false) (z3 : w.frozen? ⟨b, 3, none⟩ = false) (hb : b < w.heap.size) (h0 : (t.toList == [115, 109, 97, 108, 108, 105, 110, 116]) = false) (h1 : (t.toList == [105, 110, 116, 101, 103, 101, 114]) = false) (h2 : (t.toList == [98, 105, 103, 105, 110, 116]) = false) (h3 : (t.toList == [110, 117, 109, 101, 114, 105, 99]) = false) (h4 : (t.toList == [99, 104, 97, 114, 97, 99, 116, 101, 114, 32, 118, 97, 114, 121, 105, 110, 103]) = false) (h5 : (t.toList == [99, 104, 97, 114, 97, 99, 116, 101, 114]) = true) :
    Calls Trym.prog 10 #[.agg #[], .pointer (some ⟨b, 0, none⟩)] w fun e w' => e = .returned (.tuple #[]) ∧ After w b (kindOf t) (bitsOf t b0) w' := by
  have G1 : Hid (w.cell? ⟨b, 1, none⟩ = some (.int .i64 k0)) := g1
  have G3 : Hid (w.cell? ⟨b, 3, none⟩ = some (.int .i64 b0)) := g3
  have HK : Hid (kindOf t = 2) := (by unfold kindOf; rw [h0, h1, h2, h3, h4, h5]; rfl : kindOf t = 2)
  have HB : Hid (bitsOf t b0 = b0) := (by unfold bitsOf; rw [h0, h1, h2]; rfl : bitsOf t b0 = b0)
  go_enter Trym.func10, Trym.ntmps10
  go_wp2
  go_end0
  exact ⟨rfl, (after_one w _ b k0 b0 2 hb G1.out G3.out).told HK.out HB.out⟩

set_option maxHeartbeats 1000000 in
theorem way6 (b : Nat) (t : ByteArray) (k0 b0 : Int) (w : World) (g1 : w.cell? ⟨b, 1, none⟩ = some (.int .i64 k0)) (g2 : w.cell? ⟨b, 2, none⟩ = some (.string t)) (g3 : w.cell? ⟨b, 3, none⟩ = some (.int .i64 b0)) (z1 : w.frozen? ⟨b, 1, none⟩ = false) (z3 : w.frozen? ⟨b, 3, none⟩ = false) (hb : b < w.heap.size) (h0 : (t.toList == [115, 109, 97, 108, 108, 105, 110, 116]) = false) (h1 : (t.toList == [105, 110, 116, 101, 103, 101, 114]) = false) (h2 : (t.toList == [98, 105, 103, 105, 110, 116]) = false) (h3 : (t.toList == [110, 117, 109, 101, 114, 105, 99]) = false) (h4 : (t.toList == [99, 104, 97, 114, 97, 99, 116, 101, 114, 32, 118, 97, 114, 121, 105, 110, 103]) = false) (h5 : (t.toList == [99, 104, 97, 114, 97, 99, 116, 101, 114]) = false) (h6 : (t.toList == [116, 101, 120, 116]) = true) :
    Calls Trym.prog 10 #[.agg #[], .pointer (some ⟨b, 0, none⟩)] w fun e w' => e = .returned (.tuple #[]) ∧ After w b (kindOf t) (bitsOf t b0) w' := by
  have G1 : Hid (w.cell? ⟨b, 1, none⟩ = some (.int .i64 k0)) := g1
  have G3 : Hid (w.cell? ⟨b, 3, none⟩ = some (.int .i64 b0)) := g3
  have HK : Hid (kindOf t = 2) := (by unfold kindOf; rw [h0, h1, h2, h3, h4, h5, h6]; rfl : kindOf t = 2)
  have HB : Hid (bitsOf t b0 = b0) := (by unfold bitsOf; rw [h0, h1, h2]; rfl : bitsOf t b0 = b0)
  go_enter Trym.func10, Trym.ntmps10
  go_wp2
  go_end0
  exact ⟨rfl, (after_one w _ b k0 b0 2 hb G1.out G3.out).told HK.out HB.out⟩

set_option maxHeartbeats 1000000 in
theorem way7 (b : Nat) (t : ByteArray) (k0 b0 : Int) (w : World) (g1 : w.cell? ⟨b, 1, none⟩ = some (.int .i64 k0)) (g2 : w.cell? ⟨b, 2, none⟩ = some (.string t)) (g3 : w.cell? ⟨b, 3, none⟩ = some (.int .i64 b0)) (z1 : w.frozen? ⟨b, 1, none⟩ = false) (z3 : w.frozen? ⟨b, 3, none⟩ = false) (hb : b < w.heap.size) (h0 : (t.toList == [115, 109, 97, 108, 108, 105, 110, 116]) = false) (h1 : (t.toList == [105, 110, 116, 101, 103, 101, 114]) = false) (h2 : (t.toList == [98, 105, 103, 105, 110, 116]) = false) (h3 : (t.toList == [110, 117, 109, 101, 114, 105, 99]) = false) (h4 : (t.toList == [99, 104, 97, 114, 97, 99, 116, 101, 114, 32, 118, 97, 114, 121, 105, 110, 103]) = false) (h5 : (t.toList == [99, 104, 97, 114, 97, 99, 116, 101, 114]) = false) (h6 : (t.toList == [116, 101, 120, 116]) = false) (h7 : (t.toList == [116, 105, 109, 101, 115, 116, 97, 109, 112, 32, 119, 105, 116, 104, 111, 117, 116, 32, 116, 105, 109, 101, 32, 122, 111, 110, 101]) = true) :
    Calls Trym.prog 10 #[.agg #[], .pointer (some ⟨b, 0, none⟩)] w fun e w' => e = .returned (.tuple #[]) ∧ After w b (kindOf t) (bitsOf t b0) w' := by
  have G1 : Hid (w.cell? ⟨b, 1, none⟩ = some (.int .i64 k0)) := g1
  have G3 : Hid (w.cell? ⟨b, 3, none⟩ = some (.int .i64 b0)) := g3
  have HK : Hid (kindOf t = 3) := (by unfold kindOf; rw [h0, h1, h2, h3, h4, h5, h6, h7]; rfl : kindOf t = 3)
  have HB : Hid (bitsOf t b0 = b0) := (by unfold bitsOf; rw [h0, h1, h2]; rfl : bitsOf t b0 = b0)
  go_enter Trym.func10, Trym.ntmps10
  go_wp2
  go_end0
  exact ⟨rfl, (after_one w _ b k0 b0 3 hb G1.out G3.out).told HK.out HB.out⟩

set_option maxHeartbeats 1000000 in
theorem way8 (b : Nat) (t : ByteArray) (k0 b0 : Int) (w : World) (g1 : w.cell? ⟨b, 1, none⟩ = some (.int .i64 k0)) (g2 : w.cell? ⟨b, 2, none⟩ = some (.string t)) (g3 : w.cell? ⟨b, 3, none⟩ = some (.int .i64 b0)) (z1 : w.frozen? ⟨b, 1, none⟩ = false) (z3 : w.frozen? ⟨b, 3, none⟩ = false) (hb : b < w.heap.size) (h0 : (t.toList == [115, 109, 97, 108, 108, 105, 110, 116]) = false) (h1 : (t.toList == [105, 110, 116, 101, 103, 101, 114]) = false) (h2 : (t.toList == [98, 105, 103, 105, 110, 116]) = false) (h3 : (t.toList == [110, 117, 109, 101, 114, 105, 99]) = false) (h4 : (t.toList == [99, 104, 97, 114, 97, 99, 116, 101, 114, 32, 118, 97, 114, 121, 105, 110, 103]) = false) (h5 : (t.toList == [99, 104, 97, 114, 97, 99, 116, 101, 114]) = false) (h6 : (t.toList == [116, 101, 120, 116]) = false) (h7 : (t.toList == [116, 105, 109, 101, 115, 116, 97, 109, 112, 32, 119, 105, 116, 104, 111, 117, 116, 32, 116, 105, 109, 101, 32, 122, 111, 110, 101]) = false) (h8 : (t.toList == [98, 111, 111, 108, 101, 97, 110]) = true) :
    Calls Trym.prog 10 #[.agg #[], .pointer (some ⟨b, 0, none⟩)] w fun e w' => e = .returned (.tuple #[]) ∧ After w b (kindOf t) (bitsOf t b0) w' := by
  have G1 : Hid (w.cell? ⟨b, 1, none⟩ = some (.int .i64 k0)) := g1
  have G3 : Hid (w.cell? ⟨b, 3, none⟩ = some (.int .i64 b0)) := g3
  have HK : Hid (kindOf t = 4) := (by unfold kindOf; rw [h0, h1, h2, h3, h4, h5, h6, h7, h8]; rfl : kindOf t = 4)
  have HB : Hid (bitsOf t b0 = b0) := (by unfold bitsOf; rw [h0, h1, h2]; rfl : bitsOf t b0 = b0)
  go_enter Trym.func10, Trym.ntmps10
  go_wp2
  go_end0
  exact ⟨rfl, (after_one w _ b k0 b0 4 hb G1.out G3.out).told HK.out HB.out⟩

set_option maxHeartbeats 1000000 in
theorem way9 (b : Nat) (t : ByteArray) (k0 b0 : Int) (w : World) (g1 : w.cell? ⟨b, 1, none⟩ = some (.int .i64 k0)) (g2 : w.cell? ⟨b, 2, none⟩ = some (.string t)) (g3 : w.cell? ⟨b, 3, none⟩ = some (.int .i64 b0)) (z1 : w.frozen? ⟨b, 1, none⟩ = false) (z3 : w.frozen? ⟨b, 3, none⟩ = false) (hb : b < w.heap.size) (h0 : (t.toList == [115, 109, 97, 108, 108, 105, 110, 116]) = false) (h1 : (t.toList == [105, 110, 116, 101, 103, 101, 114]) = false) (h2 : (t.toList == [98, 105, 103, 105, 110, 116]) = false) (h3 : (t.toList == [110, 117, 109, 101, 114, 105, 99]) = false) (h4 : (t.toList == [99, 104, 97, 114, 97, 99, 116, 101, 114, 32, 118, 97, 114, 121, 105, 110, 103]) = false) (h5 : (t.toList == [99, 104, 97, 114, 97, 99, 116, 101, 114]) = false) (h6 : (t.toList == [116, 101, 120, 116]) = false) (h7 : (t.toList == [116, 105, 109, 101, 115, 116, 97, 109, 112, 32, 119, 105, 116, 104, 111, 117, 116, 32, 116, 105, 109, 101, 32, 122, 111, 110, 101]) = false) (h8 : (t.toList == [98, 111, 111, 108, 101, 97, 110]) = false) (h9 : (t.toList == [106, 115, 111, 110]) = true) :
    Calls Trym.prog 10 #[.agg #[], .pointer (some ⟨b, 0, none⟩)] w fun e w' => e = .returned (.tuple #[]) ∧ After w b (kindOf t) (bitsOf t b0) w' := by
  have G1 : Hid (w.cell? ⟨b, 1, none⟩ = some (.int .i64 k0)) := g1
  have G3 : Hid (w.cell? ⟨b, 3, none⟩ = some (.int .i64 b0)) := g3
  have HK : Hid (kindOf t = 5) := (by unfold kindOf; rw [h0, h1, h2, h3, h4, h5, h6, h7, h8, h9]; rfl : kindOf t = 5)
  have HB : Hid (bitsOf t b0 = b0) := (by unfold bitsOf; rw [h0, h1, h2]; rfl : bitsOf t b0 = b0)
  go_enter Trym.func10, Trym.ntmps10
  go_wp2
  go_end0
  exact ⟨rfl, (after_one w _ b k0 b0 5 hb G1.out G3.out).told HK.out HB.out⟩

set_option maxHeartbeats 1000000 in
theorem way10 (b : Nat) (t : ByteArray) (k0 b0 : Int) (w : World) (g1 : w.cell? ⟨b, 1, none⟩ = some (.int .i64 k0)) (g2 : w.cell? ⟨b, 2, none⟩ = some (.string t)) (g3 : w.cell? ⟨b, 3, none⟩ = some (.int .i64 b0)) (z1 : w.frozen? ⟨b, 1, none⟩ = false) (z3 : w.frozen? ⟨b, 3, none⟩ = false) (hb : b < w.heap.size) (h0 : (t.toList == [115, 109, 97, 108, 108, 105, 110, 116]) = false) (h1 : (t.toList == [105, 110, 116, 101, 103, 101, 114]) = false) (h2 : (t.toList == [98, 105, 103, 105, 110, 116]) = false) (h3 : (t.toList == [110, 117, 109, 101, 114, 105, 99]) = false) (h4 : (t.toList == [99, 104, 97, 114, 97, 99, 116, 101, 114, 32, 118, 97, 114, 121, 105, 110, 103]) = false) (h5 : (t.toList == [99, 104, 97, 114, 97, 99, 116, 101, 114]) = false) (h6 : (t.toList == [116, 101, 120, 116]) = false) (h7 : (t.toList == [116, 105, 109, 101, 115, 116, 97, 109, 112, 32, 119, 105, 116, 104, 111, 117, 116, 32, 116, 105, 109, 101, 32, 122, 111, 110, 101]) = false) (h8 : (t.toList == [98, 111, 111, 108, 101, 97, 110]) = false) (h9 : (t.toList == [106, 115, 111, 110]) = false) (h10 : (t.toList == [106, 115, 111, 110, 98]) = true) :
    Calls Trym.prog 10 #[.agg #[], .pointer (some ⟨b, 0, none⟩)] w fun e w' => e = .returned (.tuple #[]) ∧ After w b (kindOf t) (bitsOf t b0) w' := by
  have G1 : Hid (w.cell? ⟨b, 1, none⟩ = some (.int .i64 k0)) := g1
  have G3 : Hid (w.cell? ⟨b, 3, none⟩ = some (.int .i64 b0)) := g3
  have HK : Hid (kindOf t = 5) := (by unfold kindOf; rw [h0, h1, h2, h3, h4, h5, h6, h7, h8, h9, h10]; rfl : kindOf t = 5)
  have HB : Hid (bitsOf t b0 = b0) := (by unfold bitsOf; rw [h0, h1, h2]; rfl : bitsOf t b0 = b0)
  go_enter Trym.func10, Trym.ntmps10
  go_wp2
  go_end0
  exact ⟨rfl, (after_one w _ b k0 b0 5 hb G1.out G3.out).told HK.out HB.out⟩

set_option maxHeartbeats 1000000 in
theorem way11 (b : Nat) (t : ByteArray) (k0 b0 : Int) (w : World) (g1 : w.cell? ⟨b, 1, none⟩ = some (.int .i64 k0)) (g2 : w.cell? ⟨b, 2, none⟩ = some (.string t)) (g3 : w.cell? ⟨b, 3, none⟩ = some (.int .i64 b0)) (z1 : w.frozen? ⟨b, 1, none⟩ = false) (z3 : w.frozen? ⟨b, 3, none⟩ = false) (hb : b < w.heap.size) (h0 : (t.toList == [115, 109, 97, 108, 108, 105, 110, 116]) = false) (h1 : (t.toList == [105, 110, 116, 101, 103, 101, 114]) = false) (h2 : (t.toList == [98, 105, 103, 105, 110, 116]) = false) (h3 : (t.toList == [110, 117, 109, 101, 114, 105, 99]) = false) (h4 : (t.toList == [99, 104, 97, 114, 97, 99, 116, 101, 114, 32, 118, 97, 114, 121, 105, 110, 103]) = false) (h5 : (t.toList == [99, 104, 97, 114, 97, 99, 116, 101, 114]) = false) (h6 : (t.toList == [116, 101, 120, 116]) = false) (h7 : (t.toList == [116, 105, 109, 101, 115, 116, 97, 109, 112, 32, 119, 105, 116, 104, 111, 117, 116, 32, 116, 105, 109, 101, 32, 122, 111, 110, 101]) = false) (h8 : (t.toList == [98, 111, 111, 108, 101, 97, 110]) = false) (h9 : (t.toList == [106, 115, 111, 110]) = false) (h10 : (t.toList == [106, 115, 111, 110, 98]) = false) :
    Calls Trym.prog 10 #[.agg #[], .pointer (some ⟨b, 0, none⟩)] w fun e w' => e = .returned (.tuple #[]) ∧ After w b (kindOf t) (bitsOf t b0) w' := by
  have G1 : Hid (w.cell? ⟨b, 1, none⟩ = some (.int .i64 k0)) := g1
  have G3 : Hid (w.cell? ⟨b, 3, none⟩ = some (.int .i64 b0)) := g3
  have HK : Hid (kindOf t = 6) := (by unfold kindOf; rw [h0, h1, h2, h3, h4, h5, h6, h7, h8, h9, h10]; rfl : kindOf t = 6)
  have HB : Hid (bitsOf t b0 = b0) := (by unfold bitsOf; rw [h0, h1, h2]; rfl : bitsOf t b0 = b0)
  go_enter Trym.func10, Trym.ntmps10
  go_wp2
  go_end0
  exact ⟨rfl, (after_one w _ b k0 b0 6 hb G1.out G3.out).told HK.out HB.out⟩

theorem describe_any (b : Nat) (t : ByteArray) (k0 b0 : Int) (w : World) (g1 : w.cell? ⟨b, 1, none⟩ = some (.int .i64 k0)) (g2 : w.cell? ⟨b, 2, none⟩ = some (.string t)) (g3 : w.cell? ⟨b, 3, none⟩ = some (.int .i64 b0)) (z1 : w.frozen? ⟨b, 1, none⟩ = false) (z3 : w.frozen? ⟨b, 3, none⟩ = false) (hb : b < w.heap.size) :
    Calls Trym.prog 10 #[.agg #[], .pointer (some ⟨b, 0, none⟩)] w fun e w' => e = .returned (.tuple #[]) ∧ After w b (kindOf t) (bitsOf t b0) w' := by
  by_cases y0 : (t.toList == [115, 109, 97, 108, 108, 105, 110, 116]) = true
  · exact way0 b t k0 b0 w g1 g2 g3 z1 z3 hb  y0
  have h0 := eq_false_of_ne_true y0
  by_cases y1 : (t.toList == [105, 110, 116, 101, 103, 101, 114]) = true
  · exact way1 b t k0 b0 w g1 g2 g3 z1 z3 hb h0 y1
  have h1 := eq_false_of_ne_true y1
  by_cases y2 : (t.toList == [98, 105, 103, 105, 110, 116]) = true
  · exact way2 b t k0 b0 w g1 g2 g3 z1 z3 hb h0 h1 y2
  have h2 := eq_false_of_ne_true y2
  by_cases y3 : (t.toList == [110, 117, 109, 101, 114, 105, 99]) = true
  · exact way3 b t k0 b0 w g1 g2 g3 z1 z3 hb h0 h1 h2 y3
  have h3 := eq_false_of_ne_true y3
  by_cases y4 : (t.toList == [99, 104, 97, 114, 97, 99, 116, 101, 114, 32, 118, 97, 114, 121, 105, 110, 103]) = true
  · exact way4 b t k0 b0 w g1 g2 g3 z1 z3 hb h0 h1 h2 h3 y4
  have h4 := eq_false_of_ne_true y4
  by_cases y5 : (t.toList == [99, 104, 97, 114, 97, 99, 116, 101, 114]) = true
  · exact way5 b t k0 b0 w g1 g2 g3 z1 z3 hb h0 h1 h2 h3 h4 y5
  have h5 := eq_false_of_ne_true y5
  by_cases y6 : (t.toList == [116, 101, 120, 116]) = true
  · exact way6 b t k0 b0 w g1 g2 g3 z1 z3 hb h0 h1 h2 h3 h4 h5 y6
  have h6 := eq_false_of_ne_true y6
  by_cases y7 : (t.toList == [116, 105, 109, 101, 115, 116, 97, 109, 112, 32, 119, 105, 116, 104, 111, 117, 116, 32, 116, 105, 109, 101, 32, 122, 111, 110, 101]) = true
  · exact way7 b t k0 b0 w g1 g2 g3 z1 z3 hb h0 h1 h2 h3 h4 h5 h6 y7
  have h7 := eq_false_of_ne_true y7
  by_cases y8 : (t.toList == [98, 111, 111, 108, 101, 97, 110]) = true
  · exact way8 b t k0 b0 w g1 g2 g3 z1 z3 hb h0 h1 h2 h3 h4 h5 h6 h7 y8
  have h8 := eq_false_of_ne_true y8
  by_cases y9 : (t.toList == [106, 115, 111, 110]) = true
  · exact way9 b t k0 b0 w g1 g2 g3 z1 z3 hb h0 h1 h2 h3 h4 h5 h6 h7 h8 y9
  have h9 := eq_false_of_ne_true y9
  by_cases y10 : (t.toList == [106, 115, 111, 110, 98]) = true
  · exact way10 b t k0 b0 w g1 g2 g3 z1 z3 hb h0 h1 h2 h3 h4 h5 h6 h7 h8 h9 y10
  have h10 := eq_false_of_ne_true y10
  exact way11 b t k0 b0 w g1 g2 g3 z1 z3 hb h0 h1 h2 h3 h4 h5 h6 h7 h8 h9 h10

theorem zzdescribe_any (b : Nat) (t : ByteArray) (k0 b0 : Int) (w : World) (g1 : w.cell? ⟨b, 1, none⟩ = some (.int .i64 k0)) (g2 : w.cell? ⟨b, 2, none⟩ = some (.string t)) (g3 : w.cell? ⟨b, 3, none⟩ = some (.int .i64 b0)) (z1 : w.frozen? ⟨b, 1, none⟩ = false) (z3 : w.frozen? ⟨b, 3, none⟩ = false) (hb : b < w.heap.size) :
    Calls Trym.prog 7 #[.pointer (some ⟨b, 0, none⟩)] w fun e w' => e = .returned (.tuple #[]) ∧ After w b (kindOf t) (bitsOf t b0) w' := by
  have C := (show Hid (Calls Trym.prog 10 #[.agg #[], .pointer (some ⟨b, 0, none⟩)] w fun e w' => e = .returned (.tuple #[]) ∧ After w b (kindOf t) (bitsOf t b0) w') from describe_any b t k0 b0 w g1 g2 g3 z1 z3 hb)
  go_enter Trym.func7, Trym.ntmps7
  go_wp2_with fail
  refine C.out.mono ?_
  rintro e w' ⟨rfl, hA⟩
  have HA : Hid (After w b (kindOf t) (bitsOf t b0) w') := hA
  clear hA C
  go_wp2
  go_end0
  exact ⟨rfl, HA.out⟩
end Go.Proofs.Qxb6001843aMods

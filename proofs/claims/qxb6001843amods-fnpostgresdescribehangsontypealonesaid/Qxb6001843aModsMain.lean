/-
  THE WALK of 'FnPostgresDescribeHangsOnTypeAlone': it returns true; old memory is as it was. 'ZZPostgresDescribe' by its contract (..Describe), at each of its two calls.
-/
import Derived.Test.Qxb6001843aModsDescribe
namespace Go.Proofs.Qxb6001843aMods
open Go.RowKit

/-! ### The plain law -/

/-- A type's name gives the kind Integer with one width, or one of the other six kinds. -/
theorem kind_cases (t : ByteArray) : (kindOf t = 0 ∧ ((∀ b, bitsOf t b = 16) ∨ (∀ b, bitsOf t b = 32) ∨ (∀ b, bitsOf t b = 64))) ∨ (kindOf t = 1 ∨ kindOf t = 2 ∨ kindOf t = 3 ∨ kindOf t = 4 ∨ kindOf t = 5 ∨ kindOf t = 6) := by
  unfold kindOf bitsOf
  cases h0 : (t.toList == [115, 109, 97, 108, 108, 105, 110, 116])
  · cases h1 : (t.toList == [105, 110, 116, 101, 103, 101, 114])
    · cases h2 : (t.toList == [98, 105, 103, 105, 110, 116])
      · right
        simp only [Bool.false_eq_true, if_false]
        repeat' split
        all_goals simp
      · exact .inl ⟨rfl, .inr (.inr fun _ => rfl)⟩
    · exact .inl ⟨rfl, .inr (.inl fun _ => rfl)⟩
  · exact .inl ⟨rfl, .inl fun _ => rfl⟩

/-! ### The two columns -/

/-- A new column of kind k, type t and width b. -/
def col (t : ByteArray) (k b : Int) : Obj :=
  .cells #[.string ⟨#[]⟩, .int .i64 k, .string t, .int .i64 b, .int .i64 0, .int .i64 0, .bool false, .bool false, .int .i64 0, .string ⟨#[]⟩, .string ⟨#[]⟩, .int .i64 0, .int .i64 0] 25

theorem col_at {w : World} {g : Nat} {t : ByteArray} {k b : Int} (h : w.heap[g]? = some (col t k b)) :
    w.cell? ⟨g, 1, none⟩ = some (.int .i64 k) ∧ w.cell? ⟨g, 2, none⟩ = some (.string t) ∧ w.cell? ⟨g, 3, none⟩ = some (.int .i64 b) ∧ w.frozen? ⟨g, 1, none⟩ = false ∧ w.frozen? ⟨g, 3, none⟩ = false ∧ g < w.heap.size := by
  have hlt : g < w.heap.size := (Array.getElem?_eq_some_iff.1 h).1
  refine ⟨?_, ?_, ?_, ?_, ?_, hlt⟩
  · simp [World.cell?, h, col]
  · simp [World.cell?, h, col]
  · simp [World.cell?, h, col]
  · simp [World.frozen?, h, col]
  · simp [World.frozen?, h, col]

theorem heap_new (w : World) (o : Obj) : (w.alloc o).heap[w.heap.size]? = some o := by
  show (w.heap.push o)[w.heap.size]? = _
  simp

theorem call_one (t : ByteArray) (k1 b1 k2 b2 : Int) (w : World) :
    Calls Trym.prog 7 #[.pointer (some ⟨w.heap.size, 0, none⟩)] ((w.alloc (col t k1 b1)).alloc (col t k2 b2)) fun e w' => e = .returned (.tuple #[]) ∧ After ((w.alloc (col t k1 b1)).alloc (col t k2 b2)) w.heap.size (kindOf t) (bitsOf t b1) w' := by
  have h : ((w.alloc (col t k1 b1)).alloc (col t k2 b2)).heap[w.heap.size]? = some (col t k1 b1) := by
    rw [Below.heap_alloc _ _ _ (by simp), heap_new]
  obtain ⟨g1, g2, g3, z1, z3, hb⟩ := col_at h
  exact zzdescribe_any w.heap.size t k1 b1 _ g1 g2 g3 z1 z3 hb

theorem call_two (t : ByteArray) (k1 b1 k2 b2 : Int) (w w1 : World) (hA : After ((w.alloc (col t k1 b1)).alloc (col t k2 b2)) w.heap.size (kindOf t) (bitsOf t b1) w1) :
    Calls Trym.prog 7 #[.pointer (some ⟨w.heap.size + 1, 0, none⟩)] w1 fun e w' => e = .returned (.tuple #[]) ∧ After w1 (w.heap.size + 1) (kindOf t) (bitsOf t b2) w' := by
  have h : w1.heap[w.heap.size + 1]? = some (col t k2 b2) := by
    rw [hA.2.2.block (w.heap.size + 1) (by simp) (by simp)]
    have := heap_new (w.alloc (col t k1 b1)) (col t k2 b2)
    simpa using this
  obtain ⟨g1, g2, g3, z1, z3, hb⟩ := col_at h
  exact zzdescribe_any (w.heap.size + 1) t k2 b2 _ g1 g2 g3 z1 z3 hb

/-- What the law reads behind the two calls. -/
theorem joined (t : ByteArray) (k1 b1 k2 b2 : Int) (w w1 w2 : World) (hA : After ((w.alloc (col t k1 b1)).alloc (col t k2 b2)) w.heap.size (kindOf t) (bitsOf t b1) w1) (hB : After w1 (w.heap.size + 1) (kindOf t) (bitsOf t b2) w2) :
    w2.cell? ⟨w.heap.size, 1, none⟩ = some (.int .i64 (kindOf t)) ∧ w2.cell? ⟨w.heap.size, 3, none⟩ = some (.int .i64 (bitsOf t b1)) ∧
    w2.cell? ⟨w.heap.size + 1, 1, none⟩ = some (.int .i64 (kindOf t)) ∧ w2.cell? ⟨w.heap.size + 1, 3, none⟩ = some (.int .i64 (bitsOf t b2)) ∧ Below w.heap.size w w2 := by
  obtain ⟨a1, a3, ag⟩ := hA
  obtain ⟨c1, c3, cg⟩ := hB
  have b0 : Below w.heap.size w ((w.alloc (col t k1 b1)).alloc (col t k2 b2)) := ((Below.refl _ _).alloc (Nat.le_refl _) _).alloc (by simp) _
  have b1 : Below w.heap.size w w1 := b0.grown ag b0.size (fun k e => by simp at e; omega)
  have b2 : Below w.heap.size w w2 := b1.grown cg b1.size (fun k e => by simp at e; omega)
  exact ⟨cg.cell a1 (by simp), cg.cell a3 (by simp), c1, c3, b2⟩

/-! ### The walk -/

theorem bytes_yes (t : ByteArray) (a1 a2 a3 a4 : Int) (w : World) (h : (t.size : Int) ≤ 1048576) :
    Calls Trym.prog 9 #[.string t, .int .i64 a1, .int .i64 a2, .int .i64 a3, .int .i64 a4] w fun e w' => e = .returned (.bool true) ∧ w' = w := by
  go_enter Trym.func9, Trym.ntmps9
  go_wp2
  go_ret
  exact ⟨rfl, rfl⟩

theorem bytes_no (t : ByteArray) (a1 a2 a3 a4 : Int) (w : World) (h : (1048576 : Int) < (t.size : Int)) :
    Calls Trym.prog 9 #[.string t, .int .i64 a1, .int .i64 a2, .int .i64 a3, .int .i64 a4] w fun e w' => e = .returned (.bool false) ∧ w' = w := by
  go_enter Trym.func9, Trym.ntmps9
  go_wp2
  go_ret
  exact ⟨rfl, rfl⟩

set_option maxHeartbeats 2000000 in
theorem walk (t : ByteArray) (a1 a2 a3 a4 : Int) (w : World) :
    Calls Trym.prog 5 #[.string t, .int .i64 a1, .int .i64 a2, .int .i64 a3, .int .i64 a4] w fun e w' => e = .returned (.bool true) ∧ Below w.heap.size w w' := by
  by_cases q : (1048576 : Int) < (t.size : Int)
  · go_enter Trym.func5, Trym.ntmps5
    go_wp2_with fail
    refine (bytes_no t a1 a2 a3 a4 w q).mono ?_
    rintro e w' ⟨rfl, hw⟩
    subst w'
    go_wp2
    go_ret
    exact ⟨rfl, Below.refl _ _⟩
  · have C1 : Hid (Calls Trym.prog 7 #[.pointer (some ⟨w.heap.size, 0, none⟩)] ((w.alloc (col t a1 a2)).alloc (col t a3 a4)) fun e w' => e = .returned (.tuple #[]) ∧ After ((w.alloc (col t a1 a2)).alloc (col t a3 a4)) w.heap.size (kindOf t) (bitsOf t a2) w') := call_one t a1 a2 a3 a4 w
    go_enter Trym.func5, Trym.ntmps5
    go_wp2_with fail
    refine (bytes_yes t a1 a2 a3 a4 w (by omega)).mono ?_
    rintro e w' ⟨rfl, hw⟩
    subst w'
    go_wp2_with fail
    refine C1.out.mono ?_
    rintro e w1 ⟨rfl, hA⟩
    have C2 : Hid (Calls Trym.prog 7 #[.pointer (some ⟨w.heap.size + 1, 0, none⟩)] w1 fun e w' => e = .returned (.tuple #[]) ∧ After w1 (w.heap.size + 1) (kindOf t) (bitsOf t a4) w') := call_two t a1 a2 a3 a4 w w1 hA
    have HA : Hid (After ((w.alloc (col t a1 a2)).alloc (col t a3 a4)) w.heap.size (kindOf t) (bitsOf t a2) w1) := hA
    clear hA C1
    go_wp2_with fail
    refine C2.out.mono ?_
    rintro e w2 ⟨rfl, hB⟩
    obtain ⟨c1, c3, d1, d3, hbel⟩ := joined t a1 a2 a3 a4 w w1 w2 HA.out hB
    have HB : Hid (Below w.heap.size w w2) := hbel
    clear hbel hB HA C2
    rcases kind_cases t with ⟨hk, hb | hb | hb⟩ | hk | hk | hk | hk | hk | hk
    all_goals
      rw [hk] at c1 d1
      try rw [hb] at c3 d3
      clear hk
      try clear hb
      go_wp2
      go_ret
      exact ⟨rfl, HB.out⟩
end Go.Proofs.Qxb6001843aMods

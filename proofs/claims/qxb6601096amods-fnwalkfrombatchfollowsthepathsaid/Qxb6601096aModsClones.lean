/-
  THE CONTRACTS of 'zzBytes_..' (it comes back with some bool and writes nothing), 'zzWireB1CloneBools', 'zzWireB1CloneStrings' (a slice of the same values; old memory as it was).
-/
import Derived.Test.Qxb6601096aModsRows
import Derived.WalkKit
import Derived.WalkSpells
import Derived.Lib.SliceRun
import Derived.Deep.OwnRows
namespace Go.Proofs.Qxb6601096aMods
open Go.RowKit

/-- The slice at address a has n elements, the values f 0, f 1, .. in old memory. -/
def RowAt (w : World) (a : Option Addr) (n : Nat) (f : Nat → Value) : Prop :=
  ∀ i, i < n → ∃ b off, a = some ⟨b, off, none⟩ ∧ b < w.heap.size ∧ w.cell? ⟨b, off + i, none⟩ = some (f i)
/-- The call came back with a bool. -/
def SomeBool (e : Ending) : Prop := ∃ b, e = .returned (.bool b)
theorem SomeBool.mk (b : Bool) : SomeBool (.returned (.bool b)) := ⟨b, rfl⟩

set_option maxHeartbeats 400000 in
theorem bytes_any (a0 a1 : Option Addr) (n c0 m c1 : Nat) (K : Nat → ByteArray) (w : World) (hn : n ≤ maxLen) (hm : m ≤ maxLen) (hK : ∀ i, i < m → (K i).size ≤ maxLen) (hr : RowAt w a1 m fun i => .string (K i)) :
    Calls Trym.prog 5 #[.slice a0 n c0, .slice a1 m c1] w fun e w' => SomeBool e ∧ w' = w := by
  unfold maxLen at hn hm hK
  by_cases h1 : (1048576 : Int) < (n : Int)
  · go_enter Trym.func5, Trym.ntmps5
    go_wp2
    go_ret
    exact ⟨SomeBool.mk _, rfl⟩
  · by_cases h2 : (1048576 : Int) < (m : Int)
    · go_enter Trym.func5, Trym.ntmps5
      go_wp2
      go_ret
      exact ⟨SomeBool.mk _, rfl⟩
    · by_cases h3 : (1048576 : Int) < (n : Int) + (m : Int)
      · go_enter Trym.func5, Trym.ntmps5
        go_wp2
        go_ret
        exact ⟨SomeBool.mk _, rfl⟩
      · go_enter Trym.func5, Trym.ntmps5
        go_wp2
        go_loop [5, 6] (fun z i => ∃ (k : Nat) (t : Int), k ≤ m ∧ 0 ≤ t ∧ t ≤ 1048576 ∧ i = .int .i64 k ∧ z = .int .i64 t) (fun _ i => m - (intOf i).toNat)
        case atStart => exact ⟨0, _, Nat.zero_le _, by omega, by omega, rfl, rfl⟩
        case round =>
          obtain ⟨k, t, hk, ht0, ht1, rfl, rfl⟩ := hrel
          by_cases hlt : k < m
          · obtain ⟨s, hs⟩ : ∃ s, s = K k := ⟨_, rfl⟩
            obtain ⟨b, off, rfl, hbw, hc0⟩ := hr k hlt
            have hc : w.cell? ⟨b, off + k, none⟩ = some (.string s) := by rw [hs]; exact hc0
            have hz : s.size ≤ 2 ^ 63 - 1 := by rw [hs]; exact hK k hlt
            clear hr hK hs hc0
            by_cases q1 : (1048576 : Int) < (s.size : Int)
            · go_wp2
              go_ret
              exact ⟨SomeBool.mk _, rfl⟩
            · by_cases q2 : (1048576 : Int) < t + (s.size : Int)
              · go_wp2
                go_ret
                exact ⟨SomeBool.mk _, rfl⟩
              · go_wp2
                go_round
                case rel => exact ⟨k + 1, _, by omega, by omega, by omega, by go_num, rfl⟩
                case measure => simp [intOf]; omega
          · clear hr hK
            go_wp2
            go_ret
            exact ⟨SomeBool.mk _, rfl⟩

theorem RowAt.below {w w' : World} {a : Option Addr} {n : Nat} {f : Nat → Value} (h : RowAt w a n f) (hb : Below w.heap.size w w') : RowAt w' a n f := fun i hi => by
  obtain ⟨b, off, e, hlt, hc⟩ := h i hi
  exact ⟨b, off, e, by have := hb.size; omega, (hb.cell (p := ⟨b, off + i, none⟩) hlt).trans hc⟩

/-- The call came back with a slice of the n values f 0, f 1, ..; old memory is as it was. -/
def Cloned (w : World) (n : Nat) (f : Nat → Value) (e : Ending) (w' : World) : Prop :=
  ∃ a' c', e = .returned (.slice a' n c') ∧ RowAt w' a' n f ∧ Below w.heap.size w w'
theorem Cloned.mk {w : World} {n : Nat} {f : Nat → Value} {w' : World} (a' : Option Addr) (c' : Nat) (h : RowAt w' a' n f) (hb : Below w.heap.size w w') : Cloned w n f (.returned (.slice a' n c')) w' := ⟨a', c', rfl, h, hb⟩

theorem RowAt.zero (w : World) (a : Option Addr) (f : Nat → Value) : RowAt w a 0 f := fun i hi => absurd hi (Nat.not_lt_zero i)
theorem RowAt.own {w' : World} {t : TypeId} {n : Nat} {f g : Nat → Value} {b : Nat} (h : w'.rowIs b t n g) (e : ∀ i, i < n → g i = f i) : RowAt w' (some ⟨b, 0, none⟩) n f := fun i hi =>
  ⟨b, 0, rfl, h.lt, by rw [Nat.zero_add, h.cell hi, e i hi]⟩

theorem Trym.info4 : (Trym.prog.info? 4).map (fun i => (i.zero, i.size, i.bytes)) = some (some (.bool false), 1, 1) := by kernel_rfl
theorem Trym.info9 : (Trym.prog.info? 9).map (fun i => (i.zero, i.size, i.bytes)) = some (some (.string ⟨#[]⟩), 1, 16) := by kernel_rfl

/-- Cell by cell: the first k are copied, the others hold the zero value. -/
def half (z : Value) (f : Nat → Value) (k j : Nat) : Value := if j < k then f j else z
theorem half_here (z : Value) (f : Nat → Value) (k : Nat) : half z f k k = z := by unfold half; rw [if_neg (Nat.lt_irrefl k)]
theorem half_next (z : Value) (f : Nat → Value) (k j : Nat) : (if j = k then f k else half z f k j) = half z f (k + 1) j := by
  unfold half
  by_cases e : j = k
  · subst e; rw [if_pos rfl, if_pos (by omega)]
  · rw [if_neg e]
    by_cases h : j < k
    · rw [if_pos h, if_pos (by omega)]
    · rw [if_neg h, if_neg (by omega)]
theorem half_all (z : Value) (f : Nat → Value) (n j : Nat) (h : j < n) : half z f n j = f j := by unfold half; rw [if_pos h]

set_option maxHeartbeats 400000 in
theorem cloneB_any (a : Option Addr) (n c : Nat) (B : Nat → Bool) (w : World) (ha : a = none → n = 0) (hn : n ≤ 65536) (hr : RowAt w a n fun i => .bool (B i)) :
    Calls Trym.prog 6 #[.slice a n c] w fun e w' => Cloned w n (fun i => .bool (B i)) e w' := by
  have hnil := fun (W : World) (a : Option Addr) (n c n' c' : Nat) => Lib.run_eql_slice_nil (P := Trym.prog) W 22 4 a n c n' c' Trym.underlying22
  cases a with
  | none =>
    obtain rfl := ha rfl
    clear ha hr
    go_enter Trym.func6, Trym.ntmps6
    go_wp2
    go_ret
    exact Cloned.mk none 0 (RowAt.zero _ _ _) (Below.refl _ _)
  | some x =>
    clear ha
    have hmk := fun W => run_make_row' (P := Trym.prog) 22 4 (.bool false) 1 Trym.underlying22 Trym.info4 rfl .i64 .i64 n (by omega) (by omega) W
    have R0 := World.rowIs_made w (.bool false) n 4
    have B0 := (Below.refl w.heap.size w).alloc (Nat.le_refl _) (.cells (madeCells #[.bool false] n) 4)
    have HR : Hid (RowAt w (some x) n fun i => .bool (B i)) := hr
    clear hr
    go_enter Trym.func6, Trym.ntmps6
    go_wp2
    go_loopw [4] (fun i wr => ∃ k : Nat, k ≤ n ∧ i = .int .i64 k ∧ wr.rowIs w.heap.size 4 n (half (.bool false) (fun i => .bool (B i)) k) ∧ Below w.heap.size w wr) (fun i _ => n - (intOf i).toNat)
    case atStart => exact ⟨0, Nat.zero_le _, rfl, R0.congr (fun i _ => rfl), B0⟩
    case round =>
      obtain ⟨k, hk, rfl, hR, hB⟩ := hrel
      clear R0 B0
      by_cases hlt : k < n
      · obtain ⟨b, off, hx, hbw, hc0⟩ := HR.out k hlt
        obtain rfl : x = ⟨b, off, none⟩ := Option.some.inj hx
        have hc : wr.cell? ⟨b, off + k, none⟩ = some (.bool (B k)) := (hB.cell (p := ⟨b, off + k, none⟩) hbw).trans hc0
        have hd : wr.cell? ⟨w.heap.size, k, none⟩ = some (.bool false) := by rw [hR.cell hlt, half_here]
        have hf := hR.frozen k
        have R1 : Hid ((wr.setCell ⟨w.heap.size, k, none⟩ (.bool (B k))).rowIs w.heap.size 4 n (half (.bool false) (fun i => .bool (B i)) (k + 1))) := (hR.set k (.bool (B k))).congr (fun j _ => half_next _ (fun i => .bool (B i)) k j)
        have B1 : Hid (Below w.heap.size w (wr.setCell ⟨w.heap.size, k, none⟩ (.bool (B k)))) := hB.setCell (p := ⟨w.heap.size, k, none⟩) (Nat.le_refl _) _
        clear hR hB hx hc0
        go_wp2
        go_roundw
        case rel => exact ⟨k + 1, by omega, by go_num, R1.out, B1.out⟩
        case measure => simp [intOf]; omega
      · have H : Hid (RowAt wr (some ⟨w.heap.size, 0, none⟩) n fun i => .bool (B i)) := RowAt.own hR (fun i hi => half_all _ _ _ _ (by omega))
        have HB : Hid (Below w.heap.size w wr) := hB
        clear hR hB
        go_wp2
        go_ret
        exact Cloned.mk _ _ H.out HB.out
set_option maxHeartbeats 400000 in
theorem cloneS_any (a : Option Addr) (n c : Nat) (K : Nat → ByteArray) (w : World) (ha : a = none → n = 0) (hn : n ≤ 65536) (hr : RowAt w a n fun i => .string (K i)) :
    Calls Trym.prog 7 #[.slice a n c] w fun e w' => Cloned w n (fun i => .string (K i)) e w' := by
  have hnil := fun (W : World) (a : Option Addr) (n c n' c' : Nat) => Lib.run_eql_slice_nil (P := Trym.prog) W 23 9 a n c n' c' Trym.underlying23
  cases a with
  | none =>
    obtain rfl := ha rfl
    clear ha hr
    go_enter Trym.func7, Trym.ntmps7
    go_wp2
    go_ret
    exact Cloned.mk none 0 (RowAt.zero _ _ _) (Below.refl _ _)
  | some x =>
    clear ha
    have hmk := fun W => run_make_row' (P := Trym.prog) 23 9 (.string ⟨#[]⟩) 16 Trym.underlying23 Trym.info9 rfl .i64 .i64 n (by omega) (by omega) W
    have R0 := World.rowIs_made w (.string ⟨#[]⟩) n 9
    have B0 := (Below.refl w.heap.size w).alloc (Nat.le_refl _) (.cells (madeCells #[.string ⟨#[]⟩] n) 9)
    have HR : Hid (RowAt w (some x) n fun i => .string (K i)) := hr
    clear hr
    go_enter Trym.func7, Trym.ntmps7
    go_wp2
    go_loopw [4] (fun i wr => ∃ k : Nat, k ≤ n ∧ i = .int .i64 k ∧ wr.rowIs w.heap.size 9 n (half (.string ⟨#[]⟩) (fun i => .string (K i)) k) ∧ Below w.heap.size w wr) (fun i _ => n - (intOf i).toNat)
    case atStart => exact ⟨0, Nat.zero_le _, rfl, R0.congr (fun i _ => rfl), B0⟩
    case round =>
      obtain ⟨k, hk, rfl, hR, hB⟩ := hrel
      clear R0 B0
      by_cases hlt : k < n
      · obtain ⟨b, off, hx, hbw, hc0⟩ := HR.out k hlt
        obtain rfl : x = ⟨b, off, none⟩ := Option.some.inj hx
        have hc : wr.cell? ⟨b, off + k, none⟩ = some (.string (K k)) := (hB.cell (p := ⟨b, off + k, none⟩) hbw).trans hc0
        have hd : wr.cell? ⟨w.heap.size, k, none⟩ = some (.string ⟨#[]⟩) := by rw [hR.cell hlt, half_here]
        have hf := hR.frozen k
        have R1 : Hid ((wr.setCell ⟨w.heap.size, k, none⟩ (.string (K k))).rowIs w.heap.size 9 n (half (.string ⟨#[]⟩) (fun i => .string (K i)) (k + 1))) := (hR.set k (.string (K k))).congr (fun j _ => half_next _ (fun i => .string (K i)) k j)
        have B1 : Hid (Below w.heap.size w (wr.setCell ⟨w.heap.size, k, none⟩ (.string (K k)))) := hB.setCell (p := ⟨w.heap.size, k, none⟩) (Nat.le_refl _) _
        clear hR hB hx hc0
        go_wp2
        go_roundw
        case rel => exact ⟨k + 1, by omega, by go_num, R1.out, B1.out⟩
        case measure => simp [intOf]; omega
      · have H : Hid (RowAt wr (some ⟨w.heap.size, 0, none⟩) n fun i => .string (K i)) := RowAt.own hR (fun i hi => half_all _ _ _ _ (by omega))
        have HB : Hid (Below w.heap.size w wr) := hB
        clear hR hB
        go_wp2
        go_ret
        exact Cloned.mk _ _ H.out HB.out
end Go.Proofs.Qxb6601096aMods

/-
  THE SMALL CONTRACTS of 'Rows.FnWalkFromBatchFollowsThePathSaid': 'item', 'member', 'zzWireB1StepMatches', 'zzWireB1PathSpot': each computes its plain function (Qxb6601096aModsPlain) and leaves the world as it was.
-/
import Derived.Test.Qxb6601096aModsRows
import Derived.Test.Qxb6601096aModsPlain
import Derived.WalkKit
import Derived.WalkSpells
import Derived.Lib.SlBytesRow
namespace Go.Proofs.Qxb6601096aMods
open Go.RowKit

theorem ret_int {k : IntKind} {a b : Int} (h : a = b) : Ending.returned (.int k a) = .returned (.int k b) := by rw [h]
theorem ret_bool {a b : Bool} (h : a = b) : Ending.returned (.bool a) = .returned (.bool b) := by rw [h]

theorem item_any (s : Int) (w : World) : Calls Trym.prog 8 #[.int .i64 s] w fun e w' => e = .returned (.int .i64 (itemS s)) ∧ w' = w := by
  by_cases h2 : s = 2
  · subst h2
    go_enter Trym.func8, Trym.ntmps8
    go_wp2
    go_ret
    exact ⟨rfl, rfl⟩
  · by_cases h7 : s = 7
    · subst h7
      go_enter Trym.func8, Trym.ntmps8
      go_wp2
      go_ret
      exact ⟨rfl, rfl⟩
    · have e2 : (s == 2) = false := by simpa using h2
      have e7 : (s == 7) = false := by simpa using h7
      have h0 : Hid (itemS s = 0) := by unfold itemS; rw [if_neg h2, if_neg h7]; exact rfl
      clear h2 h7
      go_enter Trym.func8, Trym.ntmps8
      go_wp2
      go_ret
      exact ⟨ret_int h0.out.symm, rfl⟩

theorem member_any (s : Int) (k : ByteArray) (b cap : Nat) (w : World) (hb : Lib.Bytes w b 0 k) : Calls Trym.prog 9 #[.int .i64 s, .slice (some ⟨b, 0, none⟩) k.size cap] w fun e w' => e = .returned (.int .i64 (memberS s k)) ∧ w' = w := by
  have hc := Lib.run_convert_whole w 29 5 9 Trym.underlying29 Trym.underlying5 Trym.underlying9 b 0 k hb cap
  clear hb
  go_enter Trym.func9, Trym.ntmps9
  go_wp2
  all_goals
    go_ret
    refine ⟨ret_int ?_, rfl⟩
    clear hc
    simp_all [memberS]

set_option maxHeartbeats 1000000 in
theorem match_any (d : Int) (b : Bool) (k : ByteArray) (w : World) : Calls Trym.prog 10 #[.int .i64 d, .bool b, .string k] w fun e w' => e = .returned (.bool (matchB d b k)) ∧ w' = w := by
  go_enter Trym.func10, Trym.ntmps10
  go_wp2
  all_goals
    go_ret
    refine ⟨ret_bool ?_, rfl⟩
    simp_all [matchB]

theorem spot_any (d : Int) (h0 : 0 ≤ d) (h7 : d ≤ 7) (w : World) : Calls Trym.prog 11 #[.int .i64 d] w fun e w' => e = .returned (.int .i64 (d + 1)) ∧ w' = w := by
  have h : d = 0 ∨ d = 1 ∨ d = 2 ∨ d = 3 ∨ d = 4 ∨ d = 5 ∨ d = 6 ∨ d = 7 := by omega
  clear h0 h7
  rcases h with rfl | rfl | rfl | rfl | rfl | rfl | rfl | rfl
  all_goals
    go_enter Trym.func11, Trym.ntmps11
    go_wp2
    go_ret
    exact ⟨rfl, rfl⟩
end Go.Proofs.Qxb6601096aMods

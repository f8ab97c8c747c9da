/-
  A PROOF OF 'Rows.FnHowDecodesToModeAndWaitSaid'. The frame was written by the guide's program (proof-skeleton) at this function's number and types; the two contracts ('how', 'decodeHow') and the walk are filled by hand.
-/
import Derived.Test.Qxb6001393aModsRows
import Derived.WalkKit
import Derived.ProofKit
import Derived.OpenShut
import Derived.ShutString
namespace Go.Proofs.Qxb6001393aMods.fnHowDecodesToModeAndWait
open Go.ChangeShapes Go.WideShapes Go.ChangeAt Go.RowKit
open Go.ChangeMaps (open_string shut_string)
set_option linter.unusedVariables false      -- a walk need not use every 'w<i>' (that an integer argument fits its kind)

theorem own : ownKnob Trym.prog.godebug = none := by kernel_rfl

/-- The element of a '[3]string' at each of its three places. -/
theorem idx (x0 x1 x2 : ByteArray) (w : World) : (Instr.index 27 (.agg #[.string x0, .string x1, .string x2]) (.int .i64 0)).run Trym.prog w = .ok (.string x0) w ∧
    (Instr.index 27 (.agg #[.string x0, .string x1, .string x2]) (.int .i64 1)).run Trym.prog w = .ok (.string x1) w ∧
    (Instr.index 27 (.agg #[.string x0, .string x1, .string x2]) (.int .i64 2)).run Trym.prog w = .ok (.string x2) w := ⟨by kernel_rfl, by kernel_rfl, by kernel_rfl⟩

/-- The two bytes that 'how' writes: the mode's letter and the wait's digit. -/
def word (b : Bool) (k : Int) : ByteArray := ⟨#[if b then 115 else 120, if k = 0 then 48 else if k = 1 then 49 else 50]⟩

theorem how_any (b : Bool) (k : Int) (hk : k = 0 ∨ k = 1 ∨ k = 2) (w : World) :
    Calls Trym.prog 5 #[.bool b, .int .i64 k] w fun e w' => e = .returned (.string (word b k)) ∧ w' = w := by
  have i0 := fun x0 x1 x2 w => (idx x0 x1 x2 w).1
  have i1 := fun x0 x1 x2 w => (idx x0 x1 x2 w).2.1
  have i2 := fun x0 x1 x2 w => (idx x0 x1 x2 w).2.2
  rcases hk with rfl | rfl | rfl
  all_goals
    cases b
    all_goals
      go_enter Trym.func5, Trym.ntmps5
      go_wp2
      go_ret
      exact ⟨rfl, rfl⟩

theorem dec_any (b : Bool) (k : Int) (hk : k = 0 ∨ k = 1 ∨ k = 2) (w : World) :
    Calls Trym.prog 6 #[.string (word b k)] w fun e w' => e = .returned (.tuple #[.bool b, .int .i64 k, .bool true]) ∧ w' = w := by
  rcases hk with rfl | rfl | rfl
  · cases b
    · rw [show word false 0 = ⟨#[120, 48]⟩ from rfl]
      go_enter Trym.func6, Trym.ntmps6
      go_wp2
      go_ret3
      exact ⟨rfl, rfl⟩
    · rw [show word true 0 = ⟨#[115, 48]⟩ from rfl]
      go_enter Trym.func6, Trym.ntmps6
      go_wp2
      go_ret3
      exact ⟨rfl, rfl⟩
  · cases b
    · rw [show word false 1 = ⟨#[120, 49]⟩ from rfl]
      go_enter Trym.func6, Trym.ntmps6
      go_wp2
      go_ret3
      exact ⟨rfl, rfl⟩
    · rw [show word true 1 = ⟨#[115, 49]⟩ from rfl]
      go_enter Trym.func6, Trym.ntmps6
      go_wp2
      go_ret3
      exact ⟨rfl, rfl⟩
  · cases b
    · rw [show word false 2 = ⟨#[120, 50]⟩ from rfl]
      go_enter Trym.func6, Trym.ntmps6
      go_wp2
      go_ret3
      exact ⟨rfl, rfl⟩
    · rw [show word true 2 = ⟨#[115, 50]⟩ from rfl]
      go_enter Trym.func6, Trym.ntmps6
      go_wp2
      go_ret3
      exact ⟨rfl, rfl⟩

/-! ### STEP 1: THE WALK: the Go text returns true. 'Grown w w'': the world has at most new blocks (Derived/RowKit3.lean). Part the cases AHEAD of 'go_enter' where a test parts the walk; take each callee by a contract of your own. -/
theorem walk (a0 : Bool) (a1 : Int) (w1 : (Lit.int .i64 a1).wf = true) (w : World) :
    Calls Trym.prog 3 #[.bool a0, .int .i64 a1] w fun e w' => e = .returned (.bool true) ∧ Grown w w' := by
  by_cases c0 : a1 < 0
  · go_enter Trym.func3, Trym.ntmps3
    go_wp2
    go_ret
    exact ⟨rfl, by repeat (first | exact Grown.refl _ | apply Grown.drew | apply Grown.alloc)⟩
  · by_cases c1 : 2 < a1
    · go_enter Trym.func3, Trym.ntmps3
      go_wp2
      go_ret
      exact ⟨rfl, by repeat (first | exact Grown.refl _ | apply Grown.drew | apply Grown.alloc)⟩
    · have hk : a1 = 0 ∨ a1 = 1 ∨ a1 = 2 := by omega
      go_enter Trym.func3, Trym.ntmps3
      go_wp2_with (first | (go_at_call 5; refine (how_any _ _ hk _).mono ?_; rintro e w' ⟨rfl, rfl⟩) | (go_at_call 6; refine (dec_any _ _ hk _).mono ?_; rintro e w' ⟨rfl, rfl⟩))
      go_ret
      exact ⟨by simp, by repeat (first | exact Grown.refl _ | apply Grown.drew | apply Grown.alloc)⟩

/-! ### THE ROW's STEP: WRITTEN OUT: LEAVE IT -/
set_option maxRecDepth 100000 in
theorem lifted (os : Os) (started : os.Started) (H : Type) (enc : TypeId × Value → H) :
    ReturnsInHanded {} Trym.checked os 3 .any (Rows.fnHowDecodesToModeAndWaitSpec.pre6 enc Trym.prog Trym.f3 Rows.fnHowDecodesToModeAndWaitRow.domain false) (Rows.fnHowDecodesToModeAndWaitSpec.post enc Trym.prog Trym.f3 false true false false) := by
  refine returnsInHanded_of_change (C := Trym.checked) own started (by kernel_rfl) Trym.func3
    (ChangeSpec.witness6 (enc := enc) (C := Trym.checked) false ⟨#[], #[.bool false, .int .i64 0], []⟩ 8 (by kernel_rfl) (by kernel_rfl) (by kernel_rfl) (by kernel_rfl)) ?_
  intro W base args ds gs before hval0 hW hcnd _
  have hval : ∀ (j : Nat) t v, Trym.f3.params[j]? = some t → args[j]? = some v → Value.okWide Trym.prog W .any base t v := hval0
  have hW' := hW
  obtain ⟨p, q, hA0, hV, rfl, hfz, hnd⟩ := hW
  have hA : DataW.TrodAll enc Trym.prog W 0 (fun _ => true) true Trym.f3.params.toList args.toList ds p := hA0
  rw [Trym.params3] at hA hval
  obtain ⟨v0, vs0, d0, ds0, p0, q0, hargs, rfl, rfl, h0, r0⟩ := trodAll_cons hA
  obtain ⟨v1, vs1, d1, ds1, p1, q1, rfl, rfl, rfl, h1, r1⟩ := trodAll_cons r0
  obtain ⟨rfl, rfl, rfl⟩ := trodAll_nil r1
  obtain rfl : args = #[v0, v1] := by cases args; simp_all
  obtain ⟨rfl, rfl⟩ := trodVars_none hV
  obtain ⟨a0, rfl, rfl, rfl⟩ := open_bool Trym.underlying4 (hval 0 4 v0 rfl rfl) h0
  obtain ⟨a1, rfl, rfl, rfl, w1⟩ := open_int Trym.underlying3 (hval 1 3 v1 rfl rfl) h1
  clear hA0 hval0
  simp only [List.append_nil] at hW'
  refine (walk a0 a1 w1 W).mono fun e W' ⟨he, hg⟩ => ?_
  subst he
  exact ⟨_, rfl, post_of_same (pa := []) (pv := []) hW' (fun _ _ _ => (trodAll_cons_mk (shut_bool Trym.underlying4 _) trodAll_mk0)) (fun sp _ => (trodAll_cons_mk (shut_bool Trym.underlying4 _) (trodAll_cons_mk (shut_int Trym.underlying3 w1) trodAll_mk0))) (fun _ _ => rfl) rfl
    (hg.frame _) hg.2.1 (ok_one (by kernel_rfl) rfl (okWide_bool_mk Trym.underlying4 _))⟩

theorem over : Rows.fnHowDecodesToModeAndWaitRow.holds Trym.pinned (OpenSpec.ofChange Rows.fnHowDecodesToModeAndWaitSpec) :=
  OpenClaim.holds_of_wide 3 Trym.f3 rfl rfl rfl rfl rfl rfl rfl ⟨rfl, rfl, rfl, rfl, rfl⟩ rfl rfl rfl rfl rfl (by kernel_rfl) Trym.func3 (by kernel_rfl)
    (of_decide_eq_true (by kernel_rfl)) (by unfold Func.isWrapper; first | (rw [if_pos (by decide +kernel)]; kernel_rfl) | (rw [if_neg (by decide +kernel)]; exact ⟨rfl, rfl⟩))
    (fun os started H enc _ => lifted os started H enc)

/-- ████ THE STATEMENT ████ -/
theorem proved : Rows.FnHowDecodesToModeAndWaitSaid :=
  over
end Go.Proofs.Qxb6001393aMods.fnHowDecodesToModeAndWait

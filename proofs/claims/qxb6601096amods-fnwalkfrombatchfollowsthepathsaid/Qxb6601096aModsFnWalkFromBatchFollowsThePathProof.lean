/-
  A PROOF OF 'Rows.FnWalkFromBatchFollowsThePathSaid': the row's step (the guide's template for a law over slices, turned to a []bool and a []string) over the walk of ..Main.
-/
import Derived.Test.Qxb6601096aModsMain
import Derived.ProofKit
import Derived.OpenShut
import Derived.ChangeOld
import Derived.Below
import Derived.Deep.Strs
import Derived.Deep.Grids
namespace Go.Proofs.Qxb6601096aMods.fnWalkFromBatchFollowsThePath
open Go.ChangeShapes Go.WideShapes Go.ChangeAt Go.RowKit Go.Deep

theorem own : ownKnob Trym.prog.godebug = none := by kernel_rfl
theorem laidOut : laidOutB Trym.prog = true := by kernel_rfl

theorem cell_lt {w : World} {p : Addr} {v : Value} (h : w.cell? p = some v) : p.block < w.heap.size := by
  rcases Nat.lt_or_ge p.block w.heap.size with h' | h'
  · exact h'
  · simp [World.cell?, Array.getElem?_eq_none h'] at h

theorem row_of {w : World} {a : Addr} {n : Nat} {f : Nat → Value} (h : ∀ i, i < n → w.cell? (a.add i) = some (f i)) : RowAt w (some a) n f := fun i hi => by
  obtain ⟨b, off, spot⟩ := a
  have hs : spot = none := by simpa [Addr.add] using World.cell?_spot (h 0 (by omega))
  subst hs
  have hc := h i hi
  rw [add_plain] at hc
  exact ⟨b, off, rfl, cell_lt hc, hc⟩

set_option maxRecDepth 100000 in
theorem lifted (os : Os) (started : os.Started) (H : Type) (enc : TypeId × Value → H) :
    ReturnsInHanded {} Trym.checked os 3 .any (Rows.fnWalkFromBatchFollowsThePathSpec.pre6 enc Trym.prog Trym.f3 Rows.fnWalkFromBatchFollowsThePathRow.domain false) (Rows.fnWalkFromBatchFollowsThePathSpec.post enc Trym.prog Trym.f3 false true false false) := by
  refine returnsInHanded_of_change (C := Trym.checked) own started (by kernel_rfl) Trym.func3
    (ChangeSpec.witness6 (enc := enc) (C := Trym.checked) false ⟨#[], #[.slice none 0 0, .slice none 0 0], []⟩ 8 (by kernel_rfl) (by kernel_rfl) (by kernel_rfl) (by kernel_rfl)) ?_
  intro W base args ds gs before hval0 hW hcnd _
  have hval : ∀ (j : Nat) t v, Trym.f3.params[j]? = some t → args[j]? = some v → Value.okWide Trym.prog W .any base t v := hval0
  have hW' := hW
  obtain ⟨p, q, hA0, hV, rfl, hfz, hnd⟩ := hW
  have hA : DataW.TrodAll enc Trym.prog W 0 (fun _ => true) true Trym.f3.params.toList args.toList ds p := hA0
  rw [Trym.params3] at hA hval
  obtain ⟨v0, vs0, d0, ds0, p0, q0, hargs, rfl, rfl, h0, r0⟩ := trodAll_cons hA
  obtain ⟨v1, vs1, d1, ds1, p1, q1, rfl, rfl, rfl, h1, r1⟩ := trodAll_cons r0
  obtain ⟨rfl, rfl, rfl⟩ := trodAll_nil r1
  obtain rfl : args = #[v0, v1] := by cases args; simp_all
  obtain ⟨rfl, rfl⟩ := trodVars_none hV
  obtain ⟨a0, len0, cap0, rfl⟩ := okWide_slice Trym.underlying22 (hval 0 22 v0 rfl rfl)
  obtain ⟨a1, len1, cap1, rfl⟩ := okWide_slice Trym.underlying23 (hval 1 23 v1 rfl rfl)
  have k0 := h0
  have lt0 : ∀ x ∈ p0, x.block < W.heap.size := by obtain ⟨m, hm⟩ := k0; exact DataW.trod_lt m _ _ _ hm
  have k1 := h1
  have lt1 : ∀ x ∈ p1, x.block < W.heap.size := by obtain ⟨m, hm⟩ := k1; exact DataW.trod_lt m _ _ _ hm
  obtain ⟨B, hn, hz0, hr0⟩ : ∃ B : Nat → Bool, len0 ≤ maxLen ∧ (a0 = none → len0 = 0) ∧ RowAt W a0 len0 fun i => .bool (B i) := by
    obtain ⟨fuel, hf⟩ := h0
    rcases open_bools Trym.underlying22 Trym.underlying4 (by kernel_rfl) hf with ⟨hcs, _⟩ | ⟨x, l, c, B, hcs, _, hl, hm, _, hcell⟩
    · simp [Value.cells] at hcs
      obtain ⟨rfl, rfl, rfl⟩ := hcs
      exact ⟨fun _ => false, Nat.zero_le _, fun _ => rfl, RowAt.zero _ _ _⟩
    · simp [Value.cells] at hcs
      obtain ⟨rfl, rfl, rfl⟩ := hcs
      exact ⟨B, Nat.le_trans hl hm, fun h => by simp at h, row_of fun i hi => hcell i (Nat.lt_of_lt_of_le hi hl)⟩
  obtain ⟨K, hm, hK, hz1, hr1⟩ : ∃ K : Nat → ByteArray, len1 ≤ maxLen ∧ (∀ i, i < len1 → (K i).size ≤ maxLen) ∧ (a1 = none → len1 = 0) ∧ RowAt W a1 len1 fun i => .string (K i) := by
    obtain ⟨fuel, hf⟩ := h1
    rcases open_strs Trym.underlying23 Trym.underlying9 (by kernel_rfl) hf with ⟨hcs, _⟩ | ⟨x, l, c, m, Sx, hcs, _, hl, hm, hmm, _, hcell⟩
    · simp [Value.cells] at hcs
      obtain ⟨rfl, rfl, rfl⟩ := hcs
      exact ⟨fun _ => ⟨#[]⟩, Nat.zero_le _, fun i hi => absurd hi (Nat.not_lt_zero i), fun _ => rfl, RowAt.zero _ _ _⟩
    · simp [Value.cells] at hcs
      obtain ⟨rfl, rfl, rfl⟩ := hcs
      simp only [if_true] at hmm
      subst hmm
      exact ⟨Sx, Nat.le_trans hl hm, fun i hi => (hcell i (Nat.lt_of_lt_of_le hi hl)).2, fun h => by simp at h, row_of fun i hi => (hcell i (Nat.lt_of_lt_of_le hi hl)).1⟩
  clear hA0 hval0
  refine (walk a0 a1 len0 cap0 len1 cap1 B K W hn hm hK hz0 hz1 hr0 hr1).mono fun e W' ⟨he, bel⟩ => ?_
  subst he
  exact ⟨_, rfl, _, _, _, [], _, [], hW', trodAll_mk1 (shut_bool Trym.underlying4 _), (trodAll_cons_mk (Below.trod laidOut (by kernel_rfl) (of_decide_eq_true (by kernel_rfl)) k0 bel lt0) (trodAll_cons_mk (Below.trod laidOut (by kernel_rfl) (of_decide_eq_true (by kernel_rfl)) k1 bel lt1) trodAll_mk0)), rfl, bel.frame _, fun h => by cases h⟩

theorem over : Rows.fnWalkFromBatchFollowsThePathRow.holds Trym.pinned (OpenSpec.ofChange Rows.fnWalkFromBatchFollowsThePathSpec) :=
  OpenClaim.holds_of_wide 3 Trym.f3 rfl rfl rfl rfl rfl rfl rfl ⟨rfl, rfl, rfl, rfl, rfl⟩ rfl rfl rfl rfl rfl (by kernel_rfl) Trym.func3 (by kernel_rfl)
    (of_decide_eq_true (by kernel_rfl)) (by unfold Func.isWrapper; first | (rw [if_pos (by decide +kernel)]; kernel_rfl) | (rw [if_neg (by decide +kernel)]; exact ⟨rfl, rfl⟩))
    (fun os started H enc _ => lifted os started H enc)

/-- ████ THE STATEMENT ████ -/
theorem proved : Rows.FnWalkFromBatchFollowsThePathSaid := over
end Go.Proofs.Qxb6601096aMods.fnWalkFromBatchFollowsThePath

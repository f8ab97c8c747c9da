/-
  THE WALK of 'FnWalkFromBatchFollowsThePath': it returns true; old memory is as it was. The callees by their contracts (..Steps, ..Clones); the law by ..Plain.
-/
import Derived.Test.Qxb6601096aModsSteps
import Derived.Test.Qxb6601096aModsClones
import Derived.Lib.ConvBytes
namespace Go.Proofs.Qxb6601096aMods
open Go.RowKit

/-- The key of step i, the empty one where the keys are short. -/
def keyOf (K : Nat → ByteArray) (m i : Nat) : ByteArray := if i < m then K i else ⟨#[]⟩

theorem bytes_below {B : Nat} {a w : World} (h : Below B a w) (hB : B ≤ w.heap.size) (e : TypeId) (s : ByteArray) : Below B a (Lib.bytesWorld w e s) :=
  h.trans ⟨rfl, rfl, rfl, by rw [Lib.bytesWorld_size]; omega, fun k hk => Lib.bytesWorld_at_old w e s k (by omega)⟩

theorem bytes_row (w : World) (e : TypeId) (s : ByteArray) : Lib.Bytes (Lib.bytesWorld w e s) w.heap.size 0 s := fun i hi => by
  rw [Nat.zero_add, Lib.bytesWorld_cell w e s i hi]
  have : s.data.toList.getD i 0 = s[i] := by
    have hl : i < s.data.toList.length := by simpa using hi
    simp [List.getD, List.getElem?_eq_getElem hl]; rfl
  rw [this]

/-- '[]byte(s)': a new row of s's bytes; all else as it was. -/
theorem conv_any (s : ByteArray) {w2 wr : World} (h : Below w2.heap.size w2 wr) : ∃ cap W1, (convert 9 29 (.string s)).run Trym.prog wr = .ok (.slice (some ⟨wr.heap.size, 0, none⟩) s.size cap) W1 ∧ Below w2.heap.size w2 W1 ∧ Lib.Bytes W1 wr.heap.size 0 s :=
  ⟨_, _, Lib.run_convert_string_bytes (P := Trym.prog) wr 9 29 5 s Trym.underlying9 Trym.underlying29 Trym.underlying5, bytes_below h h.size 5 s, bytes_row wr 5 s⟩

theorem member_empty (s : Int) (b cap : Nat) (w : World) (hb : Lib.Bytes w b 0 ⟨#[]⟩) : Calls Trym.prog 9 #[.int .i64 s, .slice (some ⟨b, 0, none⟩) 0 cap] w fun e w' => e = .returned (.int .i64 (memberS s ⟨#[]⟩)) ∧ w' = w := member_any s ⟨#[]⟩ b cap w hb

set_option maxHeartbeats 1000000 in
theorem walk (a0 a1 : Option Addr) (n c0 m c1 : Nat) (B : Nat → Bool) (K : Nat → ByteArray) (w : World) (hn : n ≤ maxLen) (hm : m ≤ maxLen) (hK : ∀ i, i < m → (K i).size ≤ maxLen)
    (ha0 : a0 = none → n = 0) (ha1 : a1 = none → m = 0) (hr0 : RowAt w a0 n fun i => .bool (B i)) (hr1 : RowAt w a1 m fun i => .string (K i)) :
    Calls Trym.prog 3 #[.slice a0 n c0, .slice a1 m c1] w fun e w' => e = .returned (.bool true) ∧ Below w.heap.size w w' := by
  have HA0 : Hid (a0 = none → n = 0) := ha0
  have HA1 : Hid (a1 = none → m = 0) := ha1
  have C5 : Hid (Calls Trym.prog 5 #[.slice a0 n c0, .slice a1 m c1] w fun e w' => SomeBool e ∧ w' = w) := bytes_any a0 a1 n c0 m c1 K w hn hm hK hr1
  have HK : Hid (∀ i, i < m → (K i).size ≤ 2 ^ 63 - 1) := hK
  unfold maxLen at hn hm
  clear ha0 ha1 hK
  by_cases q0 : (65536 : Int) < (n : Int)
  · go_enter Trym.func3, Trym.ntmps3
    go_wp2_with fail
    refine C5.out.mono ?_
    rintro e w' ⟨⟨b, rfl⟩, hw⟩
    subst w'
    cases b
    all_goals
      go_wp2
      go_ret
      exact ⟨rfl, Below.refl _ _⟩
  · by_cases q1 : (65536 : Int) < (m : Int)
    · go_enter Trym.func3, Trym.ntmps3
      go_wp2_with fail
      refine C5.out.mono ?_
      rintro e w' ⟨⟨b, rfl⟩, hw⟩
      subst w'
      cases b
      all_goals
        go_wp2
        go_ret
        exact ⟨rfl, Below.refl _ _⟩
    · by_cases q2 : (1048576 : Int) < (n : Int) + 16 * (m : Int)
      · go_enter Trym.func3, Trym.ntmps3
        go_wp2_with fail
        refine C5.out.mono ?_
        rintro e w' ⟨⟨b, rfl⟩, hw⟩
        subst w'
        cases b
        all_goals
          go_wp2
          go_ret
          exact ⟨rfl, Below.refl _ _⟩
      · go_enter Trym.func3, Trym.ntmps3
        go_wp2_with fail
        refine C5.out.mono ?_
        rintro e w' ⟨⟨b, rfl⟩, hw⟩
        subst w'
        clear C5
        cases b
        · go_wp2
          go_ret
          exact ⟨rfl, Below.refl _ _⟩
        go_wp2
        go_loop [5, 6] (fun z i => ∃ (k : Nat) (t : Int), k ≤ m ∧ 0 ≤ t ∧ t ≤ 1048576 ∧ i = .int .i64 k ∧ z = .int .i64 t) (fun _ i => m - (intOf i).toNat)
        case atStart => exact ⟨0, _, Nat.zero_le _, by omega, by omega, rfl, rfl⟩
        case round =>
          obtain ⟨k, t, hk, ht0, ht1, rfl, rfl⟩ := hrel
          by_cases hlt : k < m
          · obtain ⟨s, hs⟩ : ∃ s, s = K k := ⟨_, rfl⟩
            obtain ⟨b, off, rfl, hbw, hc0⟩ := hr1 k hlt
            have hc : w.cell? ⟨b, off + k, none⟩ = some (.string s) := by rw [hs]; exact hc0
            have hz : s.size ≤ 2 ^ 63 - 1 := by rw [hs]; exact HK.out k hlt
            clear hs hc0
            by_cases q3 : 1048576 - t < (s.size : Int)
            · go_wp2
              go_ret
              exact ⟨rfl, Below.refl _ _⟩
            · go_wp2
              go_round
              case rel => exact ⟨k + 1, _, by omega, by omega, by omega, by go_num, rfl⟩
              case measure => simp [intOf]; omega
          · go_wp2_with fail
            refine (cloneB_any a0 n c0 B w HA0.out (by omega) hr0).mono ?_
            rintro e w1 ⟨a0', c0', rfl, hr0', hb1⟩
            go_wp2_with fail
            refine (cloneS_any a1 m c1 K w1 HA1.out (by omega) (hr1.below hb1)).mono ?_
            rintro e w2 ⟨a1', c1', rfl, hr1', hb2⟩
            have R0 : RowAt w2 a0' n fun i => .bool (B i) := hr0'.below hb2
            have HB : Hid (Below w.heap.size w w2) := hb1.trans (hb2.mono hb1.size)
            clear hr0 hr1 hr0' hb1 hb2 HA0 HA1 HK
            clear hk ht0 ht1 hlt
            go_wp2
            go_loopw [7, 8] (fun s i wr => ∃ j : Nat, j ≤ n ∧ i = .int .i64 j ∧ s = .int .i64 (walkTo B (keyOf K m) j) ∧ Below w2.heap.size w2 wr) (fun _ i _ => n - (intOf i).toNat)
            case atStart => exact ⟨0, Nat.zero_le _, rfl, rfl, Below.refl _ _⟩
            case round =>
              obtain ⟨j, hj, rfl, rfl, hbr⟩ := hrel
              have hw0 := walkTo_bd B (keyOf K m) j
              by_cases hlt : j < n
              · obtain ⟨b, off, rfl, hbw, hc0⟩ := R0 j hlt
                have hc1 : wr.cell? ⟨b, off + j, none⟩ = some (.bool (B j)) := (hbr.cell (p := ⟨b, off + j, none⟩) hbw).trans hc0
                clear hc0
                by_cases hbj : B j = true
                · have hc : wr.cell? ⟨b, off + j, none⟩ = some (.bool true) := by rw [hc1, hbj]
                  have HS : Hid (walkTo B (keyOf K m) (j + 1) = itemS (walkTo B (keyOf K m) j)) := by rw [walkTo_succ]; unfold stepS; rw [if_pos hbj]; exact rfl
                  clear hc1 hbj
                  go_wp2_with (go_at_call 8; refine (item_any _ _).mono ?_; rintro e w' ⟨rfl, rfl⟩)
                  go_roundw
                  case rel => exact ⟨j + 1, by omega, by go_num, by rw [HS.out], hbr⟩
                  case measure => simp [intOf]; omega
                · have hbf : B j = false := by simpa using hbj
                  have hc : wr.cell? ⟨b, off + j, none⟩ = some (.bool false) := by rw [hc1, hbf]
                  clear hc1 hbj
                  by_cases hjm : j < m
                  · obtain ⟨s, hs⟩ : ∃ s, s = K j := ⟨_, rfl⟩
                    have HS : Hid (walkTo B (keyOf K m) (j + 1) = memberS (walkTo B (keyOf K m) j) s) := by rw [walkTo_succ]; unfold stepS; rw [hbf, if_neg (by decide)]; unfold keyOf; rw [if_pos hjm, hs]; exact rfl
                    obtain ⟨b1, off1, rfl, hbw1, hk0⟩ := hr1' j hjm
                    have hk1 : wr.cell? ⟨b1, off1 + j, none⟩ = some (.string s) := by rw [hs]; exact (hbr.cell (p := ⟨b1, off1 + j, none⟩) hbw1).trans hk0
                    obtain ⟨cap, W1, hcv, hbW, hbt⟩ := conv_any s hbr
                    clear hk0 hs hbf hbr
                    go_wp2_with (go_at_call 9; refine (member_any _ s wr.heap.size cap W1 hbt).mono ?_; rintro e w' ⟨rfl, rfl⟩)
                    go_roundw
                    case rel => exact ⟨j + 1, by omega, by go_num, by rw [HS.out], hbW⟩
                    case measure => simp [intOf]; omega
                  · have HS : Hid (walkTo B (keyOf K m) (j + 1) = memberS (walkTo B (keyOf K m) j) ⟨#[]⟩) := by rw [walkTo_succ]; unfold stepS; rw [hbf, if_neg (by decide)]; unfold keyOf; rw [if_neg hjm]; exact rfl
                    obtain ⟨cap, W1, hcv0, hbW, hbt⟩ := conv_any ⟨#[]⟩ hbr
                    have hcv : (convert 9 29 (.string ⟨#[]⟩)).run Trym.prog wr = .ok (.slice (some ⟨wr.heap.size, 0, none⟩) 0 cap) W1 := hcv0
                    clear hcv0 hbf hbr
                    go_wp2_with (go_at_call 9; refine (member_empty _ wr.heap.size cap W1 hbt).mono ?_; rintro e w' ⟨rfl, rfl⟩)
                    go_roundw
                    case rel => exact ⟨j + 1, by omega, by go_num, by rw [HS.out], hbW⟩
                    case measure => simp [intOf]; omega
              · obtain rfl : j = n := by omega
                have R2 : RowAt wr a0' j fun i => .bool (B i) := R0.below hbr
                have R3 : RowAt wr a1' m fun i => .string (K i) := hr1'.below hbr
                have HW : Hid (Below w.heap.size w wr) := HB.out.trans (hbr.mono HB.out.size)
                clear hbr HB R0 hr1'
                by_cases h7 : (7 : Int) < (j : Int)
                · have HL : Hid (walkTo B (keyOf K m) j = 0) := long_law B (keyOf K m) j (by omega)
                  go_wp2
                  go_ret
                  exact ⟨ret_bool (by rw [HL.out]; rfl), HW.out⟩
                · go_wp2
                  go_loop [12, 13] (fun ok i => ∃ d : Nat, d ≤ j ∧ i = .int .i64 d ∧ ok = .bool true ∧ allM B (keyOf K m) d = true) (fun _ i => j - (intOf i).toNat)
                  case atStart => exact ⟨0, Nat.zero_le _, rfl, rfl, rfl⟩
                  case round =>
                    obtain ⟨d, hd, rfl, rfl, hall⟩ := hrel
                    have HALL : Hid (allM B (keyOf K m) d = true) := hall
                    clear hall
                    by_cases hlt : d < j
                    · obtain ⟨b, off, rfl, hbw, hc0⟩ := R2 d hlt
                      have hc : wr.cell? ⟨b, off + d, none⟩ = some (.bool (B d)) := hc0
                      clear hc0
                      by_cases hdm : d < m
                      · obtain ⟨s, hs⟩ : ∃ s, s = K d := ⟨_, rfl⟩
                        have HK : Hid (keyOf K m d = s) := by unfold keyOf; rw [if_pos hdm, hs]; exact rfl
                        obtain ⟨b1, off1, rfl, hbw1, hk0⟩ := R3 d hdm
                        have hk1 : wr.cell? ⟨b1, off1 + d, none⟩ = some (.string s) := by rw [hs]; exact hk0
                        clear hk0 hs
                        by_cases hM : matchB (d : Int) (B d) s = true
                        · have HN : Hid (allM B (keyOf K m) (d + 1) = true) := by rw [allM_succ, HALL.out, HK.out, hM]; exact rfl
                          go_wp2_with (go_at_call 10; refine (match_any _ _ s _).mono ?_; rintro e w' ⟨rfl, rfl⟩)
                          go_round
                          case rel => exact ⟨d + 1, by omega, by go_num, rfl, HN.out⟩
                          case measure => simp [intOf]; omega
                        · have hF : matchB (d : Int) (B d) s = false := by simpa using hM
                          have HL : Hid (walkTo B (keyOf K m) j = 0) := off_law B (keyOf K m) j d hlt (by rw [HK.out]; exact hF)
                          clear hM
                          go_wp2_with (go_at_call 10; refine (match_any _ _ s _).mono ?_; rintro e w' ⟨rfl, rfl⟩)
                          go_ret
                          exact ⟨ret_bool (by rw [HL.out]; rfl), HW.out⟩
                      · have HK : Hid (keyOf K m d = ⟨#[]⟩) := by unfold keyOf; rw [if_neg hdm]; exact rfl
                        by_cases hM : matchB (d : Int) (B d) ⟨#[]⟩ = true
                        · have HN : Hid (allM B (keyOf K m) (d + 1) = true) := by rw [allM_succ, HALL.out, HK.out, hM]; exact rfl
                          go_wp2_with (go_at_call 10; refine (match_any _ _ ⟨#[]⟩ _).mono ?_; rintro e w' ⟨rfl, rfl⟩)
                          go_round
                          case rel => exact ⟨d + 1, by omega, by go_num, rfl, HN.out⟩
                          case measure => simp [intOf]; omega
                        · have hF : matchB (d : Int) (B d) ⟨#[]⟩ = false := by simpa using hM
                          have HL : Hid (walkTo B (keyOf K m) j = 0) := off_law B (keyOf K m) j d hlt (by rw [HK.out]; exact hF)
                          clear hM
                          go_wp2_with (go_at_call 10; refine (match_any _ _ ⟨#[]⟩ _).mono ?_; rintro e w' ⟨rfl, rfl⟩)
                          go_ret
                          exact ⟨ret_bool (by rw [HL.out]; rfl), HW.out⟩
                    · have HL : Hid (walkTo B (keyOf K m) j = (j : Int) + 1) := by
                        obtain rfl : d = j := by omega
                        exact on_law B (keyOf K m) d (by omega) HALL.out
                      go_wp2_with (go_at_call 11; refine (spot_any _ (by omega) (by omega) _).mono ?_; rintro e w' ⟨rfl, rfl⟩)
                      go_ret
                      exact ⟨ret_bool (by rw [HL.out]; simp), HW.out⟩
end Go.Proofs.Qxb6601096aMods

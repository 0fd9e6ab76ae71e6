import Derived.Test.Qxb6605511aLowerWalk
import Derived.Deep.QuietTactic
import Derived.BigQuiet
import Derived.WalkSmall
namespace Go.Proofs.Qxb6605511a.Ascii
open Go.RowKit

set_option maxHeartbeats 400000 in
theorem zzlower_any (s : ByteArray) (w : World) (hs : s.size ≤ 1048576) :
    Calls Try.prog 10 #[.string s] w fun e w' => e = .returned (.string (lower s)) ∧ Below w.heap.size w w' := by
  go_enter Try.func10, Try.ntmps10
  go_wp2_with fail
  refine (lower_any s _ hs).mono ?_
  rintro e w' ⟨rfl, hb⟩
  go_wp2
  go_ret
  exact ⟨rfl, hb⟩

set_option maxHeartbeats 400000 in
theorem bytes9_any (s : ByteArray) (w : World) (hs : s.size ≤ maxLen) :
    Calls Try.prog 9 #[.string s] w fun e w' => e = .returned (.bool (decide (s.size ≤ 1048576))) ∧ w' = w := by
  unfold maxLen at hs
  by_cases h : s.size ≤ 1048576
  · go_enter Try.func9, Try.ntmps9
    go_wp2
    go_ret
    exact ⟨ret_bool (by simp [h]), rfl⟩
  · go_enter Try.func9, Try.ntmps9
    go_wp2
    go_ret
    exact ⟨ret_bool (by simp [h]), rfl⟩

set_option maxHeartbeats 1000000 in
theorem match_walk (s : ByteArray) (hs : s.size ≤ maxLen) (w : World) :
    Calls Try.prog 3 #[.string s] w fun e w' => e = .returned (.bool true) ∧ Below w.heap.size w w' := by
  by_cases h : s.size ≤ 1048576
  · have hd : decide (s.size ≤ 1048576) = true := by simp [h]
    have C9 := bytes9_any s w hs
    rw [hd] at C9
    clear hd
    unfold maxLen at hs
    have hl := lower_size s
    have HL : Hid ((lower s).size = s.size) := hl
    have hle : (lower s).size ≤ s.size := by omega
    have hge : s.size ≤ (lower s).size := by omega
    clear hl
    go_enter Try.func3, Try.ntmps3
    go_wp2_with fail
    refine C9.mono ?_
    rintro e w' ⟨rfl, rfl⟩
    clear C9
    go_wp2_with fail
    refine (zzlower_any s _ h).mono ?_
    rintro e w1 ⟨rfl, hb⟩
    go_wp2_with fail
    go_loopw [4] (fun i wr => ∃ k : Nat, k ≤ s.size ∧ i = .int .i64 k ∧ Below w1.heap.size w1 wr) (fun i _ => s.size - (intOf i).toNat)
    case atStart => exact ⟨0, by omega, rfl, Below.refl _ _⟩
    case round =>
      obtain ⟨k, hk, rfl, hw⟩ := hrel
      by_cases hlt : k < s.size
      · have hlt' : k < (lower s).size := by omega
        have hg := lower_get s k hlt hlt'
        go_wp2_with fail
        go_quiet ((go_at_call 11; exact Calls.quiet_of_same (toLower_any _ _)))
        go_wp2
        go_roundw
        case rel => exact ⟨k + 1, by omega, by go_num, below_drewN hw _⟩
        case measure => simp [intOf]; omega
      · go_wp2
        go_ret
        exact ⟨rfl, hb.trans (hw.mono hb.size)⟩
  · have hd : decide (s.size ≤ 1048576) = false := by simp [h]
    have C9 := bytes9_any s w hs
    rw [hd] at C9
    clear hd
    unfold maxLen at hs
    go_enter Try.func3, Try.ntmps3
    go_wp2_with fail
    refine C9.mono ?_
    rintro e w' ⟨rfl, rfl⟩
    go_wp2
    go_ret
    exact ⟨rfl, Below.refl _ _⟩
end Go.Proofs.Qxb6605511a.Ascii

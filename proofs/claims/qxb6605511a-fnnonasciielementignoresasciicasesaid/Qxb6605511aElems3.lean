import Derived.Test.Qxb6605511aFirstWalk
import Derived.Test.Qxb6605511aBytes8
namespace Go.Proofs.Qxb6605511a.Ascii
open Go.RowKit

theorem high_lower (s : ByteArray) : highB (lower s) = highB s := by
  unfold highB lower
  simp only [Array.toList_map, List.any_map]
  congr 1
  funext c
  simp only [Function.comp, highC, low_high]

theorem highO_lower (o : Option ByteArray) : highO (o.map lower) = highO o := by
  cases o with
  | none => rfl
  | some s => exact high_lower s

theorem anyHigh_lower (n : Nat) (ss : Nat → ByteArray) : anyHigh n (fun i => lower (ss i)) = anyHigh n ss := by
  unfold anyHigh; simp only [high_lower]

theorem nonA_lower (s0 s3 s6 : ByteArray) (o1 o4 o5 : Option ByteArray) (n : Nat) (ss : Nat → ByteArray) :
    nonA (lower s0) (lower s3) (lower s6) (o1.map lower) (o4.map lower) (o5.map lower) n (fun i => lower (ss i)) = nonA s0 s3 s6 o1 o4 o5 n ss := by
  unfold nonA; rw [high_lower, high_lower, high_lower, highO_lower, highO_lower, highO_lower, anyHigh_lower]

/-- Some element is not ASCII. -/
def someA (s0 s3 s6 : ByteArray) (o1 o4 o5 : Option ByteArray) : Bool := highB s0 || highO o1 || highB s3 || highO o4 || highO o5 || highB s6

theorem nonA_some (s0 s3 s6 : ByteArray) (o1 o4 o5 : Option ByteArray) (n : Nat) (ss : Nat → ByteArray) :
    (nonA s0 s3 s6 o1 o4 o5 n ss).toList.isEmpty = !(someA s0 s3 s6 o1 o4 o5 || anyHigh n ss) := by
  unfold nonA someA
  generalize highB s0 = x0; generalize highO o1 = x1; generalize highB s3 = x3; generalize highO o4 = x4; generalize highO o5 = x5; generalize highB s6 = x6; generalize anyHigh n ss = x7
  revert x0 x1 x3 x4 x5 x6 x7
  decide +kernel

theorem anyHigh_succ (k : Nat) (ss : Nat → ByteArray) : anyHigh (k + 1) ss = (anyHigh k ss || highB (ss k)) := by
  unfold anyHigh; rw [List.range_succ]; simp

set_option maxHeartbeats 400000 in
theorem foldOK_any (s : ByteArray) (w : World) (hs : s.size ≤ 1048576) :
    Calls Try.prog 26 #[.string s, .string (lower s)] w fun e w' => e = .returned (.bool true) ∧ w' = w := by
  have hl := lower_size s
  have hle : (lower s).size ≤ s.size := by omega
  have hge : s.size ≤ (lower s).size := by omega
  clear hl
  go_enter Try.func26, Try.ntmps26
  go_wp2
  go_loop [5] (fun i => ∃ k : Nat, k ≤ s.size ∧ i = .int .i64 k) (fun i => s.size - (intOf i).toNat)
  case atStart => exact ⟨0, by omega, rfl⟩
  case round =>
    obtain ⟨k, hk, rfl⟩ := hrel
    by_cases hlt : k < s.size
    · have hlt' : k < (lower s).size := by omega
      have hg := lower_get s k hlt hlt'
      have hno := low_noCap s[k]
      by_cases h1 : (65 : Int) ≤ ((lowB s[k]).toNat : Int)
      · have h2 : (90 : Int) < ((lowB s[k]).toNat : Int) := by omega
        clear hno
        go_wp2
        go_round
        case rel => exact ⟨k + 1, by omega, by go_num⟩
        case measure => simp [intOf]; omega
      · clear hno
        go_wp2
        go_round
        case rel => exact ⟨k + 1, by omega, by go_num⟩
        case measure => simp [intOf]; omega
    · go_wp2
      go_ret
      exact ⟨rfl, rfl⟩

set_option maxHeartbeats 400000 in
theorem lowerAt_any (p : Option Addr) (o : Option ByteArray) (w : World) (hp : PtrAt w p o) (ho : Small o) :
    Calls Try.prog 27 #[.pointer p] w fun e w' => ∃ p', e = .returned (.pointer p') ∧ PtrAt w' p' (o.map lower) ∧ Below w.heap.size w w' := by
  rcases hp with ⟨rfl, rfl⟩ | ⟨b, off, s, rfl, rfl, hc, hs⟩
  · go_enter Try.func27, Try.ntmps27
    go_wp2
    go_ret
    exact ⟨none, rfl, .inl ⟨rfl, rfl⟩, Below.refl _ _⟩
  · have hsz := ho s rfl
    clear ho
    go_enter Try.func27, Try.ntmps27
    go_wp2_with fail
    refine (zzlower_any s _ hsz).mono ?_
    rintro e w1 ⟨rfl, hb⟩
    go_wp2_with fail
    go_ret
    refine ⟨_, rfl, .inr ⟨_, _, lower s, rfl, rfl, by simp, ?_⟩, hb.alloc hb.size _⟩
    rw [lower_size]; exact hs

set_option maxHeartbeats 400000 in
theorem foldOKAt_any (p p' : Option Addr) (o : Option ByteArray) (w : World) (hp : PtrAt w p o) (hp' : PtrAt w p' (o.map lower)) (ho : Small o) :
    Calls Try.prog 28 #[.pointer p, .pointer p'] w fun e w' => e = .returned (.bool true) ∧ ∃ m, w' = w.drewN m := by
  rcases hp with ⟨rfl, rfl⟩ | ⟨b, off, s, rfl, rfl, hc, hs⟩
  · rcases hp' with ⟨rfl, _⟩ | ⟨b', off', s', rfl, h, _⟩
    · go_enter Try.func28, Try.ntmps28
      go_wp2
      go_ret
      exact ⟨rfl, 0, rfl⟩
    · cases h
  · rcases hp' with ⟨_, h⟩ | ⟨b', off', s', rfl, h, hc', hs'⟩
    · cases h
    · obtain rfl : lower s = s' := by injection h
      have hsz := ho s rfl
      clear ho h
      go_enter Try.func28, Try.ntmps28
      go_wp2_with fail
      go_quiet ((go_at_call 26; exact Calls.quiet_of_same (foldOK_any s _ hsz)))
      go_wp2_with fail
      go_ret
      exact ⟨rfl, _, rfl⟩

end Go.Proofs.Qxb6605511a.Ascii

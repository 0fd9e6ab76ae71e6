import Derived.Test.Qxb6605511aPunyWalks
import Derived.ProofKit
import Derived.OpenShut
namespace Go.Proofs.Qxb6605511a.Puny
open Go.ChangeShapes Go.WideShapes Go.ChangeAt Go.RowKit

set_option maxHeartbeats 1000000 in
theorem mono_walk (a0 : Int) (a1 : Int) (a2 : Bool) (w0 : (Lit.int .i64 a0).wf = true) (w1 : (Lit.int .i64 a1).wf = true) (w : World) :
    Calls Try.prog 6 #[.int .i64 a0, .int .i64 a1, .bool a2] w fun e w' => e = .returned (.bool true) ∧ Grown w w' := by
  have b0 := bounds_i64 w0
  have b1 := bounds_i64 w1
  clear w0 w1
  by_cases c0 : a0 < 0
  · go_enter Try.func6, Try.ntmps6
    go_wp2
    go_ret
    exact ⟨rfl, Grown.refl _⟩
  by_cases c1 : a0 = 9223372036854775807
  · have hw : wrap64 (a0 + 1) < 0 := by unfold wrap64; omega
    clear c1
    go_enter Try.func6, Try.ntmps6
    go_wp2
    go_ret
    exact ⟨rfl, Grown.refl _⟩
  have c1' : a0 ≤ 9223372036854775806 := by omega
  clear c1
  by_cases c2 : a1 < 1
  · go_enter Try.func6, Try.ntmps6
    go_wp2
    go_ret
    exact ⟨rfl, Grown.refl _⟩
  by_cases c3 : a1 = 9223372036854775807
  · have hw : wrap64 (a1 + 1) < 1 := by unfold wrap64; omega
    clear c3
    go_enter Try.func6, Try.ntmps6
    go_wp2
    go_ret
    exact ⟨rfl, Grown.refl _⟩
  have c3' : a1 ≤ 9223372036854775806 := by omega
  clear c3
  have m1 := adapt_of a0 (a0 + 1) a1 a1 a2 a2 (damp_mono a0 (a0 + 1) a1 a2 (by omega) (by omega) (by omega))
  have m2 := adapt_of a0 a0 (a1 + 1) a1 a2 a2 (damp_points a0 a1 (a1 + 1) a2 (by omega) (by omega) (by omega))
  have m3 := adapt_of a0 a0 a1 a1 true false (damp_first a0 a1 (by omega) (by omega))
  have n0 := adapt_nonneg a0 a1 a2
  have th := adapt_thr a0 a1 a2
  have TH : Hid _ := th
  clear th
  go_enter Try.func6, Try.ntmps6
  go_wp2_with fail
  refine (zzadapt_any a0 a1 a2 _ (by omega) (by omega) (by omega) (by omega)).mono ?_
  rintro e w' ⟨rfl, rfl⟩
  go_wp2_with fail
  refine (zzadapt_any (a0 + 1) a1 a2 _ (by omega) (by omega) (by omega) (by omega)).mono ?_
  rintro e w' ⟨rfl, rfl⟩
  go_wp2_with fail
  refine (zzadapt_any a0 (a1 + 1) a2 _ (by omega) (by omega) (by omega) (by omega)).mono ?_
  rintro e w' ⟨rfl, rfl⟩
  cases a2
  · go_wp2_with fail
    refine (zzadapt_any a0 a1 true _ (by omega) (by omega) (by omega) (by omega)).mono ?_
    rintro e w' ⟨rfl, rfl⟩
    go_wp2_with fail
    refine (damp_any a0 a1 false _ (by omega) (by omega) (by omega) (by omega)).mono ?_
    rintro e w' ⟨rfl, rfl⟩
    have th := TH.out
    go_wp2
    go_ret
    exact ⟨rfl, Grown.refl _⟩
  · go_wp2_with fail
    refine (zzadapt_any a0 a1 false _ (by omega) (by omega) (by omega) (by omega)).mono ?_
    rintro e w' ⟨rfl, rfl⟩
    go_wp2_with fail
    refine (damp_any a0 a1 true _ (by omega) (by omega) (by omega) (by omega)).mono ?_
    rintro e w' ⟨rfl, rfl⟩
    have th := TH.out
    go_wp2
    go_ret
    exact ⟨rfl, Grown.refl _⟩

end Go.Proofs.Qxb6605511a.Puny

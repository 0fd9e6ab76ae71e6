import Derived.Test.Qxb6605511aRows
import Derived.Test.Qxb6605511aPunyPlain
import Derived.WalkKit
import Derived.Outline
namespace Go.Proofs.Qxb6605511a.Puny
open Go.RowKit

theorem ret_int {k : IntKind} {a b : Int} (h : a = b) : Ending.returned (.int k a) = .returned (.int k b) := by rw [h]

set_option maxHeartbeats 400000 in
theorem damp_any (delta points : Int) (first : Bool) (w : World) (h0 : 0 ≤ delta) (h1 : delta ≤ 9223372036854775807) (hp : 1 ≤ points) (hq : points ≤ 9223372036854775807) :
    Calls Try.prog 17 #[.int .i64 delta, .int .i64 points, .bool first] w fun e w' => e = .returned (.int .i64 (damp delta points first)) ∧ w' = w := by
  have hb := damp_bd delta points first h0 hp
  cases first
  · have hd := div_bd (delta / 2) points (by omega) hp
    go_enter Try.func17, Try.ntmps17
    go_wp2
    go_ret
    exact ⟨ret_int (by simp [damp]), rfl⟩
  · have hd := div_bd (delta / 700) points (by omega) hp
    go_enter Try.func17, Try.ntmps17
    go_wp2
    go_ret
    exact ⟨ret_int (by simp [damp]), rfl⟩


/-- The loop's invariant, said on numbers. -/
theorem adapt_loop (D d : Nat) (k : Int) (h : (bias D : Int) = k + bias d) (hd : 455 < d) : (bias D : Int) = (k + 36) + bias (d / 35) := by
  rw [bias_big d hd] at h; omega
theorem adapt_last (D d : Nat) (k : Int) (h : (bias D : Int) = k + bias d) (hd : d ≤ 455) : k + 36 * (d : Int) / ((d : Int) + 38) = (bias D : Int) := by
  rw [bias_small d hd] at h; rw [h]; unfold tail; norm_cast

theorem tail_bd (d : Nat) (hd : d ≤ 455) : 0 ≤ 36 * (d : Int) / ((d : Int) + 38) ∧ 36 * (d : Int) / ((d : Int) + 38) ≤ 33 := by
  have h := tail_le d (by omega); unfold tail at h
  have e : 36 * (d : Int) / ((d : Int) + 38) = ((36 * d / (d + 38) : Nat) : Int) := by norm_cast
  rw [e]; exact ⟨Int.natCast_nonneg _, by exact_mod_cast h⟩

set_option maxHeartbeats 400000 in
theorem adapt_any (delta points : Int) (first : Bool) (w : World) (h0 : 0 ≤ delta) (h1 : delta ≤ 9223372036854775807) (hp : 1 ≤ points) (hq : points ≤ 9223372036854775807) :
    Calls Try.prog 30 #[.int .i64 delta, .int .i64 points, .bool first] w fun e w' => e = .returned (.int .i64 (adapt delta points first)) ∧ w' = w := by
  have hb := damp_bd delta points first h0 hp
  cases first
  all_goals
    have hd1 := div_bd (delta / 2) points (by omega) hp
    have hd2 := div_bd (delta / 700) points (by omega) hp
    simp only [damp, if_true, Bool.false_eq_true, if_false] at hb
    go_enter Try.func30, Try.ntmps30
    go_wp2
  · go_loop [0, 7] (fun t i => ∃ (d : Nat) (k : Int), 0 ≤ k ∧ 12 * k + d ≤ delta ∧ t = .int .i64 d ∧ i = .int .i64 k ∧ (bias (delta / 2 + delta / 2 / points).toNat : Int) = k + bias d) (fun t _ => (intOf t).toNat)
    case atStart => exact ⟨(delta / 2 + delta / 2 / points).toNat, 0, by omega, by omega, by rw [Int.toNat_of_nonneg hb.1], rfl, by omega⟩
    case round =>
      obtain ⟨d, k, hk, hkd, rfl, rfl, he⟩ := hrel
      by_cases hlt : 455 < d
      · have HS : Hid _ := adapt_loop _ _ _ he hlt
        clear he
        go_wp2
        go_round
        case rel => exact ⟨d / 35, k + 36, by omega, by omega, by go_num, rfl, HS.out⟩
        case measure => simp [intOf]; omega
      · have HS : Hid _ := adapt_last _ _ _ he (by omega)
        have ht := tail_bd d (by omega)
        clear he
        go_wp2
        go_ret
        exact ⟨ret_int (by rw [HS.out]; simp [adapt, damp]), rfl⟩
  · go_loop [0, 7] (fun t i => ∃ (d : Nat) (k : Int), 0 ≤ k ∧ 12 * k + d ≤ delta ∧ t = .int .i64 d ∧ i = .int .i64 k ∧ (bias (delta / 700 + delta / 700 / points).toNat : Int) = k + bias d) (fun t _ => (intOf t).toNat)
    case atStart => exact ⟨(delta / 700 + delta / 700 / points).toNat, 0, by omega, by omega, by rw [Int.toNat_of_nonneg hb.1], rfl, by omega⟩
    case round =>
      obtain ⟨d, k, hk, hkd, rfl, rfl, he⟩ := hrel
      by_cases hlt : 455 < d
      · have HS : Hid _ := adapt_loop _ _ _ he hlt
        clear he
        go_wp2
        go_round
        case rel => exact ⟨d / 35, k + 36, by omega, by omega, by go_num, rfl, HS.out⟩
        case measure => simp [intOf]; omega
      · have HS : Hid _ := adapt_last _ _ _ he (by omega)
        have ht := tail_bd d (by omega)
        clear he
        go_wp2
        go_ret
        exact ⟨ret_int (by rw [HS.out]; simp [adapt, damp]), rfl⟩


set_option maxHeartbeats 400000 in
theorem zzadapt_any (delta points : Int) (first : Bool) (w : World) (h0 : 0 ≤ delta) (h1 : delta ≤ 9223372036854775807) (hp : 1 ≤ points) (hq : points ≤ 9223372036854775807) :
    Calls Try.prog 15 #[.int .i64 delta, .int .i64 points, .bool first] w fun e w' => e = .returned (.int .i64 (adapt delta points first)) ∧ w' = w := by
  go_enter Try.func15, Try.ntmps15
  go_wp2_with fail
  refine (adapt_any delta points first _ h0 h1 hp hq).mono ?_
  rintro e w' ⟨rfl, rfl⟩
  go_wp2
  go_ret
  exact ⟨rfl, rfl⟩

end Go.Proofs.Qxb6605511a.Puny

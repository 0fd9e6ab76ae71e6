import Derived.Test.Qxb6605511aPunyWalks
namespace Go.Proofs.Qxb6605511a.Puny
open Go.RowKit

/-- One round of the search for the power. -/
theorem model_step (D P m : Nat) (hP : 1 ≤ P) (h : bias D = 36 * m + bias (D / P)) (hd : 456 * P ≤ D) : bias D = 36 * (m + 1) + bias (D / (P * 35)) := by
  have h1 : 456 ≤ D / P := (Nat.le_div_iff_mul_le (by omega)).2 hd
  rw [bias_big (D / P) (by omega), Nat.div_div_eq_div_mul] at h
  omega

/-- The search has ended: what is left is small. -/
theorem model_end (D P m : Nat) (hP : 1 ≤ P) (h : bias D = 36 * m + bias (D / P)) (hd : D < 456 * P) : bias D = 36 * m + tail (D / P) ∧ D / P ≤ 455 := by
  have h1 : D / P < 456 := (Nat.div_lt_iff_lt_mul (by omega)).2 hd
  rw [bias_small (D / P) (by omega)] at h
  exact ⟨h, by omega⟩

theorem tail_lt (q t : Nat) : tail q < t ↔ 36 * q < t * (q + 38) := by
  unfold tail; exact Nat.div_lt_iff_lt_mul (by omega)

theorem tail_lt_int (q t : Nat) : tail q < t ↔ 36 * (q : Int) < (t : Int) * ((q : Int) + 38) := by
  rw [tail_lt]
  constructor
  · intro h; exact_mod_cast h
  · intro h; exact_mod_cast h

theorem mul_bd (q t : Nat) (hq : q ≤ 455) (ht : t ≤ 35) : 0 ≤ (t : Int) * ((q : Int) + 38) ∧ (t : Int) * ((q : Int) + 38) ≤ 20000 := by
  have h : t * (q + 38) ≤ 35 * 493 := Nat.mul_le_mul ht (by omega)
  have e : (t : Int) * ((q : Int) + 38) = ((t * (q + 38) : Nat) : Int) := by push_cast; rfl
  rw [e]; constructor
  · exact Int.natCast_nonneg _
  · omega

theorem pow12 : 456 * 35 ^ 12 > 9223372036854775807 := by decide +kernel

/-- The tail's loop and the function's end, behind the search. -/
theorem div_nat (D P : Nat) : ((D : Int)) / ((P : Int)) = ((D / P : Nat) : Int) := by norm_cast

set_option maxHeartbeats 1000000 in
theorem model_any (delta points : Int) (first : Bool) (w : World) (h0 : 0 ≤ delta) (h1 : delta ≤ 9223372036854775807) (hp : 1 ≤ points) (hq : points ≤ 9223372036854775807) :
    Calls Try.prog 16 #[.int .i64 delta, .int .i64 points, .bool first] w fun e w' => e = .returned (.int .i64 (adapt delta points first)) ∧ w' = w := by
  have C17 := damp_any delta points first w h0 h1 hp hq
  have hb := damp_bd delta points first h0 hp
  have ha : adapt delta points first = ((bias (damp delta points first).toNat : Nat) : Int) := rfl
  rw [ha]; clear ha
  obtain ⟨D, hD⟩ := Int.eq_ofNat_of_zero_le hb.1
  rw [hD] at C17 hb ⊢
  rw [Int.toNat_natCast]
  have hDm : D ≤ 9223372036854775807 := by omega
  clear hD hb
  go_enter Try.func16, Try.ntmps16
  go_wp2_with fail
  refine C17.mono ?_
  rintro e w' ⟨rfl, rfl⟩
  clear C17
  go_wp2_with fail
  go_loop [8, 9] (fun p i => ∃ (m P : Nat), m ≤ 12 ∧ 1 ≤ P ∧ P ≤ 707934257214730595 ∧ p = .int .i64 P ∧ i = .int .i64 m ∧ P = 35 ^ m ∧ bias D = 36 * m + bias (D / P)) (fun _ i => 12 - (intOf i).toNat)
  case atStart => exact ⟨0, 1, by omega, by omega, by omega, rfl, rfl, rfl, by simp⟩
  case round =>
    obtain ⟨m, P, hm, hP1, hP2, rfl, rfl, hpow, hbias⟩ := hrel
    by_cases hgo : m < 12 ∧ P ≤ 20226693063278017 ∧ 456 * P ≤ D
    · obtain ⟨g1, g2, g3⟩ := hgo
      have HS : Hid _ := model_step D P m hP1 hbias g3
      have HP : Hid (P * 35 = 35 ^ (m + 1)) := by show _ = _; rw [hpow, Nat.pow_succ]
      clear hpow hbias
      go_wp2
      go_round
      case rel => exact ⟨m + 1, P * 35, by omega, by omega, by omega, by go_num, by go_num, HP.out, HS.out⟩
      case measure => simp [intOf]; omega
    · have hlt : D < 456 * P := by
        by_cases g1 : m < 12
        · by_cases g2 : P ≤ 20226693063278017
          · omega
          · omega
        · have : m = 12 := by omega
          subst this
          have := pow12
          rw [hpow]; omega
      obtain ⟨he, hq455⟩ := model_end D P m hP1 hbias hlt
      have HE : Hid (bias D = 36 * m + tail (D / P)) := he
      have ht33 := tail_le (D / P) (by omega)
      clear hbias he hpow
      have hdv := div_nat D P
      generalize D / P = q at *
      have HN : Hid (¬ (m < 12 ∧ P ≤ 20226693063278017 ∧ 456 * P ≤ D)) := hgo
      clear hgo
      have h3 : m < 12 ∧ P ≤ 20226693063278017 ∧ D < 456 * P ∨ m < 12 ∧ 20226693063278017 < P ∨ 12 ≤ m := by omega
      rcases h3 with ⟨g1, g2, g3⟩ | ⟨g1, g2⟩ | g1
      all_goals
        go_wp2_with fail
        go_loop [11] (fun t => ∃ r : Nat, tail q ≤ r ∧ r ≤ 35 ∧ t = .int .i64 r) (fun t => (intOf t).toNat)
        case atStart => exact ⟨35, by omega, by omega, rfl⟩
        case round =>
          obtain ⟨r, hr1, hr2, rfl⟩ := hrel
          have hmb := mul_bd q r hq455 hr2
          have htl := tail_lt_int q r
          by_cases hr0 : r = 0
          · have hd0 : (r : Int) ≤ 0 := by omega
            have HF : Hid ((36 * (m : Int) + (r : Int)) = ((bias D : Nat) : Int)) := by show _ = _; rw [HE.out]; push_cast; omega
            clear htl hr0
            go_wp2
            go_ret
            exact ⟨ret_int HF.out, rfl⟩
          · by_cases hlt2 : tail q < r
            · have hgt := htl.1 hlt2
              have hr1' : 1 ≤ r := by omega
              clear htl hr0
              go_wp2
              go_round
              case rel => exact ⟨r - 1, by omega, by omega, by go_num⟩
              case measure => simp [intOf]; omega
            · have hng : (r : Int) * ((q : Int) + 38) ≤ 36 * (q : Int) := by
                by_cases hx : 36 * (q : Int) < (r : Int) * ((q : Int) + 38)
                · exact absurd (htl.2 hx) hlt2
                · omega
              have hr1' : 1 ≤ r := by omega
              have HF : Hid ((36 * (m : Int) + (r : Int)) = ((bias D : Nat) : Int)) := by show _ = _; rw [HE.out]; push_cast; omega
              clear htl hr0 hlt2
              go_wp2
              go_ret
              exact ⟨ret_int HF.out, rfl⟩

set_option maxHeartbeats 400000 in
theorem closed_walk (a0 : Int) (a1 : Int) (a2 : Bool) (b0 : -9223372036854775808 ≤ a0 ∧ a0 ≤ 9223372036854775807) (b1 : -9223372036854775808 ≤ a1 ∧ a1 ≤ 9223372036854775807) (w : World) :
    Calls Try.prog 5 #[.int .i64 a0, .int .i64 a1, .bool a2] w fun e w' => e = .returned (.bool true) ∧ Grown w w' := by
  by_cases c0 : a0 < 0
  · go_enter Try.func5, Try.ntmps5
    go_wp2
    go_ret
    exact ⟨rfl, Grown.refl _⟩
  by_cases c2 : a1 < 1
  · go_enter Try.func5, Try.ntmps5
    go_wp2
    go_ret
    exact ⟨rfl, Grown.refl _⟩
  go_enter Try.func5, Try.ntmps5
  go_wp2_with fail
  refine (zzadapt_any a0 a1 a2 _ (by omega) (by omega) (by omega) (by omega)).mono ?_
  rintro e w' ⟨rfl, rfl⟩
  go_wp2_with fail
  refine (model_any a0 a1 a2 _ (by omega) (by omega) (by omega) (by omega)).mono ?_
  rintro e w' ⟨rfl, rfl⟩
  go_wp2
  go_ret
  exact ⟨rfl, Grown.refl _⟩

end Go.Proofs.Qxb6605511a.Puny

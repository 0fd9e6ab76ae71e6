import Derived.Test.Qxb6605511aRows
import Derived.Test.Qxb6605511aAscii
import Derived.WalkKit
import Derived.Outline
namespace Go.Proofs.Qxb6605511a.Ascii
open Go.RowKit

theorem ret_int {k : IntKind} {a b : Int} (h : a = b) : Ending.returned (.int k a) = .returned (.int k b) := by rw [h]

theorem capAt : ∀ k (h : k < 26), ((⟨#[65, 66, 67, 68, 69, 70, 71, 72, 73, 74, 75, 76, 77, 78, 79, 80, 81, 82, 83, 84, 85, 86, 87, 88, 89, 90]⟩ : ByteArray)[k]'h).toNat = 65 + k := by decide +kernel
theorem smallAt : ∀ k (h : k < 26), ((⟨#[97, 98, 99, 100, 101, 102, 103, 104, 105, 106, 107, 108, 109, 110, 111, 112, 113, 114, 115, 116, 117, 118, 119, 120, 121, 122]⟩ : ByteArray)[k]'h).toNat = 97 + k := by decide +kernel

set_option maxHeartbeats 400000 in
theorem toLower_any (c : UInt8) (w : World) :
    Calls Try.prog 11 #[.int .u8 (c.toNat : Int)] w fun e w' => e = .returned (.int .u8 ((lowB c).toNat : Int)) ∧ w' = w := by
  have hc := c.toNat_lt
  go_enter Try.func11, Try.ntmps11
  go_wp2
  go_loop [3] (fun i => ∃ k : Nat, k ≤ 26 ∧ i = .int .i64 k ∧ ¬ ((65 : Int) ≤ (c.toNat : Int) ∧ (c.toNat : Int) < 65 + k)) (fun i => 26 - (intOf i).toNat)
  case atStart => exact ⟨0, by omega, rfl, by omega⟩
  case round =>
    obtain ⟨k, hk, rfl, hno⟩ := hrel
    by_cases hlt : k < 26
    · have hcap := capAt k hlt
      have hsm := smallAt k hlt
      go_wp2
      · have heq : (65 + (k : Int) == (c.toNat : Int)) = true := by assumption
        have he : 65 + (k : Int) = (c.toNat : Int) := by simpa using heq
        go_ret
        exact ⟨ret_int (by rw [lowB_cap c (by omega) (by omega)]; omega), rfl⟩
      · have heq : (65 + (k : Int) == (c.toNat : Int)) = false := by assumption
        have he : ¬ 65 + (k : Int) = (c.toNat : Int) := by simpa using heq
        go_round
        case rel => exact ⟨k + 1, by omega, by go_num, by omega⟩
        case measure => simp [intOf]; omega
    · go_wp2
      go_ret
      exact ⟨ret_int (by rw [lowB_not c (by omega)]), rfl⟩
set_option maxHeartbeats 400000 in
theorem toUpper_any (c : UInt8) (w : World) :
    Calls Try.prog 13 #[.int .u8 (c.toNat : Int)] w fun e w' => e = .returned (.int .u8 ((upB c).toNat : Int)) ∧ w' = w := by
  have hc := c.toNat_lt
  go_enter Try.func13, Try.ntmps13
  go_wp2
  go_loop [3] (fun i => ∃ k : Nat, k ≤ 26 ∧ i = .int .i64 k ∧ ¬ ((97 : Int) ≤ (c.toNat : Int) ∧ (c.toNat : Int) < 97 + k)) (fun i => 26 - (intOf i).toNat)
  case atStart => exact ⟨0, by omega, rfl, by omega⟩
  case round =>
    obtain ⟨k, hk, rfl, hno⟩ := hrel
    by_cases hlt : k < 26
    · have hcap := capAt k hlt
      have hsm := smallAt k hlt
      go_wp2
      · have heq : (97 + (k : Int) == (c.toNat : Int)) = true := by assumption
        have he : 97 + (k : Int) = (c.toNat : Int) := by simpa using heq
        go_ret
        exact ⟨ret_int (by rw [upB_small c (by omega) (by omega)]; omega), rfl⟩
      · have heq : (97 + (k : Int) == (c.toNat : Int)) = false := by assumption
        have he : ¬ 97 + (k : Int) = (c.toNat : Int) := by simpa using heq
        go_round
        case rel => exact ⟨k + 1, by omega, by go_num, by omega⟩
        case measure => simp [intOf]; omega
    · go_wp2
      go_ret
      exact ⟨ret_int (by rw [upB_not c (by omega)]), rfl⟩

theorem byte_ne (a b : UInt8) : (((a.toNat : Int)) != ((b.toNat : Int))) = (a != b) := by
  rw [Bool.eq_iff_iff]; simp only [bne_iff_ne, ne_eq, Int.natCast_inj, UInt8.toNat_inj]

theorem ret_bool {a b : Bool} (h : a = b) : Ending.returned (.bool a) = .returned (.bool b) := by rw [h]

set_option maxHeartbeats 400000 in
theorem letter_any (c : UInt8) (w : World) :
    Calls Try.prog 14 #[.int .u8 (c.toNat : Int)] w fun e w' => e = .returned (.bool (letterB c)) ∧ w' = w := by
  by_cases hl : (lowB c != c) = true
  · have h1 := (byte_ne (lowB c) c).trans hl
    have HL : Hid (letterB c = true) := by show letterB c = true; simp [letterB, hl]
    clear hl
    go_enter Try.func14, Try.ntmps14
    go_wp2_with fail
    refine (toLower_any c _).mono ?_
    rintro e w' ⟨rfl, rfl⟩
    go_wp2_with fail
    go_ret
    exact ⟨ret_bool HL.out.symm, rfl⟩
  · have hl' : (lowB c != c) = false := by simpa using hl
    have h1 := (byte_ne (lowB c) c).trans hl'
    have HL : Hid (letterB c = (((upB c).toNat : Int) != (c.toNat : Int))) := by show letterB c = _; rw [byte_ne]; simp [letterB, hl']
    clear hl hl'
    go_enter Try.func14, Try.ntmps14
    go_wp2_with fail
    refine (toLower_any c _).mono ?_
    rintro e w' ⟨rfl, rfl⟩
    go_wp2_with fail
    refine (toUpper_any c _).mono ?_
    rintro e w' ⟨rfl, rfl⟩
    go_wp2_with fail
    go_ret
    exact ⟨ret_bool HL.out.symm, rfl⟩

end Go.Proofs.Qxb6605511a.Ascii

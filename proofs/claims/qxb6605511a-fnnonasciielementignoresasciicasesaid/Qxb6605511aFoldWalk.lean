import Derived.Test.Qxb6605511aMatchWalk
import Derived.Deep.OwnRows
namespace Go.Proofs.Qxb6605511a.Ascii
open Go.RowKit

theorem info5 : (Try.prog.info? 5).map (fun i => (i.zero, i.size, i.bytes)) = some (some (.int .u8 0), 1, 1) := by kernel_rfl

theorem Has.below {w w' : World} {b n B : Nat} {f : Nat → Value} (h : Has w b n f) (hb : Below B w w') (hB : b < B) : Has w' b n f := fun q hq =>
  ⟨(hb.cell (p := ⟨b, q, none⟩) hB).trans (h q hq).1, (hb.frozen (p := ⟨b, q, none⟩) hB).trans (h q hq).2⟩

theorem has_made (w : World) (z : Value) (n : Nat) (e : TypeId) : Has (w.alloc (.cells (madeCells #[z] n) e)) w.heap.size n (fun _ => z) := by
  intro q hq
  rw [World.cell?_alloc_mark, World.frozen?_alloc_mark]
  refine ⟨?_, by simp⟩
  rw [Array.getElem?_eq_getElem (by rw [size_madeCells]; exact hq)]
  simp [madeCells, Nat.mod_one]

def upV (s : ByteArray) (k q : Nat) : Value := if q < k then .int .u8 ((upB (s.data[q]?.getD 0)).toNat : Int) else .int .u8 0

theorem upV_same (s : ByteArray) (m q : Nat) (h : q ≠ m) : upV s (m + 1) q = upV s m q := by
  unfold upV
  by_cases h1 : q < m
  · rw [if_pos h1, if_pos (by omega)]
  · rw [if_neg h1, if_neg (by omega)]
theorem upV_at (s : ByteArray) (m : Nat) (hm : m < s.size) : upV s (m + 1) m = .int .u8 ((upB s[m]).toNat : Int) := by
  unfold upV; rw [if_pos (by omega), data_at s m hm]

/-- A row of bytes reads back as the string of them. -/
theorem back_of (w : World) (t : ByteArray) (n b cap : Nat) (hn : t.size = n) (h : ∀ q (hq : q < t.size), w.cell? ⟨b, q, none⟩ = some (.int .u8 (t[q].toNat : Int))) :
    (convert 25 9 (.slice (some ⟨b, 0, none⟩) n cap)).run Try.prog w = .ok (.string t) w := by
  have hl : t.data.toList.length = n := by rw [Array.length_toList]; exact hn
  have := run_convert_bytes_back (P := Try.prog) w 25 9 5 ⟨b, 0, none⟩ cap t.data.toList Try.underlying25 Try.underlying5 Try.underlying9 (by
    intro j hj
    have hj' : j < t.size := by omega
    have e : (⟨b, 0, none⟩ : Addr).add j = ⟨b, j, none⟩ := by unfold Addr.add; split <;> simp_all
    rw [e, h j hj']
    rfl)
  rw [hl] at this
  simpa using this

theorem back_up (w : World) (s : ByteArray) (b cap : Nat) (h : Has w b s.size (upV s s.size)) :
    (convert 25 9 (.slice (some ⟨b, 0, none⟩) s.size cap)).run Try.prog w = .ok (.string (upper s)) w :=
  back_of w (upper s) s.size b cap (upper_size s) (fun q hq => by
    have hq' : q < s.size := by rw [← upper_size s]; exact hq
    rw [(h q hq').1, upper_get s q hq' hq]
    unfold upV; rw [if_pos hq', data_at s q hq'])

set_option maxHeartbeats 400000 in
theorem bytes12_any (s : ByteArray) (w : World) (hs : s.size ≤ maxLen) :
    Calls Try.prog 12 #[.string s] w fun e w' => e = .returned (.bool (decide (s.size ≤ 1048576))) ∧ w' = w := by
  unfold maxLen at hs
  by_cases h : s.size ≤ 1048576
  · go_enter Try.func12, Try.ntmps12
    go_wp2
    go_ret
    exact ⟨ret_bool (by simp [h]), rfl⟩
  · go_enter Try.func12, Try.ntmps12
    go_wp2
    go_ret
    exact ⟨ret_bool (by simp [h]), rfl⟩

set_option maxHeartbeats 1000000 in
theorem fold_walk (s : ByteArray) (hs : s.size ≤ maxLen) (w : World) :
    Calls Try.prog 4 #[.string s] w fun e w' => e = .returned (.bool true) ∧ Below w.heap.size w w' := by
  by_cases h : s.size ≤ 1048576
  · have hd : decide (s.size ≤ 1048576) = true := by simp [h]
    have C9 := bytes12_any s w hs
    rw [hd] at C9
    clear hd
    unfold maxLen at hs
    have hl := lower_size s
    have hu := upper_size s
    have hle : (lower s).size ≤ s.size := by omega
    have hge : s.size ≤ (lower s).size := by omega
    have CU : ∀ wx, Calls Try.prog 10 #[.string (upper s)] wx fun e w' => e = .returned (.string (lower s)) ∧ Below wx.heap.size wx w' := fun wx => by
      have := zzlower_any (upper s) wx (by omega)
      rwa [lower_upper] at this
    have CL : ∀ wx, Calls Try.prog 10 #[.string (lower s)] wx fun e w' => e = .returned (.string (lower s)) ∧ Below wx.heap.size wx w' := fun wx => by
      have := zzlower_any (lower s) wx (by omega)
      rwa [lower_lower] at this
    have CU' : Hid _ := CU
    have CL' : Hid _ := CL
    clear hl hu CU CL
    have hmk := fun wx => run_make_row' (P := Try.prog) 25 5 (.int .u8 0) 1 Try.underlying25 info5 rfl .i64 .i64 s.size (by omega) (by omega) wx
    go_enter Try.func4, Try.ntmps4
    go_wp2_with fail
    refine C9.mono ?_
    rintro e w ⟨rfl, rfl⟩
    clear C9
    go_wp2_with fail
    have H0 := has_made w (.int .u8 0) s.size 5
    have hB : Below w.heap.size w (w.alloc (.cells (madeCells #[.int .u8 0] s.size) 5)) := (Below.refl _ _).alloc (Nat.le_refl _) _
    go_loopw [4] (fun i wr => ∃ k : Nat, k ≤ s.size ∧ i = .int .i64 k ∧ Below w.heap.size w wr ∧ w.heap.size < wr.heap.size ∧ Has wr w.heap.size s.size (upV s k)) (fun i _ => s.size - (intOf i).toNat)
    case atStart => exact ⟨0, by omega, rfl, hB, by simp, H0.congr (fun q _ => by simp [upV])⟩
    case round =>
      clear hB H0
      obtain ⟨k, hk, rfl, hB, hz, hhas⟩ := hrel
      have HH : Hid (Has wr w.heap.size s.size (upV s k)) := hhas
      clear hhas
      by_cases hlt : k < s.size
      · have hc : wr.cell? ⟨w.heap.size, k, none⟩ = some (upV s k k) := (HH.out k hlt).1
        have hf : wr.frozen? ⟨w.heap.size, k, none⟩ = false := (HH.out k hlt).2
        go_wp2_with fail
        refine (toUpper_any _ _).mono ?_
        rintro e wr ⟨rfl, rfl⟩
        go_wp2
        go_roundw
        case rel => exact ⟨k + 1, by omega, by go_num, hB.setCell (Nat.le_refl _) _, by simpa using hz, HH.out.set k hlt _ _ (upV_at s k hlt) (fun q _ h => upV_same s k q h)⟩
        case measure => simp [intOf]; omega
      · obtain rfl : k = s.size := by omega
        go_wp2_with fail
        refine (zzlower_any s _ h).mono ?_
        rintro e w1 ⟨rfl, hb1⟩
        have hcv := back_up w1 s w.heap.size s.size (HH.out.below hb1 hz)
        go_wp2_with fail
        refine (CU'.out _).mono ?_
        rintro e w2 ⟨rfl, hb2⟩
        go_wp2_with fail
        refine (CL'.out _).mono ?_
        rintro e w3 ⟨rfl, hb3⟩
        have hb4 : Below w.heap.size w w3 := hB.trans (((hb1.trans (hb2.mono hb1.size)).trans (hb3.mono (Nat.le_trans hb1.size hb2.size))).mono (by omega))
        clear hcv CU' CL' hmk
        go_wp2_with fail
        clear hB hb1 hb2 hb3 hz HH
        have HB : Hid (Below w.heap.size w w3) := hb4
        clear hb4
        go_loopw [6] (fun i wr => ∃ k : Nat, k ≤ s.size ∧ i = .int .i64 k ∧ Below w3.heap.size w3 wr) (fun i _ => s.size - (intOf i).toNat)
        case atStart => exact ⟨0, by omega, rfl, Below.refl _ _⟩
        case round =>
          obtain ⟨k, hk, rfl, hw⟩ := hrel
          by_cases hlt : k < s.size
          · have hlt' : k < (lower s).size := by omega
            have hg := lower_get s k hlt hlt'
            have c11 : ∀ wx, Calls Try.prog 11 #[.int .u8 ((lowB s[k]).toNat : Int)] wx fun e w' => e = .returned (.int .u8 ((lowB s[k]).toNat : Int)) ∧ w' = wx := fun wx => by
              have := toLower_any (lowB s[k]) wx
              rwa [low_low] at this
            have C11 : Hid _ := c11
            clear c11
            cases hL : letterB s[k]
            · have c14 : ∀ wx, Calls Try.prog 14 #[.int .u8 (s[k].toNat : Int)] wx fun e w' => e = .returned (.bool false) ∧ w' = wx := fun wx => by
                have := letter_any s[k] wx
                rwa [hL] at this
              have hne : (((lowB s[k]).toNat : Int) != (s[k].toNat : Int)) = false := by rw [byte_ne, low_keeps s[k] hL]; simp
              have C14 : Hid _ := c14
              clear c14 hL
              go_wp2_with fail
              go_quiet ((go_at_call 11; exact Calls.quiet_of_same (C11.out _)))
              go_wp2_with fail
              generalize hwx : wr.drewN nq = wx
              have hw2 : Below w3.heap.size w3 wx := by rw [← hwx]; exact below_drewN hw nq
              clear hwx hw
              go_quiet ((go_at_call 14; exact Calls.quiet_of_same (C14.out _)))
              go_wp2_with fail
              refine (C14.out _).mono ?_
              rintro e wy ⟨rfl, hwy⟩
              have hw3 : Below w3.heap.size w3 wy := by rw [hwy]; exact below_drewN hw2 _
              clear hwy hw2
              go_wp2
              go_roundw
              case rel => exact ⟨k + 1, by omega, by go_num, hw3⟩
              case measure => simp [intOf]; omega
            · have c14 : ∀ wx, Calls Try.prog 14 #[.int .u8 (s[k].toNat : Int)] wx fun e w' => e = .returned (.bool true) ∧ w' = wx := fun wx => by
                have := letter_any s[k] wx
                rwa [hL] at this
              have c14' : ∀ wx, Calls Try.prog 14 #[.int .u8 ((lowB s[k]).toNat : Int)] wx fun e w' => e = .returned (.bool true) ∧ w' = wx := fun wx => by
                have := letter_any (lowB s[k]) wx
                rwa [low_letter s[k] hL] at this
              have C14 : Hid _ := c14
              have C14' : Hid _ := c14'
              clear c14 c14' hL
              go_wp2_with fail
              go_quiet ((go_at_call 11; exact Calls.quiet_of_same (C11.out _)))
              go_wp2_with fail
              generalize hwx : wr.drewN nq = wx
              have hw2 : Below w3.heap.size w3 wx := by rw [← hwx]; exact below_drewN hw nq
              clear hwx hw
              go_quiet ((go_at_call 14; exact Calls.quiet_of_same (C14.out _)))
              go_wp2_with fail
              refine (C14.out _).mono ?_
              rintro e wy ⟨rfl, hwy⟩
              have hw3 : Below w3.heap.size w3 wy := by rw [hwy]; exact below_drewN hw2 _
              clear hwy hw2
              go_wp2_with fail
              refine (C14'.out _).mono ?_
              rintro e wy ⟨rfl, rfl⟩
              go_wp2
              go_roundw
              case rel => exact ⟨k + 1, by omega, by go_num, hw3⟩
              case measure => simp [intOf]; omega
          · go_wp2
            go_ret
            exact ⟨rfl, HB.out.trans (hw.mono HB.out.size)⟩
  · have hd : decide (s.size ≤ 1048576) = false := by simp [h]
    have C9 := bytes12_any s w hs
    rw [hd] at C9
    clear hd
    unfold maxLen at hs
    go_enter Try.func4, Try.ntmps4
    go_wp2_with fail
    refine C9.mono ?_
    rintro e w' ⟨rfl, rfl⟩
    go_wp2
    go_ret
    exact ⟨rfl, Below.refl _ _⟩
end Go.Proofs.Qxb6605511a.Ascii

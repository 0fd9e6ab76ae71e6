import Derived.Test.Qxb6605511aFirst
import Derived.Test.Qxb6605511aBytes7
import Derived.Deep.DeepCutAuto
namespace Go.Proofs.Qxb6605511a.Ascii
open Go.RowKit

set_option maxHeartbeats 1000000 in
theorem zzfirst_any (s0 s3 s6 : ByteArray) (p1 p4 p5 : Option Addr) (o1 o4 o5 : Option ByteArray) (a : Option Addr) (n cap : Nat) (ss : Nat → ByteArray) (w : World)
    (h0 : s0.size ≤ maxLen) (h3 : s3.size ≤ maxLen) (h6 : s6.size ≤ maxLen) (h1 : PtrAt w p1 o1) (h4 : PtrAt w p4 o4) (h5 : PtrAt w p5 o5) (ha : StrRow w a n ss) :
    Calls Try.prog 24 #[.string s0, .pointer p1, .slice a n cap, .string s3, .pointer p4, .pointer p5, .string s6] w fun e w' => e = .returned (.string (nonA s0 s3 s6 o1 o4 o5 n ss)) ∧ Below w.heap.size w w' := by
  have H1 : Hid (PtrAt w p1 o1) := h1
  have H4 : Hid (PtrAt w p4 o4) := h4
  have H5 : Hid (PtrAt w p5 o5) := h5
  have HA : Hid (StrRow w a n ss) := ha
  clear h1 h4 h5 ha
  go_enter Try.func24, Try.ntmps24
  go_wp2_with fail
  have hB : Below w.heap.size w (w.alloc (.cells #[.string s0, .pointer p1, .slice a n cap, .string s3, .pointer p4, .pointer p5, .string s6] 45)) := (Below.refl _ _).alloc (Nat.le_refl _) _
  refine (first_any s0 s3 s6 p1 p4 p5 o1 o4 o5 a n cap ss w.heap.size (w.alloc (.cells #[.string s0, .pointer p1, .slice a n cap, .string s3, .pointer p4, .pointer p5, .string s6] 45)) h0 h3 h6 (PtrAt.below H1.out hB) (PtrAt.below H4.out hB) (PtrAt.below H5.out hB) (StrRow.below HA.out hB) (by simp) (by simp) (by simp) (by simp) (by simp) (by simp) (by simp)).mono ?_
  rintro e w1 ⟨rfl, hb⟩
  have hb2 : Below w.heap.size w w1 := hB.trans (hb.mono (by simp))
  clear hB hb
  go_wp2
  go_ret
  exact ⟨rfl, hb2⟩

/-- The value of 'want' behind the loop over the street, k lines still to come. -/
def Want (n : Nat) (ss : Nat → ByteArray) (k : Nat) (v : ByteArray) : Prop :=
  (v = streetB ∧ anyHigh n ss = true) ∨ (v = ⟨#[]⟩ ∧ ∀ q, k ≤ q → q < n → highB (ss q) = false)
theorem Want.done {n : Nat} {ss : Nat → ByteArray} {v : ByteArray} (h : Want n ss 0 v) : v = if anyHigh n ss then streetB else ⟨#[]⟩ := by
  rcases h with ⟨rfl, h⟩ | ⟨rfl, h⟩
  · rw [h]; rfl
  · rw [anyHigh_false n ss (fun q hq => h q (Nat.zero_le _) hq)]; rfl
theorem Want.hit {n : Nat} {ss : Nat → ByteArray} {k : Nat} (hk : k < n) (h : highB (ss k) = true) : Want n ss k streetB := .inl ⟨rfl, anyHigh_true n ss k hk h⟩
theorem Want.miss {n : Nat} {ss : Nat → ByteArray} {k : Nat} {v : ByteArray} (h : Want n ss (k + 1) v) (hk : highB (ss k) = false) : Want n ss k v := by
  rcases h with h | ⟨h1, h2⟩
  · exact .inl h
  · exact .inr ⟨h1, fun q hq hn => by
      by_cases e : q = k
      · subst e; exact hk
      · exact h2 q (by omega) hn⟩

set_option maxHeartbeats 2000000 in
theorem firstLaw_walk (s0 s3 s6 : ByteArray) (p1 p4 p5 : Option Addr) (o1 o4 o5 : Option ByteArray) (a : Option Addr) (n cap : Nat) (ss : Nat → ByteArray) (w : World)
    (h0 : s0.size ≤ maxLen) (h3 : s3.size ≤ maxLen) (h6 : s6.size ≤ maxLen) (h1 : PtrAt w p1 o1) (h4 : PtrAt w p4 o4) (h5 : PtrAt w p5 o5) (ha : StrRow w a n ss) :
    Calls Try.prog 7 #[.string s0, .pointer p1, .slice a n cap, .string s3, .pointer p4, .pointer p5, .string s6] w fun e w' => e = .returned (.bool true) ∧ Below w.heap.size w w' := by
  have H1 : Hid (PtrAt w p1 o1) := h1
  have H4 : Hid (PtrAt w p4 o4) := h4
  have H5 : Hid (PtrAt w p5 o5) := h5
  have HA : Hid (StrRow w a n ss) := ha
  clear h1 h4 h5 ha
  go_enter Try.func7, Try.ntmps7
  go_wp2_with fail
  refine (bytes18_any s0 s3 s6 p1 p4 p5 o1 o4 o5 a n cap ss w h0 h3 h6 H1.out H4.out H5.out HA.out).mono ?_
  rintro e w ⟨rfl, hr⟩
  rcases hr with rfl | ⟨rfl, hall⟩
  · go_wp2_with fail
    go_ret
    exact ⟨rfl, Below.refl _ _⟩
  have hn := hall.hn
  clear hall
  go_wp2_with fail
  refine (postal_any s0 s3 s6 p1 p4 p5 o1 o4 o5 a n cap ss w h0 h3 h6 H1.out H4.out H5.out HA.out).mono ?_
  rintro e w ⟨m, rfl, rfl⟩
  by_cases hm : 1048576 < m
  · go_wp2_with fail
    go_ret
    exact ⟨rfl, Below.refl _ _⟩
  have hd : decide (1048576 < m) = false := by simp; omega
  clear hm
  go_wp2_with fail
  refine (copyPtr_any p1 o1 _ H1.out).mono ?_
  rintro e w1 ⟨q1, rfl, g1, b1⟩
  have G1 : Hid (PtrAt w1 q1 o1) := g1
  have B1 : Hid (Below w.heap.size w w1) := b1
  clear g1 b1
  go_wp2_with fail
  refine (copyPtr_any p4 o4 _ (PtrAt.below H4.out B1.out)).mono ?_
  rintro e w2 ⟨q4, rfl, g4, b2⟩
  have G4 : Hid (PtrAt w2 q4 o4) := g4
  have B2 : Hid (Below w1.heap.size w1 w2) := b2
  clear g4 b2
  go_wp2_with fail
  refine (copyPtr_any p5 o5 _ (PtrAt.below (PtrAt.below H5.out B1.out) B2.out)).mono ?_
  rintro e w3 ⟨q5, rfl, g5, b3⟩
  have G5 : Hid (PtrAt w3 q5 o5) := g5
  have B3 : Hid (Below w2.heap.size w2 w3) := b3
  clear g5 b3
  go_wp2_with fail
  refine (copyLines_any a n cap ss _ (StrRow.below (StrRow.below (StrRow.below HA.out B1.out) B2.out) B3.out) hn).mono ?_
  rintro e w4 ⟨a', cap', rfl, hnil, ga, b4⟩
  have I1 : Hid (PtrAt w4 q1 o1) := PtrAt.below (PtrAt.below (PtrAt.below G1.out B2.out) B3.out) b4
  have I4 : Hid (PtrAt w4 q4 o4) := PtrAt.below (PtrAt.below G4.out B3.out) b4
  have I5 : Hid (PtrAt w4 q5 o5) := PtrAt.below G5.out b4
  have IA : Hid (StrRow w4 a' n ss) := ga
  have IB : Hid (Below w.heap.size w w4) := B1.out.trans (((B2.out.trans (B3.out.mono B2.out.size)).trans (b4.mono (Nat.le_trans B2.out.size B3.out.size))).mono B1.out.size)
  clear G1 G4 G5 B1 B2 B3 b4 ga hnil H1 H4 H5 HA
  go_wp2_with fail
  go_loop [15, 16] (fun t i => ∃ (k : Nat) (v : ByteArray), k ≤ n ∧ i = .int .i64 ((k : Int) - 1) ∧ t = .string v ∧ Want n ss k v) (fun _ i => (intOf i + 1).toNat)
  case atStart => exact ⟨n, ⟨#[]⟩, by omega, rfl, rfl, .inr ⟨rfl, by omega⟩⟩
  case round =>
    obtain ⟨k, v, hk, rfl, rfl, hw⟩ := hrel
    have HW : Hid (Want n ss k v) := hw
    clear hw
    by_cases hlt : 0 < k
    · obtain ⟨j, rfl⟩ : ∃ j, k = j + 1 := ⟨k - 1, by omega⟩
      obtain ⟨g1, g2, g3⟩ := IA.out
      rcases g3 with g3 | ⟨b, off, g4, g5⟩
      · omega
      · cases g4
        have hc1 : w4.cell? ⟨b, off + j, none⟩ = some (.string (ss j)) := g5 j (by omega)
        have hz := g2 j (by omega)
        clear g1 g2 g5
        have e1 : (((j + 1 : Nat) : Int) - 1) = (j : Int) := by omega
        rw [e1]
        clear e1
        go_wp2_with fail
        refine (high_any (ss j) _ hz).mono ?_
        rintro e w4 ⟨rfl, rfl⟩
        cases hh : highB (ss j)
        · have HN : Hid _ := Want.miss HW.out hh
          clear hh
          go_wp2_with fail
          go_round
          case rel => exact ⟨j, v, by omega, by go_num, rfl, HN.out⟩
          case measure => simp [intOf]
        · have HN : Hid (Want n ss j streetB) := Want.hit (by omega) hh
          clear hh
          go_wp2_with fail
          go_round
          case rel => exact ⟨j, streetB, by omega, by go_num, rfl, HN.out⟩
          case measure => simp [intOf]
    · obtain rfl : k = 0 := by omega
      obtain ⟨X6, hX6⟩ : ∃ x, x = v := ⟨_, rfl⟩
      have HX6 : Hid (X6 = if anyHigh n ss then streetB else ⟨#[]⟩) := hX6.trans HW.out.done
      rw [← hX6]
      clear hX6 HW
      obtain ⟨X5, hX5⟩ : ∃ x, x = if highB s6 then nmB 5 else X6 := ⟨_, rfl⟩
      have HX5 : Hid (X5 = if highB s6 then nmB 5 else X6) := hX5
      have LX5 : Hid (X5 = if highB s6 then nmB 5 else X6) := hX5
      clear hX5
      go_wp2_with fail
      refine (high_any s6 _ h6).mono ?_
      rintro e w4 ⟨rfl, rfl⟩
      generalize highB s6 = g at HX5 ⊢
      go_upto_if 56 with fail
      go_cut [15] (fun v wx => v = .string X5 ∧ wx = w4)
      case first =>
        cases g
        · go_wp2_with fail
          go_meet
          case rel => exact ⟨by rw [HX5.out]; rfl, rfl⟩
        · go_wp2_with fail
          go_meet
          case rel => exact ⟨by rw [HX5.out]; rfl, rfl⟩
      obtain ⟨rfl, hwc⟩ := hcut
      have hwc' : w4 = wc := hwc.symm
      subst hwc'
      obtain ⟨X4, hX4⟩ : ∃ x, x = if highO o5 then nmB 4 else X5 := ⟨_, rfl⟩
      have HX4 : Hid (X4 = if highO o5 then nmB 4 else X5) := hX4
      have LX4 : Hid (X4 = if highO o5 then nmB 4 else X5) := hX4
      clear hX4
      go_wp2_with fail
      refine (highAt_any q5 o5 _ I5.out).mono ?_
      rintro e w4 ⟨rfl, rfl⟩
      generalize highO o5 = g at HX4 ⊢
      go_upto_if 58 with fail
      go_cut [15] (fun v wx => v = .string X4 ∧ wx = w4)
      case first =>
        cases g
        · go_wp2_with fail
          go_meet
          case rel => exact ⟨by rw [HX4.out]; rfl, rfl⟩
        · go_wp2_with fail
          go_meet
          case rel => exact ⟨by rw [HX4.out]; rfl, rfl⟩
      obtain ⟨rfl, hwc⟩ := hcut
      have hwc' : w4 = wc := hwc.symm
      subst hwc'
      obtain ⟨X3, hX3⟩ : ∃ x, x = if highO o4 then nmB 3 else X4 := ⟨_, rfl⟩
      have HX3 : Hid (X3 = if highO o4 then nmB 3 else X4) := hX3
      have LX3 : Hid (X3 = if highO o4 then nmB 3 else X4) := hX3
      clear hX3
      go_wp2_with fail
      refine (highAt_any q4 o4 _ I4.out).mono ?_
      rintro e w4 ⟨rfl, rfl⟩
      generalize highO o4 = g at HX3 ⊢
      go_upto_if 60 with fail
      go_cut [15] (fun v wx => v = .string X3 ∧ wx = w4)
      case first =>
        cases g
        · go_wp2_with fail
          go_meet
          case rel => exact ⟨by rw [HX3.out]; rfl, rfl⟩
        · go_wp2_with fail
          go_meet
          case rel => exact ⟨by rw [HX3.out]; rfl, rfl⟩
      obtain ⟨rfl, hwc⟩ := hcut
      have hwc' : w4 = wc := hwc.symm
      subst hwc'
      obtain ⟨X2, hX2⟩ : ∃ x, x = if highB s3 then nmB 2 else X3 := ⟨_, rfl⟩
      have HX2 : Hid (X2 = if highB s3 then nmB 2 else X3) := hX2
      have LX2 : Hid (X2 = if highB s3 then nmB 2 else X3) := hX2
      clear hX2
      go_wp2_with fail
      refine (high_any s3 _ h3).mono ?_
      rintro e w4 ⟨rfl, rfl⟩
      generalize highB s3 = g at HX2 ⊢
      go_upto_if 62 with fail
      go_cut [15] (fun v wx => v = .string X2 ∧ wx = w4)
      case first =>
        cases g
        · go_wp2_with fail
          go_meet
          case rel => exact ⟨by rw [HX2.out]; rfl, rfl⟩
        · go_wp2_with fail
          go_meet
          case rel => exact ⟨by rw [HX2.out]; rfl, rfl⟩
      obtain ⟨rfl, hwc⟩ := hcut
      have hwc' : w4 = wc := hwc.symm
      subst hwc'
      obtain ⟨X1, hX1⟩ : ∃ x, x = if highO o1 then nmB 1 else X2 := ⟨_, rfl⟩
      have HX1 : Hid (X1 = if highO o1 then nmB 1 else X2) := hX1
      have LX1 : Hid (X1 = if highO o1 then nmB 1 else X2) := hX1
      clear hX1
      go_wp2_with fail
      refine (highAt_any q1 o1 _ I1.out).mono ?_
      rintro e w4 ⟨rfl, rfl⟩
      generalize highO o1 = g at HX1 ⊢
      go_upto_if 64 with fail
      go_cut [15] (fun v wx => v = .string X1 ∧ wx = w4)
      case first =>
        cases g
        · go_wp2_with fail
          go_meet
          case rel => exact ⟨by rw [HX1.out]; rfl, rfl⟩
        · go_wp2_with fail
          go_meet
          case rel => exact ⟨by rw [HX1.out]; rfl, rfl⟩
      obtain ⟨rfl, hwc⟩ := hcut
      have hwc' : w4 = wc := hwc.symm
      subst hwc'
      obtain ⟨X0, hX0⟩ : ∃ x, x = if highB s0 then nmB 0 else X1 := ⟨_, rfl⟩
      have HX0 : Hid (X0 = if highB s0 then nmB 0 else X1) := hX0
      have LX0 : Hid (X0 = if highB s0 then nmB 0 else X1) := hX0
      clear hX0
      go_wp2_with fail
      refine (high_any s0 _ h0).mono ?_
      rintro e w4 ⟨rfl, rfl⟩
      generalize highB s0 = g at HX0 ⊢
      go_upto_if 66 with fail
      go_cut [15] (fun v wx => v = .string X0 ∧ wx = w4)
      case first =>
        cases g
        · go_wp2_with fail
          go_meet
          case rel => exact ⟨by rw [HX0.out]; rfl, rfl⟩
        · go_wp2_with fail
          go_meet
          case rel => exact ⟨by rw [HX0.out]; rfl, rfl⟩
      obtain ⟨rfl, hwc⟩ := hcut
      have hwc' : w4 = wc := hwc.symm
      subst hwc'
      have HN : Hid (nonA s0 s3 s6 o1 o4 o5 n ss = X0) := by
        show nonA s0 s3 s6 o1 o4 o5 n ss = X0
        unfold nonA
        rw [LX0.out, LX1.out, LX2.out, LX3.out, LX4.out, LX5.out, HX6.out]
      have CF := zzfirst_any s0 s3 s6 q1 q4 q5 o1 o4 o5 a' n cap' ss w4 h0 h3 h6 I1.out I4.out I5.out IA.out
      rw [HN.out] at CF
      go_wp2_with fail
      refine CF.mono ?_
      rintro e w5 ⟨rfl, hb5⟩
      have hb6 : Below w.heap.size w w5 := IB.out.trans (hb5.mono IB.out.size)
      clear CF hb5
      go_wp2_with fail
      go_ret
      exact ⟨rfl, hb6⟩

end Go.Proofs.Qxb6605511a.Ascii

import Derived.Test.Qxb6605511aElems3
namespace Go.Proofs.Qxb6605511a.Ascii
open Go.RowKit

theorem below_chain {B : Nat} {a b c : World} (h : Below B a b) (k : Below b.heap.size b c) (hB : B ≤ b.heap.size) : Below B a c := h.trans (k.mono hB)

set_option maxRecDepth 100000 in
set_option maxHeartbeats 4000000 in
theorem caseLaw_walk (s0 s3 s6 : ByteArray) (p1 p4 p5 : Option Addr) (o1 o4 o5 : Option ByteArray) (a : Option Addr) (n cap : Nat) (ss : Nat → ByteArray) (w : World)
    (h0 : s0.size ≤ maxLen) (h3 : s3.size ≤ maxLen) (h6 : s6.size ≤ maxLen) (h1 : PtrAt w p1 o1) (h4 : PtrAt w p4 o4) (h5 : PtrAt w p5 o5) (ha : StrRow w a n ss) :
    Calls Try.prog 8 #[.string s0, .pointer p1, .slice a n cap, .string s3, .pointer p4, .pointer p5, .string s6] w fun e w' => e = .returned (.bool true) ∧ Below w.heap.size w w' := by
  have H1 : Hid (PtrAt w p1 o1) := h1
  have H4 : Hid (PtrAt w p4 o4) := h4
  have H5 : Hid (PtrAt w p5 o5) := h5
  have HA : Hid (StrRow w a n ss) := ha
  clear h1 h4 h5 ha
  go_enter Try.func8, Try.ntmps8
  go_wp2_with fail
  refine (bytes25_any s0 s3 s6 p1 p4 p5 o1 o4 o5 a n cap ss w h0 h3 h6 H1.out H4.out H5.out HA.out).mono ?_
  rintro e w ⟨rfl, hr⟩
  rcases hr with rfl | ⟨rfl, hall⟩
  · go_wp2_with fail
    go_ret
    exact ⟨rfl, Below.refl _ _⟩
  have ALL : Hid (AllSmall s0 s3 s6 o1 o4 o5 n ss) := hall
  have hn := hall.hn
  clear hall
  go_wp2_with fail
  refine (postal_any s0 s3 s6 p1 p4 p5 o1 o4 o5 a n cap ss w h0 h3 h6 H1.out H4.out H5.out HA.out).mono ?_
  rintro e w ⟨m, rfl, rfl⟩
  by_cases hm : 1048576 < m
  · go_wp2_with fail
    go_ret
    exact ⟨rfl, Below.refl _ _⟩
  have hd : decide (1048576 < m) = false := by simp; omega
  clear hm
  go_wp2_with fail
  refine (copyPtr_any p1 o1 _ H1.out).mono ?_
  rintro e w1 ⟨q1, rfl, g1, b1⟩
  have G1 : Hid (PtrAt w1 q1 o1) := g1
  have B1 : Hid (Below w.heap.size w w1) := b1
  clear g1 b1
  go_wp2_with fail
  refine (copyPtr_any p4 o4 _ (PtrAt.below H4.out B1.out)).mono ?_
  rintro e w2 ⟨q4, rfl, g4, b2⟩
  have G4 : Hid (PtrAt w2 q4 o4) := g4
  have B2 : Hid (Below w1.heap.size w1 w2) := b2
  clear g4 b2
  go_wp2_with fail
  refine (copyPtr_any p5 o5 _ (PtrAt.below (PtrAt.below H5.out B1.out) B2.out)).mono ?_
  rintro e w3 ⟨q5, rfl, g5, b3⟩
  have G5 : Hid (PtrAt w3 q5 o5) := g5
  have B3 : Hid (Below w2.heap.size w2 w3) := b3
  clear g5 b3
  go_wp2_with fail
  refine (copyLines_any a n cap ss _ (StrRow.below (StrRow.below (StrRow.below HA.out B1.out) B2.out) B3.out) hn).mono ?_
  rintro e w4 ⟨a', cap', rfl, hnil, ga, b4⟩
  have I1 : Hid (PtrAt w4 q1 o1) := PtrAt.below (PtrAt.below (PtrAt.below G1.out B2.out) B3.out) b4
  have I4 : Hid (PtrAt w4 q4 o4) := PtrAt.below (PtrAt.below G4.out B3.out) b4
  have I5 : Hid (PtrAt w4 q5 o5) := PtrAt.below G5.out b4
  have IA : Hid (StrRow w4 a' n ss) := ga
  have IB : Hid (Below w.heap.size w w4) := B1.out.trans (((B2.out.trans (B3.out.mono B2.out.size)).trans (b4.mono (Nat.le_trans B2.out.size B3.out.size))).mono B1.out.size)
  clear G1 G4 G5 B1 B2 B3 b4 ga hnil H1 H4 H5 HA
  -- got
  go_wp2_with fail
  obtain ⟨X, hX⟩ : ∃ x, x = nonA s0 s3 s6 o1 o4 o5 n ss := ⟨_, rfl⟩
  have HX : Hid (X = nonA s0 s3 s6 o1 o4 o5 n ss) := hX
  have CF := zzfirst_any s0 s3 s6 q1 q4 q5 o1 o4 o5 a' n cap' ss w4 h0 h3 h6 I1.out I4.out I5.out IA.out
  rw [← hX] at CF
  clear hX
  refine CF.mono ?_
  rintro e w5 ⟨rfl, b5⟩
  clear CF
  have J1 : Hid (PtrAt w5 q1 o1) := PtrAt.below I1.out b5
  have J4 : Hid (PtrAt w5 q4 o4) := PtrAt.below I4.out b5
  have J5 : Hid (PtrAt w5 q5 o5) := PtrAt.below I5.out b5
  have JA : Hid (StrRow w5 a' n ss) := StrRow.below IA.out b5
  have JB : Hid (Below w.heap.size w w5) := below_chain IB.out b5 IB.out.size
  clear I1 I4 I5 IA IB b5
  -- some
  obtain ⟨S, hS⟩ : ∃ x, x = someA s0 s3 s6 o1 o4 o5 := ⟨_, rfl⟩
  have HS : Hid (S = someA s0 s3 s6 o1 o4 o5) := hS
  clear hS
  go_upto_region 10 with fail
  go_cut [16] (fun v wx => v = .bool S ∧ wx = w5)
  case first =>
    have HS' : Hid (S = (highB s0 || highO o1 || highB s3 || highO o4 || highO o5 || highB s6)) := HS.out
    have C0 : Calls Try.prog 22 #[.string s0] w5 fun e w' => e = .returned (.bool (highB s0)) ∧ w' = w5 := high_any s0 w5 h0
    have C1 : Calls Try.prog 23 #[.pointer q1] w5 fun e w' => e = .returned (.bool (highO o1)) ∧ w' = w5 := highAt_any q1 o1 w5 J1.out
    have C3 : Calls Try.prog 22 #[.string s3] w5 fun e w' => e = .returned (.bool (highB s3)) ∧ w' = w5 := high_any s3 w5 h3
    have C4 : Calls Try.prog 23 #[.pointer q4] w5 fun e w' => e = .returned (.bool (highO o4)) ∧ w' = w5 := highAt_any q4 o4 w5 J4.out
    have C5 : Calls Try.prog 23 #[.pointer q5] w5 fun e w' => e = .returned (.bool (highO o5)) ∧ w' = w5 := highAt_any q5 o5 w5 J5.out
    have C6 : Calls Try.prog 22 #[.string s6] w5 fun e w' => e = .returned (.bool (highB s6)) ∧ w' = w5 := high_any s6 w5 h6
    clear HS J1 J4 J5 JA HX ALL
    generalize highB s0 = x0 at C0 HS'
    generalize highO o1 = x1 at C1 HS'
    generalize highB s3 = x3 at C3 HS'
    generalize highO o4 = x4 at C4 HS'
    generalize highO o5 = x5 at C5 HS'
    generalize highB s6 = x6 at C6 HS'
    have D0 : Hid _ := C0
    have D1 : Hid _ := C1
    have D3 : Hid _ := C3
    have D4 : Hid _ := C4
    have D5 : Hid _ := C5
    have D6 : Hid _ := C6
    clear C0 C1 C3 C4 C5 C6
    go_wp2_with fail
    refine (Calls.mono D0.out) ?_
    rintro e wz ⟨rfl, hwz⟩
    have hwz' : w5 = wz := hwz.symm
    subst hwz'
    clear hwz
    cases x0
    case true =>
      go_wp2_with fail
      go_meet
      case rel => exact ⟨by rw [HS'.out]; simp, rfl⟩
    go_wp2_with fail
    refine (Calls.mono D1.out) ?_
    rintro e wz ⟨rfl, hwz⟩
    have hwz' : w5 = wz := hwz.symm
    subst hwz'
    clear hwz
    cases x1
    case true =>
      go_wp2_with fail
      go_meet
      case rel => exact ⟨by rw [HS'.out]; simp, rfl⟩
    go_wp2_with fail
    refine (Calls.mono D3.out) ?_
    rintro e wz ⟨rfl, hwz⟩
    have hwz' : w5 = wz := hwz.symm
    subst hwz'
    clear hwz
    cases x3
    case true =>
      go_wp2_with fail
      go_meet
      case rel => exact ⟨by rw [HS'.out]; simp, rfl⟩
    go_wp2_with fail
    refine (Calls.mono D4.out) ?_
    rintro e wz ⟨rfl, hwz⟩
    have hwz' : w5 = wz := hwz.symm
    subst hwz'
    clear hwz
    cases x4
    case true =>
      go_wp2_with fail
      go_meet
      case rel => exact ⟨by rw [HS'.out]; simp, rfl⟩
    go_wp2_with fail
    refine (Calls.mono D5.out) ?_
    rintro e wz ⟨rfl, hwz⟩
    have hwz' : w5 = wz := hwz.symm
    subst hwz'
    clear hwz
    cases x5
    case true =>
      go_wp2_with fail
      go_meet
      case rel => exact ⟨by rw [HS'.out]; simp, rfl⟩
    go_wp2_with fail
    refine (Calls.mono D6.out) ?_
    rintro e wz ⟨rfl, hwz⟩
    have hwz' : w5 = wz := hwz.symm
    subst hwz'
    clear hwz
    cases x6
    all_goals
      go_wp2_with fail
      go_meet
      case rel => exact ⟨by rw [HS'.out]; simp, rfl⟩
  obtain ⟨rfl, hwc⟩ := hcut
  have hwc' : w5 = wc := hwc.symm
  subst hwc'
  clear hwc
  go_wp2_with fail
  go_loop [16, 17] (fun v i => ∃ (k : Nat) (b : Bool), k ≤ n ∧ i = .int .i64 k ∧ v = .bool b ∧ b = (S || anyHigh k ss)) (fun _ i => n - (intOf i).toNat)
  case atStart => exact ⟨0, S, by omega, rfl, rfl, by simp [anyHigh]⟩
  case round =>
    obtain ⟨k, b, hk, rfl, rfl, hbb⟩ := hrel
    have HBB : Hid (b = (S || anyHigh k ss)) := hbb
    clear hbb
    by_cases hlt : k < n
    · obtain ⟨g1, g2, g3⟩ := JA.out
      rcases g3 with g3 | ⟨bb, off, g4, g5⟩
      · omega
      · cases g4
        have hc1 : w5.cell? ⟨bb, off + k, none⟩ = some (.string (ss k)) := g5 k hlt
        have hz := g2 k hlt
        clear g1 g2 g5
        go_wp2_with fail
        refine (high_any (ss k) _ hz).mono ?_
        rintro e w5 ⟨rfl, rfl⟩
        cases hh : highB (ss k)
        · have HN : Hid (b = (S || anyHigh (k + 1) ss)) := by show _ = _; rw [anyHigh_succ, hh, Bool.or_false]; exact HBB.out
          clear hh
          go_wp2_with fail
          go_round
          case rel => exact ⟨k + 1, b, by omega, by go_num, rfl, HN.out⟩
          case measure => simp [intOf]; omega
        · have HN : Hid (true = (S || anyHigh (k + 1) ss)) := by show _ = _; rw [anyHigh_succ, hh]; simp
          clear hh
          go_wp2_with fail
          go_round
          case rel => exact ⟨k + 1, true, by omega, by go_num, rfl, HN.out⟩
          case measure => simp [intOf]; omega
    · have hXE : X.toList.isEmpty = !b := by
        rw [HX.out, nonA_some, HBB.out, HS.out]
        rw [show k = n by omega]
      clear HBB HS
      have hs0 := ALL.out.h0
      have hs3 := ALL.out.h3
      have hs6 := ALL.out.h6
      go_wp2_with fail
      refine (zzlower_any s0 _ hs0).mono ?_
      rintro e w6 ⟨rfl, b6⟩
      have E6 : Hid (Below w.heap.size w w6) := below_chain JB.out b6 JB.out.size
      have K6 : Hid (Below w5.heap.size w5 w6) := b6
      clear b6 hXE
      go_wp2_with fail
      refine (zzlower_any s3 _ hs3).mono ?_
      rintro e w7 ⟨rfl, b7⟩
      have E7 : Hid (Below w.heap.size w w7) := below_chain E6.out b7 E6.out.size
      have K7 : Hid (Below w5.heap.size w5 w7) := below_chain K6.out b7 K6.out.size
      clear b7 E6 K6
      go_wp2_with fail
      refine (zzlower_any s6 _ hs6).mono ?_
      rintro e w8 ⟨rfl, b8⟩
      have E8 : Hid (Below w.heap.size w w8) := below_chain E7.out b8 E7.out.size
      have K8 : Hid (Below w5.heap.size w5 w8) := below_chain K7.out b8 K7.out.size
      clear b8 E7 K7
      go_wp2_with fail
      refine (foldOK_any s0 _ hs0).mono ?_
      rintro e w8 ⟨rfl, rfl⟩
      go_wp2_with fail
      refine (foldOK_any s3 _ hs3).mono ?_
      rintro e w8 ⟨rfl, rfl⟩
      go_wp2_with fail
      refine (foldOK_any s6 _ hs6).mono ?_
      rintro e w8 ⟨rfl, rfl⟩
      go_wp2_with fail
      refine (lowerAt_any q1 o1 _ (PtrAt.below J1.out K8.out) ALL.out.h1).mono ?_
      rintro e w9 ⟨r1, rfl, g1, b9⟩
      have E9 : Hid (Below w.heap.size w w9) := below_chain E8.out b9 E8.out.size
      have K9 : Hid (Below w5.heap.size w5 w9) := below_chain K8.out b9 K8.out.size
      have R1 : Hid (PtrAt w9 r1 (o1.map lower)) := g1
      clear b9 E8 K8 g1
      go_wp2_with fail
      refine (lowerAt_any q4 o4 _ (PtrAt.below J4.out K9.out) ALL.out.h4).mono ?_
      rintro e w10 ⟨r4, rfl, g4, b10⟩
      have E10 : Hid (Below w.heap.size w w10) := below_chain E9.out b10 E9.out.size
      have K10 : Hid (Below w5.heap.size w5 w10) := below_chain K9.out b10 K9.out.size
      have R1b : Hid (PtrAt w10 r1 (o1.map lower)) := PtrAt.below R1.out b10
      have R4 : Hid (PtrAt w10 r4 (o4.map lower)) := g4
      clear b10 E9 K9 g4 R1
      go_wp2_with fail
      refine (lowerAt_any q5 o5 _ (PtrAt.below J5.out K10.out) ALL.out.h5).mono ?_
      rintro e w11 ⟨r5, rfl, g5, b11⟩
      have E11 : Hid (Below w.heap.size w w11) := below_chain E10.out b11 E10.out.size
      have K11 : Hid (Below w5.heap.size w5 w11) := below_chain K10.out b11 K10.out.size
      have R1c : Hid (PtrAt w11 r1 (o1.map lower)) := PtrAt.below R1b.out b11
      have R4b : Hid (PtrAt w11 r4 (o4.map lower)) := PtrAt.below R4.out b11
      have R5 : Hid (PtrAt w11 r5 (o5.map lower)) := g5
      clear b11 E10 K10 g5 R1b R4
      have dr : ∀ (u : World) (m : Nat), Below u.heap.size u (u.drewN m) := fun u m => below_drewN (Below.refl _ _) m
      have DR : Hid _ := dr
      clear dr
      go_wp2_with fail
      refine (foldOKAt_any q1 r1 o1 _ (PtrAt.below J1.out K11.out) R1c.out ALL.out.h1).mono ?_
      rintro e w12 ⟨rfl, m1, hw12⟩
      have b12 : Below w11.heap.size w11 w12 := by rw [hw12]; exact DR.out _ _
      have K12 : Hid (Below w11.heap.size w11 w12) := b12
      clear hw12 b12
      go_wp2_with fail
      refine (foldOKAt_any q4 r4 o4 _ (PtrAt.below (PtrAt.below J4.out K11.out) K12.out) (PtrAt.below R4b.out K12.out) ALL.out.h4).mono ?_
      rintro e w13 ⟨rfl, m2, hw13⟩
      have b13 : Below w12.heap.size w12 w13 := by rw [hw13]; exact DR.out _ _
      have K13 : Hid (Below w11.heap.size w11 w13) := below_chain K12.out b13 K12.out.size
      clear hw13 b13 K12
      go_wp2_with fail
      refine (foldOKAt_any q5 r5 o5 _ (PtrAt.below (PtrAt.below J5.out K11.out) K13.out) (PtrAt.below R5.out K13.out) ALL.out.h5).mono ?_
      rintro e w14 ⟨rfl, m3, hw14⟩
      have b14 : Below w13.heap.size w13 w14 := by rw [hw14]; exact DR.out _ _
      have K14 : Hid (Below w11.heap.size w11 w14) := below_chain K13.out b14 K13.out.size
      have F1 : Hid (PtrAt w14 r1 (o1.map lower)) := PtrAt.below R1c.out K14.out
      have F4 : Hid (PtrAt w14 r4 (o4.map lower)) := PtrAt.below R4b.out K14.out
      have F5 : Hid (PtrAt w14 r5 (o5.map lower)) := PtrAt.below R5.out K14.out
      have FA : Hid (StrRow w14 a' n ss) := StrRow.below (StrRow.below JA.out K11.out) K14.out
      have FB : Hid (Below w.heap.size w w14) := below_chain E11.out K14.out E11.out.size
      clear hw14 b14 K13 K14 K11 E11 R1c R4b R5 J1 J4 J5 JA JB DR
      have hl0 : (lower s0).size ≤ maxLen := by rw [lower_size]; exact h0
      have hl3 : (lower s3).size ≤ maxLen := by rw [lower_size]; exact h3
      have hl6 : (lower s6).size ≤ maxLen := by rw [lower_size]; exact h6
      have q31 : ∀ (w : World) (a : Option Addr) (n c n' c' : Nat), (binOp .neq 31 (.slice a n c) (.slice none n' c')).run Try.prog w = .ok (.bool (!a.isNone)) w := fun w a n c n' c' => run_neq_slice_nil_any w _ _ a n c n' c' Try.underlying31
      cases a' with
      | none =>
        have hn0 : n = 0 := by
          obtain ⟨_, _, g3⟩ := FA.out
          rcases g3 with g3 | ⟨_, _, g4, _⟩
          · exact g3
          · cases g4
        have CF := zzfirst_any (lower s0) (lower s3) (lower s6) r1 r4 r5 (o1.map lower) (o4.map lower) (o5.map lower) none 0 0 (fun i => lower (ss i)) w14 hl0 hl3 hl6 F1.out F4.out F5.out ⟨Nat.zero_le _, fun i hi => by omega, .inl rfl⟩
        rw [nonA_lower] at CF
        have hX0 : nonA s0 s3 s6 o1 o4 o5 0 ss = X := by rw [HX.out, hn0]
        rw [hX0] at CF
        have CF' : Hid _ := CF
        clear CF hX0 hn0
        go_wp2_with fail
        refine (Calls.mono CF'.out) ?_
        rintro e w15 ⟨rfl, b15⟩
        have E15 : Below w.heap.size w w15 := below_chain FB.out b15 FB.out.size
        clear b15 CF'
        go_wp2_with fail
        go_ret
        exact ⟨rfl, E15⟩
      | some x =>
        have hmk := fun wx => run_make_row' (P := Try.prog) 31 9 (.string ⟨#[]⟩) 16 Try.underlying31 info9 rfl .i64 .i64 n (by omega) (by omega) wx
        go_wp2_with fail
        have H0 := has_made w14 (.string ⟨#[]⟩) n 9
        have hB : Below w14.heap.size w14 (w14.alloc (.cells (madeCells #[.string ⟨#[]⟩] n) 9)) := (Below.refl _ _).alloc (Nat.le_refl _) _
        go_loopw [25] (fun i wr => ∃ k : Nat, k ≤ n ∧ i = .int .i64 k ∧ Below w14.heap.size w14 wr ∧ w14.heap.size < wr.heap.size ∧ Has wr w14.heap.size n (copV (fun i => lower (ss i)) k)) (fun i _ => n - (intOf i).toNat)
        case atStart => exact ⟨0, by omega, rfl, hB, by simp, H0.congr (fun q _ => by simp [copV])⟩
        case round =>
          clear hB H0 hmk q31
          obtain ⟨j, hj, rfl, hB, hz, hhas⟩ := hrel
          have HH : Hid (Has wr w14.heap.size n (copV (fun i => lower (ss i)) j)) := hhas
          clear hhas
          by_cases hlt2 : j < n
          · obtain ⟨g1, g2, g3⟩ := FA.out
            rcases g3 with g3 | ⟨bb, off, g4, g5⟩
            · omega
            · cases g4
              have hcj : w14.cell? ⟨bb, off + j, none⟩ = some (.string (ss j)) := g5 j hlt2
              have hc1 : wr.cell? ⟨bb, off + j, none⟩ = some (.string (ss j)) := cell_later hB hcj
              have hbl : bb < w14.heap.size := World.block_lt_of_cell? _ _ hcj
              have hsj := ALL.out.hs j hlt2
              clear g1 g2 g5 hcj
              go_wp2_with fail
              refine (zzlower_any (ss j) _ hsj).mono ?_
              rintro e wy ⟨rfl, by1⟩
              have H2 : Has wy w14.heap.size n (copV (fun i => lower (ss i)) j) := HH.out.below by1 hz
              have HH2 : Hid (Has wy w14.heap.size n (copV (fun i => lower (ss i)) j)) := H2
              have hcy : wy.cell? ⟨w14.heap.size, j, none⟩ = some (copV (fun i => lower (ss i)) j j) := (H2 j hlt2).1
              have hfy : wy.frozen? ⟨w14.heap.size, j, none⟩ = false := (H2 j hlt2).2
              have hc2 : wy.cell? ⟨bb, off + j, none⟩ = some (.string (ss j)) := cell_later by1 hc1
              have hBy : Below w14.heap.size w14 wy := below_chain hB by1 hB.size
              have hzy : w14.heap.size < wy.heap.size := Nat.lt_of_lt_of_le hz by1.size
              have HY : Hid (Below w14.heap.size w14 wy) := hBy
              clear by1 H2 hc1 hB hz HH hBy
              go_wp2_with fail
              have H3 : Has (wy.setCell ⟨w14.heap.size, j, none⟩ (.string (lower (ss j)))) w14.heap.size n (copV (fun i => lower (ss i)) (j + 1)) :=
                HH2.out.set j hlt2 _ _ (copV_at (fun i => lower (ss i)) j) (fun q _ h => copV_same _ j q h)
              have hc3 : (wy.setCell ⟨w14.heap.size, j, none⟩ (.string (lower (ss j)))).cell? ⟨bb, off + j, none⟩ = some (.string (ss j)) := by
                rw [World.cell?_setCell_other _ _ _ _ (by intro e'; injection e' with e1 _; omega)]; exact hc2
              have hBx : Below w14.heap.size w14 (wy.setCell ⟨w14.heap.size, j, none⟩ (.string (lower (ss j)))) := HY.out.setCell (Nat.le_refl _) _
              have hzx : w14.heap.size < (wy.setCell ⟨w14.heap.size, j, none⟩ (.string (lower (ss j)))).heap.size := by simpa using hzy
              generalize wy.setCell ⟨w14.heap.size, j, none⟩ (.string (lower (ss j))) = wx at H3 hc3 hBx hzx ⊢
              have hc4 : wx.cell? ⟨w14.heap.size, j, none⟩ = some (.string (lower (ss j))) := by rw [(H3 j hlt2).1, copV_at]
              have H3' : Hid (Has wx w14.heap.size n (copV (fun i => lower (ss i)) (j + 1))) := H3
              have HBX : Hid (Below w14.heap.size w14 wx) := hBx
              clear H3 hBx hcy hfy hc2 HH2 HY hzy
              go_quiet ((go_at_call 26; exact Calls.quiet_of_same (foldOK_any (ss j) _ hsj)))
              go_wp2_with fail
              go_roundw
              case rel => exact ⟨j + 1, by omega, by go_num, below_drewN HBX.out _, by simpa using hzx, H3'.out⟩
              case measure => simp [intOf]; omega
          · obtain rfl : j = n := by omega
            have CF := zzfirst_any (lower s0) (lower s3) (lower s6) r1 r4 r5 (o1.map lower) (o4.map lower) (o5.map lower) (some ⟨w14.heap.size, 0, none⟩) j j (fun i => lower (ss i)) wr hl0 hl3 hl6 (PtrAt.below F1.out hB) (PtrAt.below F4.out hB) (PtrAt.below F5.out hB)
              ⟨FA.out.1, fun i hi => by rw [lower_size]; exact FA.out.2.1 i hi, .inr ⟨_, _, rfl, fun i hi => by rw [Nat.zero_add, (HH.out i hi).1]; unfold copV; rw [if_pos hi]⟩⟩
            rw [nonA_lower, ← HX.out] at CF
            have CF' : Hid _ := CF
            clear CF
            go_wp2_with fail
            refine (Calls.mono CF'.out) ?_
            rintro e w15 ⟨rfl, b15⟩
            have E14 : Below w.heap.size w wr := below_chain FB.out hB FB.out.size
            have E15 : Below w.heap.size w w15 := below_chain E14 b15 E14.size
            clear b15 CF' E14
            go_wp2_with fail
            go_ret
            exact ⟨rfl, E15⟩

end Go.Proofs.Qxb6605511a.Ascii

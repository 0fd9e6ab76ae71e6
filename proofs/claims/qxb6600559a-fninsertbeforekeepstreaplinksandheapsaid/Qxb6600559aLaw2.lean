import Derived.Test.Qxb6600559aLaw1
namespace Go.Proofs.Qxb6600559a.Treap
open Go.RowKit

set_option maxHeartbeats 2000000 in
theorem childLinks_any {w : World} {V n : Nat} {F : Nat → Nat → Int} (hV : ViewIn w V n n F) (hn : n ≤ 4096) (x : Nat) (c : Int) (hc : c = -1 ∨ ∃ d : Nat, d < n ∧ c = (d : Int) ∧ F d 3 = (x : Int)) :
    Calls Try.prog 21 #[.slice (some ⟨V, 0, none⟩) n n, .int .i32 c, .int .i32 (x : Int)] w fun e w' => e = .returned (.bool true) ∧ w' = w := by
  have HV : Hid _ := hV
  clear hV
  rcases hc with rfl | ⟨d, hd, rfl, h3⟩
  · go_enter Try.func21, Try.ntmps21
    go_wp2_with fail
    go_ret
    exact ⟨rfl, rfl⟩
  · have c3 : w.cell? ⟨V, d * 7 + 3, none⟩ = some (.int .i32 (x : Int)) := by rw [← h3]; exact ViewIn.cell HV.out d 3 hd (by omega)
    have hne : ((d : Int) != -1) = true := by simp
    clear h3
    go_enter Try.func21, Try.ntmps21
    go_wp2_with fail
    go_ret
    exact ⟨rfl, rfl⟩

theorem left_child {n : Nat} {F : Nat → Nat → Int} {pos lo hi : Nat → Nat} {x : Nat} (h : LeftOK n F pos lo hi x) : F x 1 = -1 ∨ ∃ d : Nat, d < n ∧ F x 1 = (d : Int) ∧ F d 3 = (x : Int) := by
  rcases h with ⟨h, _⟩ | ⟨c, h1, h2, _, _, h3⟩
  · exact .inl h
  · exact .inr ⟨c, h1, h2, h3⟩
theorem right_child {n : Nat} {F : Nat → Nat → Int} {pos lo hi : Nat → Nat} {x : Nat} (h : RightOK n F pos lo hi x) : F x 2 = -1 ∨ ∃ d : Nat, d < n ∧ F x 2 = (d : Int) ∧ F d 3 = (x : Int) := by
  rcases h with ⟨h, _⟩ | ⟨c, h1, h2, _, _, h3⟩
  · exact .inl h
  · exact .inr ⟨c, h1, h2, h3⟩

set_option maxRecDepth 100000 in
set_option maxHeartbeats 4000000 in
theorem law2_walk (w : World) (seed : Int) (a : Option Addr) (n cap : Nat) (z : Nat → Int) (ha : Ints64 w a n z) (hn : n ≤ maxLen) :
    Calls Try.prog 6 #[.int .u32 seed, .slice a n cap] w fun e w' => e = .returned (.bool true) ∧ Below w.heap.size w w' := by
  have C20 := bytes20_any seed a n cap w hn
  unfold maxLen at hn
  have HA : Hid _ := ha
  clear ha
  by_cases h1 : n ≤ 1048576
  case neg =>
    have hd : decide (n ≤ 1048576) = false := by simpa using h1
    rw [hd] at C20
    have HC : Hid _ := C20
    clear C20 hd
    go_enter Try.func6, Try.ntmps6
    go_wp2_with fail
    refine (Calls.mono HC.out) ?_
    rintro e w ⟨rfl, rfl⟩
    go_wp2_with fail
    go_ret
    exact ⟨rfl, Below.refl _ _⟩
  have hd : decide (n ≤ 1048576) = true := by simpa using h1
  rw [hd] at C20
  have HC : Hid _ := C20
  clear C20 hd
  by_cases h2 : n ≤ 4096
  case neg =>
    go_enter Try.func6, Try.ntmps6
    go_wp2_with fail
    refine (Calls.mono HC.out) ?_
    rintro e w ⟨rfl, rfl⟩
    go_wp2_with fail
    go_ret
    exact ⟨rfl, Below.refl _ _⟩
  have hd2 : decide ((4096 : Int) < (n : Int)) = false := by simp; omega
  go_enter Try.func6, Try.ntmps6
  go_wp2_with fail
  refine (Calls.mono HC.out) ?_
  rintro e w ⟨rfl, rfl⟩
  clear HC
  go_wp2_with fail
  refine (clone_any a n cap z w HA.out h1).mono ?_
  rintro e w1 ⟨a1, cap1, rfl, hp1, b1⟩
  have P1 : Hid _ := pos_of hp1
  have B1 : Hid _ := b1
  clear hp1 b1
  go_wp2_with fail
  refine (script_any w1 seed a1 n cap1 z h2 P1.out HA.out.1).mono ?_
  rintro e w2 ⟨B, A, L, rfl, ⟨ao, capn, xs, F, root, top, at', s, ls, pos, lo, hi, S1, S2, S3, S4, S5, S6, S7⟩, b2⟩
  have T1 : Hid _ := S1
  have B2 : Hid (Below w.heap.size w w2) := below_chain B1.out b2 B1.out.size
  have TS2 : Hid _ := S2
  have TS3 : Hid _ := S3
  have TS4 : Hid _ := S4
  have TS5 : Hid _ := S5
  clear S1 S2 S3 S4 S5 S6 S7 b2 B1 P1
  go_wp2_with fail
  refine (view_any T1.out (by omega) (by omega)).mono ?_
  rintro e w3 ⟨V, C, rfl, v1, v2, b3⟩
  have SH : Hid (Shown w3 L V C n F root top at' ls pos lo hi) := ⟨TS2.out, TS3.out, TS4.out, IntsIn.below TS5.out b3, v1, v2⟩
  have B3 : Hid (Below w.heap.size w w3) := below_chain B2.out b3 B2.out.size
  clear v1 v2 b3 T1 TS2 TS3 TS4 TS5 B2
  rcases SH.out.inv.tree.root with ⟨hn0, hr⟩ | ⟨r, hrn, hr, _, _, hr3⟩
  · subst hr
    subst hn0
    go_wp2_with fail
    go_ret
    exact ⟨rfl, B3.out⟩
  · subst hr
    have c3 : w3.cell? ⟨V, r * 7 + 3, none⟩ = some (.int .i32 (-1)) := by rw [← hr3]; exact ViewIn.cell SH.out.view r 3 hrn (by omega)
    have hn0 : ((n : Int) == 0) = false := by simp; omega
    have hr0 : decide ((r : Int) < 0) = false := by simp
    have hr1 : decide (n ≤ r) = false := by simp; omega
    clear hr3
    go_wp2_with fail
    clear hd2 c3
    go_loopw [13, 14, 15] (fun v _ _ wr => ∃ k : Nat, k ≤ n ∧ v = .int .i64 k ∧ Below w3.heap.size w3 wr) (fun v _ _ _ => n - (intOf v).toNat)
    case atStart => exact ⟨0, by omega, rfl, Below.refl _ _⟩
    case round =>
      obtain ⟨k, hk, rfl, hb⟩ := hrel
      have SR : Hid (Shown wr L V C n F (r : Int) top at' ls pos lo hi) := SH.out.below hb
      have BR : Hid _ := hb
      clear hb
      by_cases hlt : k < n
      · have hVl : V < wr.heap.size := ViewIn.lt SR.out.view
        have d : ∀ f, f < 7 → wr.cell? ⟨V, k * 7 + f, none⟩ = some (val f (F k f)) := fun f hf => ViewIn.cell SR.out.view k f hlt hf
        have d0 : wr.cell? ⟨V, k * 7, none⟩ = some (.int .i32 (F k 0)) := d 0 (by omega)
        have d1 : wr.cell? ⟨V, k * 7 + 1, none⟩ = some (.int .i32 (F k 1)) := d 1 (by omega)
        have d2 : wr.cell? ⟨V, k * 7 + 2, none⟩ = some (.int .i32 (F k 2)) := d 2 (by omega)
        have d3 : wr.cell? ⟨V, k * 7 + 3, none⟩ = some (.int .i32 (F k 3)) := d 3 (by omega)
        have d4 : wr.cell? ⟨V, k * 7 + 4, none⟩ = some (.int .i32 (F k 4)) := d 4 (by omega)
        have d5 : wr.cell? ⟨V, k * 7 + 5, none⟩ = some (.int .i32 (F k 5)) := d 5 (by omega)
        have d6 : wr.cell? ⟨V, k * 7 + 6, none⟩ = some (.int .u32 (F k 6)) := d 6 (by omega)
        clear d
        have HL : Hid _ := left_child (SR.out.inv.tree.left k hlt)
        have HR : Hid _ := right_child (SR.out.inv.tree.right k hlt)
        by_cases hkr : k = r
        · subst hkr
          go_wp2_with fail
          refine (childLinks_any (ViewIn.alloc SR.out.view _) h2 k _ HL.out).mono ?_
          rintro e w5 ⟨rfl, rfl⟩
          go_wp2_with fail
          refine (childLinks_any (ViewIn.alloc SR.out.view _) h2 k _ HR.out).mono ?_
          rintro e w5 ⟨rfl, rfl⟩
          go_wp2_with fail
          go_roundw
          case rel => exact ⟨k + 1, by omega, by go_num, BR.out.alloc BR.out.size _⟩
          case measure => simp [intOf]; omega
        · have hne : ((k : Int) != (r : Int)) = true := by simp; omega
          obtain ⟨q, hq, hq3, hqc⟩ : ∃ q : Nat, q < n ∧ F k 3 = (q : Int) ∧ (F q 1 = (k : Int) ∨ F q 2 = (k : Int)) := by
            rcases SR.out.inv.tree.par k hlt with ⟨_, h⟩ | h
            · omega
            · exact h
          have hle := SR.out.heap k q hlt hq hq3
          rw [hq3] at d3
          have hpr : decide (F q 6 < F k 6) = false := by simp; omega
          have e1 : wr.cell? ⟨V, q * 7 + 1, none⟩ = some (.int .i32 (F q 1)) := ViewIn.cell SR.out.view q 1 hq (by omega)
          have e2 : wr.cell? ⟨V, q * 7 + 2, none⟩ = some (.int .i32 (F q 2)) := ViewIn.cell SR.out.view q 2 hq (by omega)
          have e6 : wr.cell? ⟨V, q * 7 + 6, none⟩ = some (.int .u32 (F q 6)) := ViewIn.cell SR.out.view q 6 hq (by omega)
          have XB : Hid _ := (Below.refl wr.heap.size wr).alloc (Nat.le_refl _) (.cells #[.int .i32 (F k 0), .int .i32 (F k 1), .int .i32 (F k 2), .int .i32 (q : Int), .int .i32 (F k 4), .int .i32 (F k 5), .int .u32 (F k 6)] 46)
          clear hq3 hle
          by_cases hc : F q 1 = (k : Int)
          · rw [hc] at e1
            clear hqc hc
            go_wp2_with fail
            go_quiet (fail)
            go_wp2_with fail
            refine (childLinks_any (ViewIn.below' SR.out.view (below_drewN XB.out _)) h2 k _ HL.out).mono ?_
            rintro e w5 ⟨rfl, rfl⟩
            go_wp2_with fail
            refine (childLinks_any (ViewIn.below' SR.out.view (below_drewN XB.out _)) h2 k _ HR.out).mono ?_
            rintro e w5 ⟨rfl, rfl⟩
            go_wp2_with fail
            go_roundw
            case rel => exact ⟨k + 1, by omega, by go_num, below_drewN (BR.out.alloc BR.out.size _) _⟩
            case measure => simp [intOf]; omega
          · have hc2 : F q 2 = (k : Int) := by omega
            have hc1 : (F q 1 != (k : Int)) = true := by simpa using hc
            rw [hc2] at e2
            clear hqc hc hc2
            go_wp2_with fail
            go_quiet (fail)
            go_wp2_with fail
            refine (childLinks_any (ViewIn.below' SR.out.view (below_drewN XB.out _)) h2 k _ HL.out).mono ?_
            rintro e w5 ⟨rfl, rfl⟩
            go_wp2_with fail
            refine (childLinks_any (ViewIn.below' SR.out.view (below_drewN XB.out _)) h2 k _ HR.out).mono ?_
            rintro e w5 ⟨rfl, rfl⟩
            go_wp2_with fail
            go_roundw
            case rel => exact ⟨k + 1, by omega, by go_num, below_drewN (BR.out.alloc BR.out.size _) _⟩
            case measure => simp [intOf]; omega
      · go_wp2_with fail
        refine (order_any SR.out.view h2 SR.out.inv).mono ?_
        rintro e w4 ⟨O, rfl, o1, _, o2⟩
        have B4 : Hid (Below w.heap.size w w4) := below_chain (below_chain B3.out BR.out B3.out.size) o2 (Nat.le_trans B3.out.size BR.out.size)
        clear o1 o2
        go_wp2_with fail
        go_ret
        exact ⟨rfl, B4.out⟩
end Go.Proofs.Qxb6600559a.Treap

import Derived.Test.Qxb6600559aOrderWalk
namespace Go.Proofs.Qxb6600559a.Treap
open Go.RowKit

/-- What the law looks at, once the script has run and the status has been copied out. -/
structure Shown (w : World) (L V C n : Nat) (F : Nat → Nat → Int) (root top : Int) (at' : Nat → Int) (ls pos lo hi : Nat → Nat) : Prop where
  inv : Inv n F root top ls pos lo hi
  heap : Heap n F
  att : ∀ e, e < n → at' e = (e : Int)
  list : IntsIn w L n n (fun i => (ls i : Int))
  view : ViewIn w V n n F
  edges : IntsIn w C n n at'

theorem IntsIn.below {w w' : World} {L cap k : Nat} {f : Nat → Int} (h : IntsIn w L cap k f) (hb : Below w.heap.size w w') : IntsIn w' L cap k f := h.block (hb.block L h.lt)
theorem ViewIn.below' {w w' : World} {V n k : Nat} {F : Nat → Nat → Int} (h : ViewIn w V n k F) (hb : Below w.heap.size w w') : ViewIn w' V n k F := ViewIn.below h hb (ViewIn.lt h)
theorem Shown.below {w w' : World} {L V C n : Nat} {F : Nat → Nat → Int} {root top : Int} {at' : Nat → Int} {ls pos lo hi : Nat → Nat} (h : Shown w L V C n F root top at' ls pos lo hi) (hb : Below w.heap.size w w') : Shown w' L V C n F root top at' ls pos lo hi :=
  ⟨h.inv, h.heap, h.att, h.list.below hb, ViewIn.below' h.view hb, h.edges.below hb⟩
theorem below_chain {B : Nat} {a b c : World} (h : Below B a b) (k : Below b.heap.size b c) (hB : B ≤ b.heap.size) : Below B a c := h.trans (k.mono hB)

theorem pos_of {w : World} {a' : Option Addr} {n : Nat} {z : Nat → Int} {B : Nat} (h : n = 0 ∨ ∃ P, a' = some ⟨P, 0, none⟩ ∧ B ≤ P ∧ Row64 w P n z) : Pos w a' n z := by
  rcases h with h | ⟨P, h1, _, h2⟩
  · exact .inl h
  · exact .inr ⟨P, h1, h2⟩

/-- The edge that the walk downwards stands at, with m still to come. -/
def down (ls : Nat → Nat) (m : Nat) : Int := if m = 0 then -1 else (ls (m - 1) : Int)

set_option maxRecDepth 100000 in
set_option maxHeartbeats 4000000 in
theorem law1_walk (w : World) (seed : Int) (a : Option Addr) (n cap : Nat) (z : Nat → Int) (ha : Ints64 w a n z) (hn : n ≤ maxLen) :
    Calls Try.prog 5 #[.int .u32 seed, .slice a n cap] w fun e w' => e = .returned (.bool true) ∧ Below w.heap.size w w' := by
  have C16 := bytes16_any seed a n cap w hn
  unfold maxLen at hn
  have HA : Hid _ := ha
  clear ha
  by_cases h1 : n ≤ 1048576
  case neg =>
    have hd : decide (n ≤ 1048576) = false := by simpa using h1
    rw [hd] at C16
    have HC : Hid _ := C16
    clear C16 hd
    go_enter Try.func5, Try.ntmps5
    go_wp2_with fail
    refine (Calls.mono HC.out) ?_
    rintro e w ⟨rfl, rfl⟩
    go_wp2_with fail
    go_ret
    exact ⟨rfl, Below.refl _ _⟩
  have hd : decide (n ≤ 1048576) = true := by simpa using h1
  rw [hd] at C16
  have HC : Hid _ := C16
  clear C16 hd
  by_cases h2 : n ≤ 4096
  case neg =>
    go_enter Try.func5, Try.ntmps5
    go_wp2_with fail
    refine (Calls.mono HC.out) ?_
    rintro e w ⟨rfl, rfl⟩
    go_wp2_with fail
    go_ret
    exact ⟨rfl, Below.refl _ _⟩
  have hd2 : decide ((4096 : Int) < (n : Int)) = false := by simp; omega
  go_enter Try.func5, Try.ntmps5
  go_wp2_with fail
  refine (Calls.mono HC.out) ?_
  rintro e w ⟨rfl, rfl⟩
  clear HC
  go_wp2_with fail
  refine (clone_any a n cap z w HA.out h1).mono ?_
  rintro e w1 ⟨a1, cap1, rfl, hp1, b1⟩
  have P1 : Hid _ := pos_of hp1
  have B1 : Hid _ := b1
  clear hp1 b1
  go_wp2_with fail
  refine (script_any w1 seed a1 n cap1 z h2 P1.out HA.out.1).mono ?_
  rintro e w2 ⟨B, A, L, rfl, ⟨ao, capn, xs, F, root, top, at', s, ls, pos, lo, hi, S1, S2, S3, S4, S5, S6, S7⟩, b2⟩
  have T1 : Hid _ := S1
  have B2 : Hid (Below w.heap.size w w2) := below_chain B1.out b2 B1.out.size
  have TS2 : Hid _ := S2
  have TS3 : Hid _ := S3
  have TS4 : Hid _ := S4
  have TS5 : Hid _ := S5
  clear S1 S2 S3 S4 S5 S6 S7 b2 B1 P1
  go_wp2_with fail
  refine (view_any T1.out (by omega) (by omega)).mono ?_
  rintro e w3 ⟨V, C, rfl, v1, v2, b3⟩
  have SH : Hid (Shown w3 L V C n F root top at' ls pos lo hi) := ⟨TS2.out, TS3.out, TS4.out, IntsIn.below TS5.out b3, v1, v2⟩
  have B3 : Hid (Below w.heap.size w w3) := below_chain B2.out b3 B2.out.size
  clear v1 v2 b3 T1 TS2 TS3 TS4 TS5 B2
  go_wp2_with fail
  clear hd2
  go_loop [13] (fun v => ∃ k : Nat, k ≤ n ∧ v = .int .i64 k) (fun v => n - (intOf v).toNat)
  case atStart => exact ⟨0, by omega, rfl⟩
  case round =>
    obtain ⟨k, hk, rfl⟩ := hrel
    by_cases hlt : k < n
    · have cC : w3.cell? ⟨C, k, none⟩ = some (.int .i32 (k : Int)) := by rw [← SH.out.att k hlt]; exact SH.out.edges.cell k hlt
      have cE : w3.cell? ⟨V, k * 7, none⟩ = some (.int .i32 (k : Int)) := by rw [← SH.out.inv.ed k hlt]; exact SH.out.view.cell k 0 hlt (by omega)
      go_wp2_with fail
      go_round
      case rel => exact ⟨k + 1, by omega, by go_num⟩
      case measure => simp [intOf]; omega
    · go_wp2_with fail
      refine (order_any SH.out.view h2 SH.out.inv).mono ?_
      rintro e w4 ⟨O, rfl, o1, _, o2⟩
      have SH4 : Hid (Shown w4 L V C n F root top at' ls pos lo hi) := SH.out.below o2
      have B4 : Hid (Below w.heap.size w w4) := below_chain B3.out o2 B3.out.size
      have XO : Hid (IntsIn w4 O n n (fun i => (ls i : Int))) := o1
      clear o1 o2 SH B3
      go_wp2_with fail
      have hkn : k = n := by omega
      subst hkn
      clear hlt hk
      go_loopw [16] (fun v wr => ∃ j : Nat, j ≤ k ∧ v = .int .i64 j ∧ Below w4.heap.size w4 wr) (fun v _ => k - (intOf v).toNat)
      case atStart => exact ⟨0, by omega, rfl, Below.refl _ _⟩
      case round =>
        obtain ⟨j, hj, rfl, hb⟩ := hrel
        have SR : Hid (Shown wr L V C k F root top at' ls pos lo hi) := SH4.out.below hb
        have XR : Hid (IntsIn wr O k k (fun i => (ls i : Int))) := IntsIn.below XO.out hb
        have BR : Hid _ := hb
        clear hb
        by_cases hlt : j < k
        · have cO : wr.cell? ⟨O, j, none⟩ = some (.int .i32 (ls j : Int)) := IntsIn.cell XR.out j hlt
          have cL : wr.cell? ⟨L, j, none⟩ = some (.int .i32 (ls j : Int)) := SR.out.list.cell j hlt
          go_wp2_with fail
          go_quiet (fail)
          go_wp2_with fail
          go_roundw
          case rel => exact ⟨j + 1, by omega, by go_num, below_drewN BR.out _⟩
          case measure => simp [intOf]; omega
        · have B5 : Hid (Below w.heap.size w wr) := below_chain B4.out BR.out B4.out.size
          clear BR XR SH4 B4 XO
          go_wp2_with fail
          clear hlt hj
          go_loop [17, 18, 19] (fun vc vi _ => ∃ m : Nat, m ≤ k ∧ vi = .int .i64 ((m : Int) - 1) ∧ vc = .int .i32 (down ls m)) (fun _ vi _ => (intOf vi + 1).toNat)
          case atStart => exact ⟨k, Nat.le_refl _, rfl, by rw [SR.out.inv.tp]; rfl⟩
          case round =>
            obtain ⟨m, hm, rfl, rfl⟩ := hrel
            cases m with
            | zero =>
              go_wp2_with fail
              go_ret
              exact ⟨rfl, B5.out⟩
            | succ m =>
              have e1 : ((m + 1 : Nat) : Int) - 1 = (m : Int) := by omega
              have e2 : down ls (m + 1) = (ls m : Int) := rfl
              rw [e1, e2]
              have hls := (SR.out.inv.lsl m (by omega)).1
              have cL : wr.cell? ⟨L, m, none⟩ = some (.int .i32 (ls m : Int)) := SR.out.list.cell m (by omega)
              have c4 : wr.cell? ⟨V, ls m * 7 + 4, none⟩ = some (.int .i32 (down ls m)) := by
                have := SR.out.view.cell (ls m) 4 hls (by omega)
                rw [SR.out.inv.be m (by omega)] at this
                exact this
              by_cases hlt : m + 1 < k
              · have c5 : wr.cell? ⟨V, ls m * 7 + 5, none⟩ = some (.int .i32 (ls (m + 1) : Int)) := by
                  have := SR.out.view.cell (ls m) 5 hls (by omega)
                  rw [SR.out.inv.ab m (by omega), if_pos hlt] at this
                  exact this
                have cL1 : wr.cell? ⟨L, m + 1, none⟩ = some (.int .i32 (ls (m + 1) : Int)) := SR.out.list.cell (m + 1) (by omega)
                go_wp2_with fail
                go_round
                case rel => exact ⟨m, by omega, by go_num, rfl⟩
                case measure => simp [intOf]
              · have c5 : wr.cell? ⟨V, ls m * 7 + 5, none⟩ = some (.int .i32 (-1)) := by
                  have := SR.out.view.cell (ls m) 5 hls (by omega)
                  rw [SR.out.inv.ab m (by omega), if_neg hlt] at this
                  exact this
                go_wp2_with fail
                go_round
                case rel => exact ⟨m, by omega, by go_num, rfl⟩
                case measure => simp [intOf]
end Go.Proofs.Qxb6600559a.Treap

import Derived.Test.Qxb6600559aBegin
import Derived.Deep.DeepCutAuto
namespace Go.Proofs.Qxb6600559a.Treap
open Go.RowKit

theorem make_zero (wx : World) (N : Nat) (hN : N ≤ 100000) :
    (Instr.makeSlice 39 (.int .i64 0) (.int .i64 (N : Int))).run Try.prog wx = .ok (.slice (some ⟨wx.heap.size, 0, none⟩) 0 N) (wx.alloc (.cells (madeCells #[.int .i32 0] N) 21)) := by
  obtain ⟨i0, hi, hz0, hz1, hz2⟩ := info_parts info21
  have := run_make (P := Try.prog) wx 39 21 i0 (.int .i32 0) Try.underlying39 hi hz0 .i64 .i64 0 (N : Int) (by omega) (by omega) (by rw [hz2]; omega) (by omega)
  simp only [hz1, Nat.mul_one] at this
  simpa [Value.cells] using this

theorem Pre.below {w w' : World} {base B A m n : Nat} {nv : Value} {xs : List Value} {F : Nat → Nat → Int} {root top : Int} {at' : Nat → Int} {s : Int} (h : Pre w base B A m n nv xs F root top at' s) (hb : Below w.heap.size w w') : Pre w' base B A m n nv xs F root top at' s := by
  obtain ⟨cur, h1, h2⟩ := h.at_
  refine ⟨h.bB, h.bA, (hb.block B h.st.lt).trans h.st, ⟨h.own.1, ?_⟩, h.cells, ⟨cur, (hb.block A h1.lt).trans h1, h2⟩⟩
  rcases h.own.2 with h3 | ⟨g, cap, c, e1, e2, e3, e4⟩
  · exact .inl h3
  · have e3' : RowAt w g 66 c := e3
    exact .inr ⟨g, cap, c, e1, e2, (hb.block g e3'.lt).trans e3, e4⟩

/-- Only block L has turned, and new blocks have come. -/
structure Only (L : Nat) (w w' : World) : Prop where
  os : w'.os = w.os
  tape : w'.tape = w.tape
  output : w'.output = w.output
  size : w.heap.size ≤ w'.heap.size
  block : ∀ k, k < w.heap.size → k ≠ L → w'.heap[k]? = w.heap[k]?
theorem Only.refl (L : Nat) (w : World) : Only L w w := ⟨rfl, rfl, rfl, Nat.le_refl _, fun _ _ _ => rfl⟩
theorem Only.trans {L : Nat} {a b c : World} (h : Only L a b) (k : Only L b c) : Only L a c :=
  ⟨k.os.trans h.os, k.tape.trans h.tape, k.output.trans h.output, Nat.le_trans h.size k.size, fun i hi hn => (k.block i (Nat.lt_of_lt_of_le hi h.size) hn).trans (h.block i hi hn)⟩
theorem Only.alloc {L : Nat} {a w : World} (h : Only L a w) (o : Obj) : Only L a (w.alloc o) := h.trans ⟨rfl, rfl, rfl, by simp, fun k hk _ => Below.heap_alloc _ _ _ hk⟩
theorem Only.grown {L : Nat} {a w w' : World} (h : Only L a w) (g : w.grownBy w' (some L)) : Only L a w' := h.trans ⟨g.os, g.tape, g.output, g.size, fun k hk hn => g.block k hk (fun e => hn (by simpa using e))⟩
theorem Only.set {L : Nat} {a w : World} (h : Only L a w) (o : Nat) (v : Value) : Only L a (w.setCell ⟨L, o, none⟩ v) := h.trans ⟨rfl, rfl, rfl, by simp [World.setCell], fun k _ hn => heap_setCell_other w ⟨L, o, none⟩ k v hn⟩
theorem Only.below {L base : Nat} {w w' : World} (h : Only L w w') (hL : base ≤ L) (hb : base ≤ w.heap.size) : Below base w w' := ⟨h.os, h.tape, h.output, h.size, fun k hk => h.block k (by omega) (by omega)⟩
theorem Pre.only {w w' : World} {base B A m n L : Nat} {nv : Value} {xs : List Value} {F : Nat → Nat → Int} {root top : Int} {at' : Nat → Int} {s : Int} {cs : Array Value} (h : Pre w base B A m n nv xs F root top at' s) (o : Only L w w') (hL : RowAt w L 21 cs) (hA : L ≠ A) : Pre w' base B A m n nv xs F root top at' s := by
  obtain ⟨cur, h1, h2⟩ := h.at_
  refine ⟨h.bB, h.bA, (o.block B h.st.lt (hL.ne h.st (by decide)).symm).trans h.st, ⟨h.own.1, ?_⟩, h.cells, ⟨cur, (o.block A h1.lt hA.symm).trans h1, h2⟩⟩
  rcases h.own.2 with h3 | ⟨g, cap, c, e1, e2, e3, e4⟩
  · exact .inl h3
  · have e3' : RowAt w g 66 c := e3
    exact .inr ⟨g, cap, c, e1, e2, (o.block g e3'.lt (hL.ne e3' (by decide)).symm).trans e3, e4⟩
theorem IntsIn.frame {w w' : World} {base B A L cap k : Nat} {f : Nat → Int} (h : IntsIn w L cap k f) (fr : Frame base B A w w') (hB : L ≠ B) (hA : L ≠ A) : IntsIn w' L cap k f := by
  obtain ⟨cur, h1, h2⟩ := h
  exact ⟨cur, fr.row h1 hB hA (.inr (by decide)), h2⟩

theorem Row64.block {w w' : World} {P n : Nat} {z : Nat → Int} (h : Row64 w P n z) (e : w'.heap[P]? = w.heap[P]?) : Row64 w' P n z := by
  obtain ⟨cur, h1, h2⟩ := h
  exact ⟨cur, e.trans h1, h2⟩
theorem Row64.lt {w : World} {P n : Nat} {z : Nat → Int} (h : Row64 w P n z) : P < w.heap.size := by
  obtain ⟨cur, h1, _⟩ := h
  exact h1.lt

/-- The positions, in w. -/
def Pos (w : World) (a : Option Addr) (N : Nat) (z : Nat → Int) : Prop := N = 0 ∨ ∃ P, a = some ⟨P, 0, none⟩ ∧ Row64 w P N z
theorem Pos.below {w w' : World} {a : Option Addr} {N : Nat} {z : Nat → Int} (h : Pos w a N z) (hb : Below w.heap.size w w') : Pos w' a N z := by
  rcases h with h | ⟨P, h1, h2⟩
  · exact .inl h
  · exact .inr ⟨P, h1, h2.block (hb.block P h2.lt)⟩

/-- The script after k insertions. -/
def Script (wr : World) (base B A L N k : Nat) : Prop :=
  ∃ ao cap xs F root top at' s ls pos lo hi, Pre wr base B A N k (.slice ao k cap) xs F root top at' s ∧ Inv k F root top ls pos lo hi ∧ Heap k F ∧ (∀ e, e < k → at' e = (e : Int)) ∧ IntsIn wr L N k (fun i => (ls i : Int)) ∧ base ≤ L ∧ L ≠ A

def ScriptPost (w : World) (N : Nat) (e : Ending) (w' : World) : Prop :=
  ∃ B A L, e = .returned (.tuple #[.pointer (some ⟨B, 0, none⟩), .slice (some ⟨L, 0, none⟩) N N, .bool true]) ∧ Script w' w.heap.size B A L N N ∧ Below w.heap.size w w'

theorem inv_zero (F : Nat → Nat → Int) : Inv 0 F (-1) (-1) (fun _ => 0) (fun _ => 0) (fun _ => 0) (fun _ => 0) :=
  ⟨⟨fun x hx => absurd hx (by omega), fun x hx => absurd hx (by omega), fun x hx => absurd hx (by omega), fun x hx => absurd hx (by omega), .inl ⟨rfl, rfl⟩⟩, fun x hx => absurd hx (by omega), fun x hx => absurd hx (by omega), fun x hx => absurd hx (by omega), fun x hx => absurd hx (by omega), rfl, fun x hx => absurd hx (by omega)⟩

set_option maxHeartbeats 2000000 in
theorem script_any (w : World) (seed : Int) (a : Option Addr) (N cap0 : Nat) (z : Nat → Int) (hN : N ≤ 4096) (hp : Pos w a N z) (hz : ∀ i, i < N → -9223372036854775808 ≤ z i ∧ z i ≤ 9223372036854775807) :
    Calls Try.prog 17 #[.int .u32 seed, .slice a N cap0] w (ScriptPost w N) := by
  obtain ⟨i1, hi1, hx0, hx1, hx2⟩ := info_parts info21
  have hmk := fun wx => make_zero wx N (by omega)
  have HP : Hid _ := hp
  have HZ : Hid _ := hz
  clear hp hz
  go_enter Try.func17, Try.ntmps17
  go_wp2_with fail
  refine (newStatus_any w seed N (by omega) (fun _ _ => 0)).mono ?_
  rintro e' w1 ⟨B, A, rfl, hpre, hb1⟩
  have HPre : Hid _ := hpre
  have HB1 : Hid _ := hb1
  clear hpre hb1
  go_wp2_with fail
  have hS : Script (w1.alloc (.cells (madeCells #[.int .i32 0] N) 21)) w.heap.size B A w1.heap.size N 0 := by
    obtain ⟨ac, ha1, ha2⟩ := HPre.out.at_
    refine ⟨none, 0, [], _, _, _, _, _, _, _, _, _, HPre.out.alloc _, inv_zero _, fun x p hx => absurd hx (by omega), fun e he => absurd he (by omega), ⟨_, made_row w1 _ N 21, size_madeCells _ _, fun i hi => absurd hi (by omega)⟩, HB1.out.size, ?_⟩
    have := ha1.lt
    omega
  have hB2 : Below w.heap.size w (w1.alloc (.cells (madeCells #[.int .i32 0] N) 21)) := HB1.out.alloc HB1.out.size _
  have HL : Hid _ := hS
  have HB2 : Hid _ := hB2
  clear hS hB2 hmk
  generalize w1.alloc (.cells (madeCells #[.int .i32 0] N) 21) = w2 at HL HB2 ⊢
  obtain ⟨L, hL⟩ : ∃ L, L = w1.heap.size := ⟨_, rfl⟩
  rw [← hL] at HL ⊢
  clear hL
  go_loopw [9, 10] (fun v i wr => ∃ k : Nat, k ≤ N ∧ i = .int .i64 k ∧ v = .slice (some ⟨L, 0, none⟩) k N ∧ Below w.heap.size w wr ∧ Script wr w.heap.size B A L N k) (fun _ i _ => N - (intOf i).toNat)
  case atStart => exact ⟨0, by omega, rfl, rfl, HB2.out, HL.out⟩
  case round =>
    clear HL HB2 HB1 HPre
    obtain ⟨k, hk, rfl, rfl, hB, hS⟩ := hrel
    have HB : Hid _ := hB
    have HS : Hid _ := hS
    clear hB hS
    by_cases hlt : k < N
    · obtain ⟨P, hPa, hPr⟩ : ∃ P, a = some ⟨P, 0, none⟩ ∧ Row64 wr P N z := by
        rcases Pos.below HP.out HB.out with h | h
        · omega
        · exact h
      subst hPa
      have cP : wr.cell? ⟨P, k, none⟩ = some (.int .i64 (z k)) := hPr.cell k hlt
      have hzk := HZ.out k hlt
      clear hPr
      go_upto_if 38 with fail
      have ht1 := Int.lt_tmod_of_pos (z k) (show (0 : Int) < (k : Int) + 1 by omega)
      have ht2 := Int.tmod_lt_of_pos (z k) (show (0 : Int) < (k : Int) + 1 by omega)
      clear cP hzk
      generalize (z k).tmod ((k : Int) + 1) = t at ht1 ht2 ⊢
      obtain ⟨p, hpp, hpk⟩ : ∃ p : Nat, (p : Int) = (if t < 0 then t + ((k : Int) + 1) else t) ∧ p ≤ k := by
        by_cases h : t < 0
        · exact ⟨(t + ((k : Int) + 1)).toNat, by rw [if_pos h]; omega, by omega⟩
        · exact ⟨t.toNat, by rw [if_neg h]; omega, by omega⟩
      have HPP : Hid _ := hpp
      clear hpp
      go_cut [12] (fun v wx => v = .int .i64 (p : Int) ∧ wx = wr)
      case first =>
        by_cases h : t < 0
        · have hp' := HPP.out
          rw [if_pos h] at hp'
          have HP2 : Hid _ := hp'
          clear hp'
          go_wp2_with fail
          go_meet
          case rel => exact ⟨by rw [HP2.out], rfl⟩
        · have hp' := HPP.out
          rw [if_neg h] at hp'
          have HP2 : Hid _ := hp'
          clear hp'
          go_wp2_with fail
          go_meet
          case rel => exact ⟨by rw [HP2.out], rfl⟩
      obtain ⟨rfl, hwc⟩ := hcut
      have hwc' : wr = wc := hwc.symm
      subst hwc'
      clear hwc HPP ht1 ht2
      obtain ⟨ao, cap, xs, F, root, top, at', s, ls, pos, lo, hi, S1, S2, S3, S4, S5, S6, S7⟩ := HS.out
      have T1 : Hid _ := S1
      have T2 : Hid _ := S2
      have T3 : Hid _ := S3
      have T4 : Hid _ := S4
      have T5 : Hid _ := S5
      have T6 : Hid _ := S6
      have T7 : Hid _ := S7
      obtain ⟨y, hy⟩ : ∃ y : Int, y = if p < k then (ls p : Int) else -1 := ⟨_, rfl⟩
      have HY : Hid _ := hy
      have cL : p < k → wr.cell? ⟨L, p, none⟩ = some (.int .i32 (ls p : Int)) := fun h => S5.cell p h
      clear S1 S2 S3 S4 S5 S6 S7 HS hy
      go_upto_if 45 with fail
      go_cut [13] (fun v wx => v = .int .i32 y ∧ wx = wr)
      case first =>
        by_cases h : p < k
        · have cL' := cL h
          have hy' := HY.out
          rw [if_pos h] at hy'
          have HY2 : Hid _ := hy'
          clear hy' cL
          go_wp2_with fail
          go_meet
          case rel => exact ⟨by rw [HY2.out], rfl⟩
        · have hy' := HY.out
          rw [if_neg h] at hy'
          have HY2 : Hid _ := hy'
          clear hy' cL
          go_wp2_with fail
          go_meet
          case rel => exact ⟨by rw [HY2.out], rfl⟩
      obtain ⟨rfl, hwc⟩ := hcut
      have hwc' : wr = wc := hwc.symm
      subst hwc'
      clear hwc cL
      go_wp2_with fail
      refine (zzinsert_any T1.out T2.out T3.out (by omega) (by omega) hlt p hpk y HY.out).mono ?_
      rintro e' w3 ⟨rfl, g, cap', s', F', root', top', lo', hi', R3, I3, H3⟩
      have U1 : Hid _ := R3
      have U2 : Hid _ := I3
      have U3 : Hid _ := H3
      clear R3 I3 H3
      have hLB : L ≠ B := by
        obtain ⟨cur, h1, _⟩ := T5.out
        exact RowAt.ne h1 T1.out.st (by decide)
      have hI3 : IntsIn w3 L N k (fun i => (ls i : Int)) := IntsIn.frame T5.out U1.out.frame hLB T7.out
      obtain ⟨xs3, hP3⟩ := U1.out.rep.pre
      have hB3 : Below w.heap.size w w3 := (HB.out).trans (U1.out.frame.below U1.out.rep.bB U1.out.rep.bA HB.out.size)
      have OWN : Hid _ := (hI3.alloc (.cells #[.int .i32 0] 21)).own (base := w.heap.size) (by omega) (by unfold maxLen; omega) T6.out
      have V1 : Hid _ := hI3
      have V2 : Hid _ := hP3
      have V3 : Hid _ := hB3
      clear hI3 hP3 hB3
      go_wp2_with (at_builtin; refine wpList_append_fits _ rfl (.tmp 61) (.tmp 62) 39 rfl w.heap.size 21 i1 1 Try.underlying39 hi1 hx1 L k N _ rfl OWN.out ⟨w3.heap.size, 0, none⟩ 1 1 [.int .i32 0] rfl rfl (cell_one_new _ _ _) (by intro u hu; simp at hu; subst hu; rfl) (by omega) ?_; intro w4 hown4 hgrow4; have W1 : Hid _ := IntsIn.pushed hown4; have W2 : Hid _ := ((Only.refl L w3).alloc _).grown hgrow4; clear hown4 hgrow4)
      go_loopw [15] (fun v wx => ∃ j : Nat, p ≤ j ∧ j ≤ k ∧ v = .int .i64 j ∧ Only L w3 wx ∧ ∃ f : Nat → Int, IntsIn wx L N (k + 1) f ∧ (∀ i, i < j → f i = (ls i : Int)) ∧ (∀ i, j < i → i ≤ k → f i = (ls (i - 1) : Int))) (fun v _ => (intOf v).toNat)
      case atStart => exact ⟨k, hpk, Nat.le_refl _, rfl, W2.out, _, W1.out, fun i hi => by simp [show ¬ i = k by omega], fun i h1 h2 => absurd h1 (by omega)⟩
      case round =>
        clear W1 W2 OWN
        rename World => wx
        obtain ⟨j, hj1, hj2, rfl, hO, f, hI, hf1, hf2⟩ := hrel
        have X1 : Hid _ := hO
        have X2 : Hid _ := hI
        have X3 : Hid _ := hf1
        have X4 : Hid _ := hf2
        clear hO hf1 hf2
        by_cases hjp : p < j
        · have cj : wx.cell? ⟨L, j - 1, none⟩ = some (.int .i32 (f (j - 1))) := hI.cell (j - 1) (by omega)
          have cjj : wx.cell? ⟨L, j, none⟩ = some (.int .i32 (f j)) := hI.cell j (by omega)
          have fj := hI.frozen j
          clear hI
          obtain ⟨i, rfl⟩ : ∃ i, j = i + 1 := ⟨j - 1, by omega⟩
          rw [Nat.add_sub_cancel] at cj
          go_wp2_with fail
          go_roundw
          case rel => exact ⟨i, by omega, by omega, by go_num, X1.out.set _ _, _, IntsIn.set X2.out (i + 1) (by omega) _ (fun q => if q = i + 1 then f i else f q) (by simp) (fun q _ hq => by simp [hq]), fun q hq => by rw [if_neg (by omega)]; exact X3.out q (by omega), fun q h1 h2 => by
            by_cases e : q = i + 1
            · rw [if_pos e, e, Nat.add_sub_cancel]; exact X3.out i (by omega)
            · rw [if_neg e]; exact X4.out q (by omega) h2⟩
          case measure => simp [intOf]
        · obtain rfl : j = p := by omega
          have cjj : wx.cell? ⟨L, j, none⟩ = some (.int .i32 (f j)) := hI.cell j (by omega)
          have fj := hI.frozen j
          clear hI
          go_wp2_with fail
          go_roundw
          case rel =>
            have hO2 := X1.out.set j (.int .i32 (k : Int))
            have hI2 := IntsIn.set X2.out j (by omega) (k : Int) (fun q => (lsI k j ls q : Int)) (by simp [lsI]) (fun q hq hne => by
              unfold lsI
              by_cases h1 : q < j
              · rw [if_pos h1]; exact (X3.out q h1).symm
              · rw [if_neg h1, if_neg hne]; exact (X4.out q (by omega) (by omega)).symm)
            obtain ⟨cur3, h31, _⟩ := V1.out
            exact ⟨k + 1, by omega, by go_num, rfl, V3.out.trans (hO2.below T6.out V3.out.size), _, _, _, _, _, _, _, _, _, _, _, _, V2.out.only hO2 h31 T7.out, U2.out, U3.out, fun e he => by
              by_cases ek : e = k
              · simp [ek]
              · simp [ek]; exact T4.out e (by omega), hI2, T6.out, T7.out⟩
          case measure => simp [intOf]; omega
    · obtain rfl : k = N := by omega
      go_wp2_with fail
      go_ret3
      exact ⟨B, A, L, rfl, HS.out, HB.out⟩
end Go.Proofs.Qxb6600559a.Treap

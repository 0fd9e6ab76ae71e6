import Derived.Test.Qxb6600559aInsA
namespace Go.Proofs.Qxb6600559a.Treap
open Go.RowKit

section
variable {w : World} {base B A m n : Nat} {xs : List Value} {F : Nat → Nat → Int} {root top : Int} {at' : Nat → Int} {s : Int} {ls pos lo hi : Nat → Nat} {ao : Option Addr} {cap : Nat}

set_option maxRecDepth 100000 in
set_option maxHeartbeats 2000000 in
theorem ins_right (h : Pre w base B A m n (.slice ao n cap) xs F root top at' s) (I : Inv n F root top ls pos lo hi) (H : Heap n F) (hn : n ≤ 50000) (hm : m ≤ 100000) (hnm : n < m) (p : Nat) (hp : p < n) (b y r t : Nat) (hy : y = ls p) (hb : b = ls (p - 1)) (hr : root = (r : Int)) (ht : top = (t : Int)) (hl : F y 1 ≠ -1) :
    Calls Try.prog 26 #[.pointer (some ⟨B, 0, none⟩), .int .i32 (y : Int), .int .i32 (n : Int)] w fun e' w' => e' = .returned (.int .i32 (n : Int)) ∧ InsPost w w' base B A m n p at' ls pos := by
  have hyn : y < n := by rw [hy]; exact (I.lsl p hp).1
  have h0 : 0 < p := (I.noRight p hp (by rw [← hy]; exact hl)).1
  have hbn : b < n := by rw [hb]; exact (I.lsl (p - 1) (by omega)).1
  have hbe : F y 4 = (b : Int) := by rw [hy, I.be p hp, if_neg (by omega), ← hb]
  have LK := fun s' => link_right s' I H p hp b y hy hb hl
  have hly : (F y 1 != -1) = true := by simp [hl]
  have HL0 : Hid _ := LK
  have CN := newNode_any h n hnm hn hm
  have HBE : Hid _ := hbe
  have HYL : Hid _ := hl
  clear I H h LK hb hy hbe hl
  subst hr ht
  go_enter Try.func26, Try.ntmps26
  go_wp2_with fail
  refine CN.mono ?_
  rintro e' w1 ⟨rfl, g, cap', s', R0'⟩
  have R0 : RF w w1 base B A g m (n + 1) cap' (bareF F n s') (r : Int) (t : Int) (fun i => if i = n then (n : Int) else at' i) s' := R0'
  clear R0' CN
  have c0 := R0.rep.c0
  have c1 := R0.rep.c1
  have c2 := R0.rep.c2
  have cy4 : w1.cell? ⟨g, y * 7 + 4, none⟩ = some (.int .i32 (b : Int)) := by
    have h4 : w1.cell? ⟨g, y * 7 + 4, none⟩ = some (.int .i32 (bareF F n s' y 4)) := R0.rep.nd.cell y 4 (by omega) (by omega)
    rw [h4, bareF_old F n s' y 4 (by omega), HBE.out]
  have cy1 : w1.cell? ⟨g, y * 7 + 1, none⟩ = some (.int .i32 (F y 1)) := by
    have h4 : w1.cell? ⟨g, y * 7 + 1, none⟩ = some (.int .i32 (bareF F n s' y 1)) := R0.rep.nd.cell y 1 (by omega) (by omega)
    rw [h4, bareF_old F n s' y 1 (by omega)]
  have cb2 : w1.cell? ⟨g, b * 7 + 2, none⟩ = some (.int .i32 (bareF F n s' b 2)) := R0.rep.nd.cell b 2 (by omega) (by omega)
  have cn3 : w1.cell? ⟨g, n * 7 + 3, none⟩ = some (.int .i32 (bareF F n s' n 3)) := R0.rep.nd.cell n 3 (by omega) (by omega)
  have fz : ∀ o, w1.frozen? ⟨g, o, none⟩ = false := R0.rep.nd.frozen
  have fB := R0.rep.fB
  have gB := R0.rep.gB
  have HR : Hid _ := R0
  clear R0
  go_wp2_with fail
  go_big_region
  have R1 : RF w ((w1.setCell ⟨g, b * 7 + 2, none⟩ (.int .i32 (n : Int))).setCell ⟨g, n * 7 + 3, none⟩ (.int .i32 (b : Int))).drew base B A g m (n + 1) cap' (upd (upd (bareF F n s') b 2 (n : Int)) n 3 (b : Int)) (r : Int) (t : Int) (fun i => if i = n then (n : Int) else at' i) s' :=
    ((HR.out.setNode b 2 (by omega) (by omega) (n : Int)).setNode n 3 (by omega) (by omega) (b : Int)).drew
  generalize ((w1.setCell ⟨g, b * 7 + 2, none⟩ (.int .i32 (n : Int))).setCell ⟨g, n * 7 + 3, none⟩ (.int .i32 (b : Int))).drew = w2 at R1 ⊢
  clear c0 c1 c2 fz fB HR cy4 cy1 cb2 cn3
  have c0 := R1.rep.c0
  have cn4 : w2.cell? ⟨g, n * 7 + 4, none⟩ = some (.int .i32 ((upd (upd (bareF F n s') b 2 (n : Int)) n 3 (b : Int)) n 4)) := R1.rep.nd.cell n 4 (by omega) (by omega)
  have cn5 : w2.cell? ⟨g, n * 7 + 5, none⟩ = some (.int .i32 ((upd (upd (bareF F n s') b 2 (n : Int)) n 3 (b : Int)) n 5)) := R1.rep.nd.cell n 5 (by omega) (by omega)
  have fz : ∀ o, w2.frozen? ⟨g, o, none⟩ = false := R1.rep.nd.frozen
  have HR1 : Hid _ := R1
  clear R1
  go_wp2_with fail
  go_big_region
  have R2 : RF w ((w2.setCell ⟨g, n * 7 + 4, none⟩ (.int .i32 (b : Int))).setCell ⟨g, n * 7 + 5, none⟩ (.int .i32 (y : Int))).drew base B A g m (n + 1) cap' (upd (upd (upd (upd (bareF F n s') b 2 (n : Int)) n 3 (b : Int)) n 4 (b : Int)) n 5 (y : Int)) (r : Int) (t : Int) (fun i => if i = n then (n : Int) else at' i) s' :=
    ((HR1.out.setNode n 4 (by omega) (by omega) (b : Int)).setNode n 5 (by omega) (by omega) (y : Int)).drew
  generalize ((w2.setCell ⟨g, n * 7 + 4, none⟩ (.int .i32 (b : Int))).setCell ⟨g, n * 7 + 5, none⟩ (.int .i32 (y : Int))).drew = w3 at R2 ⊢
  clear c0 cn4 cn5 fz HR1
  have c0 := R2.rep.c0
  have c2 := R2.rep.c2
  have fz : ∀ o, w3.frozen? ⟨g, o, none⟩ = false := R2.rep.nd.frozen
  have fB := R2.rep.fB
  have cn3 : w3.cell? ⟨g, n * 7 + 3, none⟩ = some (.int .i32 (b : Int)) := by
    have h4 : w3.cell? ⟨g, n * 7 + 3, none⟩ = some (.int .i32 ((upd (upd (upd (upd (bareF F n s') b 2 (n : Int)) n 3 (b : Int)) n 4 (b : Int)) n 5 (y : Int)) n 3)) := R2.rep.nd.cell n 3 (by omega) (by omega)
    rw [h4]; simp [upd_at]
  have cb5 : w3.cell? ⟨g, b * 7 + 5, none⟩ = some (.int .i32 ((upd (upd (upd (upd (bareF F n s') b 2 (n : Int)) n 3 (b : Int)) n 4 (b : Int)) n 5 (y : Int)) b 5)) := R2.rep.nd.cell b 5 (by omega) (by omega)
  have cy4 : w3.cell? ⟨g, y * 7 + 4, none⟩ = some (.int .i32 ((upd (upd (upd (upd (bareF F n s') b 2 (n : Int)) n 3 (b : Int)) n 4 (b : Int)) n 5 (y : Int)) y 4)) := R2.rep.nd.cell y 4 (by omega) (by omega)
  have R3 : RF w ((w3.setCell ⟨g, b * 7 + 5, none⟩ (.int .i32 (n : Int))).setCell ⟨g, y * 7 + 4, none⟩ (.int .i32 (n : Int))) base B A g m (n + 1) cap' (upd (upd (upd (upd (upd (upd (bareF F n s') b 2 (n : Int)) n 3 (b : Int)) n 4 (b : Int)) n 5 (y : Int)) b 5 (n : Int)) y 4 (n : Int)) (r : Int) (t : Int) (fun i => if i = n then (n : Int) else at' i) s' := ((R2.setNode b 5 (by omega) (by omega) (n : Int)).setNode y 4 (by omega) (by omega) (n : Int))
  have HR3 : Hid _ := R3
  clear R2 R3
  go_wp2_with fail
  obtain ⟨lo7, hi7, L7⟩ := HL0.out s'
  have HL : Hid _ := L7
  have HC : Hid _ := HR3.out
  clear L7 HL0 HR3
  generalize ((w3.setCell ⟨g, b * 7 + 5, none⟩ (.int .i32 (n : Int))).setCell ⟨g, y * 7 + 4, none⟩ (.int .i32 (n : Int))) = wc at HC ⊢
  clear c0 c2 fz fB cn3 cb5 cy4
  go_loopg [9] (n + 1) (fun k sl wr => ∃ q, sl = .int .i32 q ∧ Sift w wr base B A g m (n + 1) cap' (t : Int) (fun i => if i = n then (n : Int) else at' i) s' n (lsI n p ls) (posI n p pos) k q)
  case atStart => exact ⟨_, rfl, _, _, _, _, HC.out, HL.out.1, HL.out.2, by simp [upd_at], by omega⟩
  case round =>
    clear HL HC
    obtain ⟨q, rfl, F1, root1, lo1, hi1, R, I1, X1, hq, hk⟩ := hrel
    have HRR : Hid _ := R
    have HI1 : Hid _ := I1
    have HX1 : Hid _ := X1
    have HQ : Hid (F1 n 3 = q) := hq
    have HK : Hid _ := hk
    have c0 := R.rep.c0
    have cn6 : wr.cell? ⟨g, n * 7 + 6, none⟩ = some (.int .u32 (F1 n 6)) := R.rep.nd.cell n 6 (by omega) (by omega)
    have hpar := I1.tree.par n (by omega)
    clear R I1 X1 hk
    rcases hpar with ⟨hpar, _⟩ | ⟨pp, hpp, hpar, _⟩
    · have hpost : Hid _ := Sift.post HRR.out HI1.out HX1.out (.inl hpar)
      have hq1 : q = -1 := hq.symm.trans hpar
      clear hq hpar cn6 HQ
      subst hq1
      go_wp2_with fail
      go_quiet (fail)
      go_wp2_with fail
      go_ret
      obtain ⟨g9, cap9, s9, F9, root9, top9, lo9, hi9, RF9, I9, H9⟩ := hpost.out
      exact ⟨rfl, ⟨g9, cap9, s9, F9, root9, top9, lo9, hi9, RF9.drewN _, I9, H9⟩⟩
    · have hq1 : q = (pp : Int) := hq.symm.trans hpar
      have e3 : Hid (F1 n 3 = (pp : Int)) := hpar
      clear hq hpar HQ
      subst hq1
      have cp6 : wr.cell? ⟨g, pp * 7 + 6, none⟩ = some (.int .u32 (F1 pp 6)) := HRR.out.rep.nd.cell pp 6 hpp (by omega)
      have hne : ((pp : Int) != -1) = true := by simp
      by_cases hlt : F1 pp 6 < F1 n 6
      · go_wp2_with fail
        go_quiet (fail)
        go_wp2_with fail
        refine (rotateUp_any (HRR.out.drewN _).rep (by omega) HI1.out n pp (by omega) HX1.out e3.out hlt).mono ?_
        rintro e' w5 ⟨rfl, F5, root5, lo5, hi5, R5, I5, X5, hsz⟩
        have c5 := R5.rep.c0
        have d5 : w5.cell? ⟨g, n * 7 + 3, none⟩ = some (.int .i32 (F5 n 3)) := R5.rep.nd.cell n 3 (by omega) (by omega)
        have b5 := I5.tree.bd n (by omega)
        have hS : Sift w w5 base B A g m (n + 1) cap' (t : Int) (fun i => if i = n then (n : Int) else at' i) s' n (lsI n p ls) (posI n p pos) (gk - 1) (F5 n 3) :=
          ⟨F5, root5, lo5, hi5, (HRR.out.drewN _).trans R5, I5, X5, rfl, by have := HK.out; omega⟩
        have hgk : gk - 1 < gk := by have := HK.out; omega
        have HS5 : Hid _ := hS
        clear R5 I5 X5 hsz hS b5 c0 cn6 cp6
        go_wp2_with fail
        go_roundg (gk - 1)
        case measure => exact hgk
        case rel => exact ⟨_, rfl, HS5.out⟩
      · have hpost : Hid _ := Sift.post HRR.out HI1.out HX1.out (.inr ⟨pp, e3.out, by omega⟩)
        have hlt' : decide (F1 pp 6 < F1 n 6) = false := by simpa using hlt
        go_wp2_with fail
        go_quiet (fail)
        go_wp2_with fail
        go_ret
        obtain ⟨g9, cap9, s9, F9, root9, top9, lo9, hi9, RF9, I9, H9⟩ := hpost.out
        exact ⟨rfl, ⟨g9, cap9, s9, F9, root9, top9, lo9, hi9, RF9.drewN _, I9, H9⟩⟩

end
end Go.Proofs.Qxb6600559a.Treap

import Derived.Test.Qxb6600559aOps
namespace Go.Proofs.Qxb6600559a.Treap
open Go.RowKit

section
variable {w : World} {base B A g m n cap : Nat} {F : Nat → Nat → Int} {root top : Int} {at' : Nat → Int} {s : Int}

set_option maxHeartbeats 1000000 in
theorem rotR_none (h : Rep w base B A g m n cap F root top at' s) (x p : Nat) (hx : x < n) (hp : p < n) (hxp : x ≠ p) (_hn : n ≤ 100000) (e3 : F x 3 = (p : Int)) (e1 : F p 1 = (x : Int)) (ec : F x 2 = -1) (hg : F p 3 = -1 ∨ ∃ k : Nat, k < n ∧ F p 3 = (k : Int)) :
    Calls Try.prog 28 #[.pointer (some ⟨B, 0, none⟩), .int .i32 (x : Int)] w fun e' w' => e' = .returned (.tuple #[]) ∧ RF w w' base B A g m n cap (codeR F x p) (rootA root (F p 3) (x : Int)) top at' s := by
  have c0 := h.c0
  have x3 : w.cell? ⟨g, x * 7 + 3, none⟩ = some (.int .i32 (p : Int)) := by rw [← e3]; exact h.nd.cell x 3 hx (by omega)
  have xc : w.cell? ⟨g, x * 7 + 2, none⟩ = some (.int .i32 (-1)) := by rw [← ec]; exact h.nd.cell x 2 hx (by omega)
  have p3 : w.cell? ⟨g, p * 7 + 3, none⟩ = some (.int .i32 (F p 3)) := h.nd.cell p 3 hp (by omega)
  have p1 : w.cell? ⟨g, p * 7 + 1, none⟩ = some (.int .i32 (x : Int)) := by rw [← e1]; exact h.nd.cell p 1 hp (by omega)
  have fz : ∀ o, w.frozen? ⟨g, o, none⟩ = false := h.nd.frozen
  have gB := h.gB
  have R2 : RF w ((w.setCell ⟨g, p * 7 + 1, none⟩ (.int .i32 (-1))).setCell ⟨g, x * 7 + 2, none⟩ (.int .i32 (p : Int))) base B A g m n cap (upd (upd F p 1 (-1)) x 2 (p : Int)) root top at' s :=
    (h.rf.setNode p 1 hp (by omega) (-1)).setNode x 2 hx (by omega) (p : Int)
  have R5 := (R2.setNode p 3 hp (by omega) (x : Int)).setNode x 3 hx (by omega) (F p 3)
  have HE : Hid (codeR F x p = relinkA (upd (upd (upd (upd F p 1 (-1)) x 2 (p : Int)) p 3 (x : Int)) x 3 (F p 3)) (F p 3) (p : Int) (x : Int)) := by
    show _ = _; simp only [codeR, ec, if_true]
  have CR := relink_any R5.rep (F p 3) (p : Int) (x : Int) hg
  have HR : Hid _ := R5.frame
  have HC : Hid _ := CR
  have HG : Hid _ := hg
  clear h e3 e1 ec hg R2 R5 CR
  go_enter Try.func28, Try.ntmps28
  go_wp2_with fail
  refine (Calls.mono HC.out) ?_
  rintro e' w1 ⟨rfl, hr⟩
  have hr2 : RF w w1 base B A g m n cap (codeR F x p) (rootA root (F p 3) (x : Int)) top at' s := ⟨by rw [HE.out]; exact hr.rep, Frame.trans HR.out hr.frame⟩
  clear hr
  go_wp2_with fail
  go_end0
  exact ⟨rfl, hr2⟩

set_option maxHeartbeats 1000000 in
theorem rotR_some (h : Rep w base B A g m n cap F root top at' s) (x p : Nat) (hx : x < n) (hp : p < n) (hxp : x ≠ p) (_hn : n ≤ 100000) (e3 : F x 3 = (p : Int)) (e1 : F p 1 = (x : Int)) (c : Nat) (hc : c < n) (hcx : c ≠ x) (hcp : c ≠ p) (ec : F x 2 = (c : Int)) (hg : F p 3 = -1 ∨ ∃ k : Nat, k < n ∧ F p 3 = (k : Int)) :
    Calls Try.prog 28 #[.pointer (some ⟨B, 0, none⟩), .int .i32 (x : Int)] w fun e' w' => e' = .returned (.tuple #[]) ∧ RF w w' base B A g m n cap (codeR F x p) (rootA root (F p 3) (x : Int)) top at' s := by
  have c0 := h.c0
  have x3 : w.cell? ⟨g, x * 7 + 3, none⟩ = some (.int .i32 (p : Int)) := by rw [← e3]; exact h.nd.cell x 3 hx (by omega)
  have xc : w.cell? ⟨g, x * 7 + 2, none⟩ = some (.int .i32 (c : Int)) := by rw [← ec]; exact h.nd.cell x 2 hx (by omega)
  have p3 : w.cell? ⟨g, p * 7 + 3, none⟩ = some (.int .i32 (F p 3)) := h.nd.cell p 3 hp (by omega)
  have p1 : w.cell? ⟨g, p * 7 + 1, none⟩ = some (.int .i32 (x : Int)) := by rw [← e1]; exact h.nd.cell p 1 hp (by omega)
  have k3 : w.cell? ⟨g, c * 7 + 3, none⟩ = some (.int .i32 (F c 3)) := h.nd.cell c 3 hc (by omega)
  have fz : ∀ o, w.frozen? ⟨g, o, none⟩ = false := h.nd.frozen
  have gB := h.gB
  have R2 : RF w ((w.setCell ⟨g, p * 7 + 1, none⟩ (.int .i32 (c : Int))).setCell ⟨g, x * 7 + 2, none⟩ (.int .i32 (p : Int))) base B A g m n cap (upd (upd F p 1 (c : Int)) x 2 (p : Int)) root top at' s :=
    (h.rf.setNode p 1 hp (by omega) (c : Int)).setNode x 2 hx (by omega) (p : Int)
  have R5 := (((R2.setNode c 3 hc (by omega) (p : Int)).drew).setNode p 3 hp (by omega) (x : Int)).setNode x 3 hx (by omega) (F p 3)
  have HE : Hid (codeR F x p = relinkA (upd (upd (upd (upd (upd F p 1 (c : Int)) x 2 (p : Int)) c 3 (p : Int)) p 3 (x : Int)) x 3 (F p 3)) (F p 3) (p : Int) (x : Int)) := by
    show _ = _; simp only [codeR, ec, if_neg (show ¬ (c : Int) = -1 by omega), Int.toNat_natCast]
  have CR := relink_any R5.rep (F p 3) (p : Int) (x : Int) hg
  have HR : Hid _ := R5.frame
  have HC : Hid _ := CR
  have HG : Hid _ := hg
  clear h e3 e1 ec hg R2 R5 CR
  go_enter Try.func28, Try.ntmps28
  go_wp2_with fail
  go_big_region
  go_wp2_with fail
  refine (Calls.mono HC.out) ?_
  rintro e' w1 ⟨rfl, hr⟩
  have hr2 : RF w w1 base B A g m n cap (codeR F x p) (rootA root (F p 3) (x : Int)) top at' s := ⟨by rw [HE.out]; exact hr.rep, Frame.trans HR.out hr.frame⟩
  clear hr
  go_wp2_with fail
  go_end0
  exact ⟨rfl, hr2⟩

set_option maxHeartbeats 1000000 in
theorem rotL_none (h : Rep w base B A g m n cap F root top at' s) (x p : Nat) (hx : x < n) (hp : p < n) (hxp : x ≠ p) (_hn : n ≤ 100000) (e3 : F x 3 = (p : Int)) (e1 : F p 1 ≠ (x : Int)) (ec : F x 1 = -1) (hg : F p 3 = -1 ∨ ∃ k : Nat, k < n ∧ F p 3 = (k : Int)) :
    Calls Try.prog 28 #[.pointer (some ⟨B, 0, none⟩), .int .i32 (x : Int)] w fun e' w' => e' = .returned (.tuple #[]) ∧ RF w w' base B A g m n cap (codeL F x p) (rootA root (F p 3) (x : Int)) top at' s := by
  have c0 := h.c0
  have x3 : w.cell? ⟨g, x * 7 + 3, none⟩ = some (.int .i32 (p : Int)) := by rw [← e3]; exact h.nd.cell x 3 hx (by omega)
  have xc : w.cell? ⟨g, x * 7 + 1, none⟩ = some (.int .i32 (-1)) := by rw [← ec]; exact h.nd.cell x 1 hx (by omega)
  have p3 : w.cell? ⟨g, p * 7 + 3, none⟩ = some (.int .i32 (F p 3)) := h.nd.cell p 3 hp (by omega)
  have p1 : w.cell? ⟨g, p * 7 + 1, none⟩ = some (.int .i32 (F p 1)) := h.nd.cell p 1 hp (by omega)
  have p2 : w.cell? ⟨g, p * 7 + 2, none⟩ = some (.int .i32 (F p 2)) := h.nd.cell p 2 hp (by omega)
  have eb : (F p 1 == (x : Int)) = false := by simp [e1]
  have fz : ∀ o, w.frozen? ⟨g, o, none⟩ = false := h.nd.frozen
  have gB := h.gB
  have R2 : RF w ((w.setCell ⟨g, p * 7 + 2, none⟩ (.int .i32 (-1))).setCell ⟨g, x * 7 + 1, none⟩ (.int .i32 (p : Int))) base B A g m n cap (upd (upd F p 2 (-1)) x 1 (p : Int)) root top at' s :=
    (h.rf.setNode p 2 hp (by omega) (-1)).setNode x 1 hx (by omega) (p : Int)
  have R5 := (R2.setNode p 3 hp (by omega) (x : Int)).setNode x 3 hx (by omega) (F p 3)
  have HE : Hid (codeL F x p = relinkA (upd (upd (upd (upd F p 2 (-1)) x 1 (p : Int)) p 3 (x : Int)) x 3 (F p 3)) (F p 3) (p : Int) (x : Int)) := by
    show _ = _; simp only [codeL, ec, if_true]
  have CR := relink_any R5.rep (F p 3) (p : Int) (x : Int) hg
  have HR : Hid _ := R5.frame
  have HC : Hid _ := CR
  have HG : Hid _ := hg
  clear h e3 e1 ec hg R2 R5 CR
  go_enter Try.func28, Try.ntmps28
  go_wp2_with fail
  refine (Calls.mono HC.out) ?_
  rintro e' w1 ⟨rfl, hr⟩
  have hr2 : RF w w1 base B A g m n cap (codeL F x p) (rootA root (F p 3) (x : Int)) top at' s := ⟨by rw [HE.out]; exact hr.rep, Frame.trans HR.out hr.frame⟩
  clear hr
  go_wp2_with fail
  go_end0
  exact ⟨rfl, hr2⟩

set_option maxHeartbeats 1000000 in
theorem rotL_some (h : Rep w base B A g m n cap F root top at' s) (x p : Nat) (hx : x < n) (hp : p < n) (hxp : x ≠ p) (_hn : n ≤ 100000) (e3 : F x 3 = (p : Int)) (e1 : F p 1 ≠ (x : Int)) (c : Nat) (hc : c < n) (hcx : c ≠ x) (hcp : c ≠ p) (ec : F x 1 = (c : Int)) (hg : F p 3 = -1 ∨ ∃ k : Nat, k < n ∧ F p 3 = (k : Int)) :
    Calls Try.prog 28 #[.pointer (some ⟨B, 0, none⟩), .int .i32 (x : Int)] w fun e' w' => e' = .returned (.tuple #[]) ∧ RF w w' base B A g m n cap (codeL F x p) (rootA root (F p 3) (x : Int)) top at' s := by
  have c0 := h.c0
  have x3 : w.cell? ⟨g, x * 7 + 3, none⟩ = some (.int .i32 (p : Int)) := by rw [← e3]; exact h.nd.cell x 3 hx (by omega)
  have xc : w.cell? ⟨g, x * 7 + 1, none⟩ = some (.int .i32 (c : Int)) := by rw [← ec]; exact h.nd.cell x 1 hx (by omega)
  have p3 : w.cell? ⟨g, p * 7 + 3, none⟩ = some (.int .i32 (F p 3)) := h.nd.cell p 3 hp (by omega)
  have p1 : w.cell? ⟨g, p * 7 + 1, none⟩ = some (.int .i32 (F p 1)) := h.nd.cell p 1 hp (by omega)
  have p2 : w.cell? ⟨g, p * 7 + 2, none⟩ = some (.int .i32 (F p 2)) := h.nd.cell p 2 hp (by omega)
  have eb : (F p 1 == (x : Int)) = false := by simp [e1]
  have k3 : w.cell? ⟨g, c * 7 + 3, none⟩ = some (.int .i32 (F c 3)) := h.nd.cell c 3 hc (by omega)
  have fz : ∀ o, w.frozen? ⟨g, o, none⟩ = false := h.nd.frozen
  have gB := h.gB
  have R2 : RF w ((w.setCell ⟨g, p * 7 + 2, none⟩ (.int .i32 (c : Int))).setCell ⟨g, x * 7 + 1, none⟩ (.int .i32 (p : Int))) base B A g m n cap (upd (upd F p 2 (c : Int)) x 1 (p : Int)) root top at' s :=
    (h.rf.setNode p 2 hp (by omega) (c : Int)).setNode x 1 hx (by omega) (p : Int)
  have R5 := (((R2.setNode c 3 hc (by omega) (p : Int)).drew).setNode p 3 hp (by omega) (x : Int)).setNode x 3 hx (by omega) (F p 3)
  have HE : Hid (codeL F x p = relinkA (upd (upd (upd (upd (upd F p 2 (c : Int)) x 1 (p : Int)) c 3 (p : Int)) p 3 (x : Int)) x 3 (F p 3)) (F p 3) (p : Int) (x : Int)) := by
    show _ = _; simp only [codeL, ec, if_neg (show ¬ (c : Int) = -1 by omega), Int.toNat_natCast]
  have CR := relink_any R5.rep (F p 3) (p : Int) (x : Int) hg
  have HR : Hid _ := R5.frame
  have HC : Hid _ := CR
  have HG : Hid _ := hg
  clear h e3 e1 ec hg R2 R5 CR
  go_enter Try.func28, Try.ntmps28
  go_wp2_with fail
  go_big_region
  go_wp2_with fail
  refine (Calls.mono HC.out) ?_
  rintro e' w1 ⟨rfl, hr⟩
  have hr2 : RF w w1 base B A g m n cap (codeL F x p) (rootA root (F p 3) (x : Int)) top at' s := ⟨by rw [HE.out]; exact hr.rep, Frame.trans HR.out hr.frame⟩
  clear hr
  go_wp2_with fail
  go_end0
  exact ⟨rfl, hr2⟩

end
end Go.Proofs.Qxb6600559a.Treap

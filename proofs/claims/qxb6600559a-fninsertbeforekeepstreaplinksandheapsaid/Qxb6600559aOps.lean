import Derived.Test.Qxb6600559aRep
import Derived.Test.Qxb6600559aTreap5
namespace Go.Proofs.Qxb6600559a.Treap
open Go.RowKit

section
variable {w : World} {base B A g m n cap : Nat} {F : Nat → Nat → Int} {root top : Int} {at' : Nat → Int} {s : Int}

set_option maxHeartbeats 400000 in
theorem hold_any (h : Rep w base B A g m n cap F root top at' s) (x e : Nat) (hx : x < n) (he : e < m) (_hn : n ≤ 100000) (_hm : m ≤ 100000) :
    Calls Try.prog 29 #[.pointer (some ⟨B, 0, none⟩), .int .i32 (x : Int), .int .i32 (e : Int)] w fun e' w' => e' = .returned (.tuple #[]) ∧ RF w w' base B A g m n cap (upd F x 0 (e : Int)) root top (fun i => if i = e then (x : Int) else at' i) s := by
  have c0 := h.c0
  have c4 := h.c4
  have cx : w.cell? ⟨g, x * 7, none⟩ = some (.int .i32 (F x 0)) := h.nd.cell x 0 hx (by omega)
  have ca : w.cell? ⟨A, e, none⟩ = some (.int .i32 (at' e)) := h.at_.cell e he
  have fx := h.nd.frozen (x * 7)
  have fa := h.at_.frozen e
  have gB := h.gB
  have gA := h.gA
  have AB := h.AB
  have H : Hid _ := h
  clear h
  go_enter Try.func29, Try.ntmps29
  go_wp2
  go_end0
  exact ⟨rfl, (H.out.rf.setNode x 0 hx (by omega) e).setAt e x⟩

set_option maxHeartbeats 400000 in
theorem relink_none (h : Rep w base B A g m n cap F root top at' s) (x y : Int) :
    Calls Try.prog 30 #[.pointer (some ⟨B, 0, none⟩), .int .i32 (-1), .int .i32 x, .int .i32 y] w fun e' w' => e' = .returned (.tuple #[]) ∧ RF w w' base B A g m n cap F y top at' s := by
  have c0 := h.c0
  have c1 := h.c1
  have f1 := h.fB 1
  have H : Hid _ := h
  clear h
  go_enter Try.func30, Try.ntmps30
  go_wp2
  go_end0
  exact ⟨rfl, H.out.rf.setRoot y⟩

set_option maxHeartbeats 400000 in
theorem relink_some (h : Rep w base B A g m n cap F root top at' s) (p : Nat) (x y : Int) (hp : p < n) :
    Calls Try.prog 30 #[.pointer (some ⟨B, 0, none⟩), .int .i32 (p : Int), .int .i32 x, .int .i32 y] w fun e' w' => e' = .returned (.tuple #[]) ∧ RF w w' base B A g m n cap (relinkF F p x y) root top at' s := by
  have c0 := h.c0
  have cx : w.cell? ⟨g, p * 7 + 1, none⟩ = some (.int .i32 (F p 1)) := h.nd.cell p 1 hp (by omega)
  have cy : w.cell? ⟨g, p * 7 + 2, none⟩ = some (.int .i32 (F p 2)) := h.nd.cell p 2 hp (by omega)
  have fx := h.nd.frozen (p * 7 + 1)
  have fy := h.nd.frozen (p * 7 + 2)
  have gB := h.gB
  have H : Hid _ := h
  clear h
  by_cases e : F p 1 = x
  · have HE : Hid (relinkF F p x y = upd F p 1 y) := by show _ = _; unfold relinkF; rw [if_pos e]
    have eb : (F p 1 == x) = true := by simp [e]
    clear e
    go_enter Try.func30, Try.ntmps30
    go_wp2
    go_end0
    exact ⟨rfl, by rw [HE.out]; exact H.out.rf.setNode p 1 hp (by omega) y⟩
  · have HE : Hid (relinkF F p x y = upd F p 2 y) := by show _ = _; unfold relinkF; rw [if_neg e]
    have eb : (F p 1 == x) = false := by simp [e]
    clear e
    go_enter Try.func30, Try.ntmps30
    go_wp2
    go_end0
    exact ⟨rfl, by rw [HE.out]; exact H.out.rf.setNode p 2 hp (by omega) y⟩
theorem relink_any (h : Rep w base B A g m n cap F root top at' s) (q x y : Int) (hq : q = -1 ∨ ∃ p : Nat, p < n ∧ q = (p : Int)) :
    Calls Try.prog 30 #[.pointer (some ⟨B, 0, none⟩), .int .i32 q, .int .i32 x, .int .i32 y] w fun e' w' => e' = .returned (.tuple #[]) ∧ RF w w' base B A g m n cap (relinkA F q x y) (rootA root q y) top at' s := by
  rcases hq with rfl | ⟨p, hp, rfl⟩
  · exact relink_none h x y
  · have e : relinkA F (p : Int) x y = relinkF F p x y := by unfold relinkA; rw [if_neg (by omega), Int.toNat_natCast]
    have e' : rootA root (p : Int) y = root := by unfold rootA; rw [if_neg (by omega)]
    rw [e, e']
    exact relink_some h p x y hp

end
end Go.Proofs.Qxb6600559a.Treap

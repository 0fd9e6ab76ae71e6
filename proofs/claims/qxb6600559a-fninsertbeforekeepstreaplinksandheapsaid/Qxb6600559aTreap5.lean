import Derived.Test.Qxb6600559aTreap4
/- The rotation as the code writes it, field by field, is the rotation. Plain. -/
namespace Go.Proofs.Qxb6600559a.Treap

/-- 'relink': y takes x's place below p. -/
def relinkF (F : Nat → Nat → Int) (p : Nat) (x y : Int) : Nat → Nat → Int := if F p 1 = x then upd F p 1 y else upd F p 2 y
def relinkA (F : Nat → Nat → Int) (q x y : Int) : Nat → Nat → Int := if q = -1 then F else relinkF F q.toNat x y
def rootA (root q y : Int) : Int := if q = -1 then y else root

theorem upd_at (F : Nat → Nat → Int) (i f : Nat) (v : Int) (a b : Nat) : upd F i f v a b = if a = i ∧ b = f then v else F a b := rfl
theorem ite_at {c : Prop} [Decidable c] (G H : Nat → Nat → Int) (a b : Nat) : (if c then G else H) a b = if c then G a b else H a b := by split <;> rfl

def codeR (F : Nat → Nat → Int) (x p : Nat) : Nat → Nat → Int :=
  let F2 := upd (upd F p 1 (F x 2)) x 2 (p : Int)
  let F3 := if F x 2 = -1 then F2 else upd F2 (F x 2).toNat 3 (p : Int)
  relinkA (upd (upd F3 p 3 (x : Int)) x 3 (F p 3)) (F p 3) (p : Int) (x : Int)
def codeL (F : Nat → Nat → Int) (x p : Nat) : Nat → Nat → Int :=
  let F2 := upd (upd F p 2 (F x 1)) x 1 (p : Int)
  let F3 := if F x 1 = -1 then F2 else upd F2 (F x 1).toNat 3 (p : Int)
  relinkA (upd (upd F3 p 3 (x : Int)) x 3 (F p 3)) (F p 3) (p : Int) (x : Int)

theorem codeR_eq (F : Nat → Nat → Int) (x p : Nat) (hxp : x ≠ p) (hc : F x 2 = -1 ∨ ∃ c : Nat, F x 2 = (c : Int) ∧ c ≠ x ∧ c ≠ p) (hg : F p 3 = -1 ∨ ∃ g : Nat, F p 3 = (g : Int) ∧ g ≠ x ∧ g ≠ p) (i f : Nat) :
    codeR F x p i f = rotR F x p i f := by
  rcases hc with hc | ⟨c, hc, hc1, hc2⟩ <;> rcases hg with hg | ⟨g, hg, hg1, hg2⟩
  all_goals
    simp only [codeR, relinkA, relinkF, rotR, hc, hg, Int.toNat_natCast]
    have nneg : ∀ k : Nat, ((k : Int) = -1) = False := fun k => by simp
    simp only [ite_at, upd_at, Int.natCast_inj, nneg, if_false]
    grind (splits := 40)

theorem codeL_eq (F : Nat → Nat → Int) (x p : Nat) (hxp : x ≠ p) (hc : F x 1 = -1 ∨ ∃ c : Nat, F x 1 = (c : Int) ∧ c ≠ x ∧ c ≠ p) (hg : F p 3 = -1 ∨ ∃ g : Nat, F p 3 = (g : Int) ∧ g ≠ x ∧ g ≠ p) (i f : Nat) :
    codeL F x p i f = rotL F x p i f := by
  rcases hc with hc | ⟨c, hc, hc1, hc2⟩ <;> rcases hg with hg | ⟨g, hg, hg1, hg2⟩
  all_goals
    simp only [codeL, relinkA, relinkF, rotL, hc, hg, Int.toNat_natCast]
    have nneg : ∀ k : Nat, ((k : Int) = -1) = False := fun k => by simp
    simp only [ite_at, upd_at, Int.natCast_inj, nneg, if_false]
    grind (splits := 40)

end Go.Proofs.Qxb6600559a.Treap

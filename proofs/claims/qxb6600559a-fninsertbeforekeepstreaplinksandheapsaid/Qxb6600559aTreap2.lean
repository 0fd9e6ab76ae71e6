import Derived.Test.Qxb6600559aTreap
/- The plain mathematics of the treap: the order, the threading, the heap; insertion of a leaf; rotation. -/
namespace Go.Proofs.Qxb6600559a.Treap

def Heap (n : Nat) (F : Nat → Nat → Int) : Prop := ∀ z p : Nat, z < n → p < n → F z 3 = (p : Int) → F z 6 ≤ F p 6
/-- The heap, but for node x against its parent. -/
def HeapX (n : Nat) (F : Nat → Nat → Int) (x : Nat) : Prop :=
  (∀ z p : Nat, z < n → p < n → z ≠ x → F z 3 = (p : Int) → F z 6 ≤ F p 6) ∧
  (∀ c p : Nat, c < n → p < n → F c 3 = (x : Int) → F x 3 = (p : Int) → F c 6 ≤ F p 6)

theorem HeapX.done {n : Nat} {F : Nat → Nat → Int} {x : Nat} (h : HeapX n F x) (hx : F x 3 = -1 ∨ ∃ p : Nat, F x 3 = (p : Int) ∧ F x 6 ≤ F p 6) : Heap n F := by
  intro z p hz hp e
  by_cases ez : z = x
  · subst ez
    rcases hx with hx | ⟨q, hq, hle⟩
    · omega
    · have : q = p := by omega
      subst this; exact hle
  · exact h.1 z p hz hp ez e

theorem HeapX.rotR {n : Nat} {F : Nat → Nat → Int} {x p : Nat} (h : HeapX n F x) (hp : p < n) (hxp : x ≠ p) (e : F x 3 = (p : Int)) (hc : ∀ c : Nat, F x 2 = (c : Int) → F c 3 = (x : Int)) (hlt : F p 6 < F x 6) :
    HeapX n (rotR F x p) x := by
  obtain ⟨h1, h2⟩ := h
  refine ⟨fun z q hz hq hzx e' => ?_, fun c q hc' hq e1 e2 => ?_⟩
  · simp only [Treap.rotR] at e' ⊢
    grind
  · simp only [Treap.rotR] at e1 e2 ⊢
    grind

theorem HeapX.rotL {n : Nat} {F : Nat → Nat → Int} {x p : Nat} (h : HeapX n F x) (hp : p < n) (hxp : x ≠ p) (e : F x 3 = (p : Int)) (hc : ∀ c : Nat, F x 1 = (c : Int) → F c 3 = (x : Int)) (hlt : F p 6 < F x 6) :
    HeapX n (rotL F x p) x := by
  obtain ⟨h1, h2⟩ := h
  refine ⟨fun z q hz hq hzx e' => ?_, fun c q hc' hq e1 e2 => ?_⟩
  · simp only [Treap.rotL] at e' ⊢
    grind
  · simp only [Treap.rotL] at e1 e2 ⊢
    grind

end Go.Proofs.Qxb6600559a.Treap

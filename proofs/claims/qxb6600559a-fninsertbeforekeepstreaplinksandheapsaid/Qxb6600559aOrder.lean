import Derived.Test.Qxb6600559aTreap4
/- The walk in order, plain: the stack's chain. -/
namespace Go.Proofs.Qxb6600559a.Treap

/-- The stack, its top first: the top lies at place E; each next one where the subtree before it ends; behind the last: n. -/
def Chain (n : Nat) (pos hi : Nat → Nat) : List Nat → Nat → Prop
  | [], E => E = n
  | s :: σ, E => s < n ∧ pos s = E ∧ Chain n pos hi σ (hi s)

def Cur (n : Nat) (pos lo hi : Nat → Nat) (k : Nat) (σ : List Nat) (cur : Int) : Prop :=
  (cur = -1 ∧ Chain n pos hi σ k) ∨ ∃ c : Nat, c < n ∧ cur = (c : Int) ∧ lo c = k ∧ Chain n pos hi σ (hi c)

section
variable {n : Nat} {F : Nat → Nat → Int} {root top : Int} {ls pos lo hi : Nat → Nat}

theorem chain_le (I : Inv n F root top ls pos lo hi) : ∀ (σ : List Nat) (E : Nat), Chain n pos hi σ E → E ≤ n ∧ σ.length + E ≤ n
  | [], E, h => by have : E = n := h
                   simp; omega
  | s :: σ, E, h => by
    obtain ⟨h1, h2, h3⟩ := h
    have b := I.tree.bd s h1
    have := chain_le I σ (hi s) h3
    simp only [List.length_cons]
    omega

theorem chain_mem (I : Inv n F root top ls pos lo hi) : ∀ (σ : List Nat) (E : Nat), Chain n pos hi σ E → ∀ s, s ∈ σ → E ≤ pos s
  | [], _, _, s, hs => by cases hs
  | t :: σ, E, h, s, hs => by
    obtain ⟨h1, h2, h3⟩ := h
    have b := I.tree.bd t h1
    rcases List.mem_cons.1 hs with rfl | hs
    · omega
    · have := chain_mem I σ (hi t) h3 s hs
      omega

theorem cur_start (I : Inv n F root top ls pos lo hi) : Cur n pos lo hi 0 [] root := by
  rcases I.tree.root with ⟨h1, h2⟩ | ⟨r, h1, h2, h3, h4, _⟩
  · exact .inl ⟨h2, h1.symm⟩
  · exact .inr ⟨r, h1, h2, h3, h4⟩

theorem cur_push (I : Inv n F root top ls pos lo hi) {k : Nat} {σ : List Nat} {c : Nat} (hc : c < n) (h1 : lo c = k) (h2 : Chain n pos hi σ (hi c)) : Cur n pos lo hi k (c :: σ) (F c 1) := by
  rcases I.tree.left c hc with ⟨e1, e2⟩ | ⟨d, hd, e1, e2, e3, _⟩
  · exact .inl ⟨e1, hc, by omega, h2⟩
  · exact .inr ⟨d, hd, e1, by omega, hc, by omega, h2⟩

theorem cur_pop (I : Inv n F root top ls pos lo hi) {k s : Nat} {σ : List Nat} (h : Chain n pos hi (s :: σ) k) : s < n ∧ pos s = k ∧ s = ls k ∧ Cur n pos lo hi (k + 1) σ (F s 2) := by
  obtain ⟨h1, h2, h3⟩ := h
  refine ⟨h1, h2, by rw [← h2, (I.psl s h1).2], ?_⟩
  rcases I.tree.right s h1 with ⟨e1, e2⟩ | ⟨d, hd, e1, e2, e3, _⟩
  · exact .inl ⟨e1, by rw [← h2, ← e2]; exact h3⟩
  · exact .inr ⟨d, hd, e1, by omega, by rw [e3]; exact h3⟩

def Seen (n k : Nat) (pos : Nat → Nat) (σ : List Nat) (sn : Nat → Bool) : Prop := ∀ x, x < n → (sn x = true ↔ pos x < k ∨ x ∈ σ)

theorem seen_fresh (I : Inv n F root top ls pos lo hi) {k : Nat} {σ : List Nat} {sn : Nat → Bool} (H : Seen n k pos σ sn) {c : Nat} (hc : c < n) (h1 : lo c = k) (h2 : Chain n pos hi σ (hi c)) : sn c = false := by
  cases h : sn c
  · rfl
  · exfalso
    have b := I.tree.bd c hc
    rcases (H c hc).1 h with h3 | h3
    · omega
    · have := chain_mem I σ (hi c) h2 c h3
      omega
theorem seen_push {k : Nat} {σ : List Nat} {sn : Nat → Bool} (H : Seen n k pos σ sn) (c : Nat) : Seen n k pos (c :: σ) (fun x => if x = c then true else sn x) := by
  intro x hx
  by_cases e : x = c
  · subst e; simp
  · simp only [if_neg e]
    rw [H x hx]; simp [e]
theorem seen_pop (I : Inv n F root top ls pos lo hi) {k s : Nat} {σ : List Nat} {sn : Nat → Bool} (H : Seen n k pos (s :: σ) sn) (hs : s < n) (hp : pos s = k) : Seen n (k + 1) pos σ sn := by
  intro x hx
  rw [H x hx]
  constructor
  · rintro (h | h)
    · exact .inl (by omega)
    · rcases List.mem_cons.1 h with rfl | h
      · exact .inl (by omega)
      · exact .inr h
  · rintro (h | h)
    · by_cases e : pos x = k
      · have := I.inj x s hx hs (by omega)
        subst this
        exact .inr (List.mem_cons_self)
      · exact .inl (by omega)
    · exact .inr (List.mem_cons_of_mem _ h)

/-- The stack as it lies in its row: the bottom first. -/
def stk (σ : List Nat) (i : Nat) : Int := (σ.reverse.getD i 0 : Nat)
theorem stk_push (σ : List Nat) (c i : Nat) (hi : i < σ.length + 1) : (if i = σ.length then (c : Int) else stk σ i) = stk (c :: σ) i := by
  unfold stk
  rw [List.reverse_cons]
  by_cases e : i = σ.length
  · subst e; rw [if_pos rfl, List.getD_eq_getElem?_getD, List.getElem?_append_right (by simp)]; simp
  · rw [if_neg e, List.getD_eq_getElem?_getD, List.getD_eq_getElem?_getD, List.getElem?_append_left (by simp; omega)]
theorem stk_top (s : Nat) (σ : List Nat) : stk (s :: σ) σ.length = (s : Int) := by
  unfold stk
  rw [List.reverse_cons, List.getD_eq_getElem?_getD, List.getElem?_append_right (by simp)]; simp
theorem stk_pop (s : Nat) (σ : List Nat) (i : Nat) (hi : i < σ.length) : stk (s :: σ) i = stk σ i := by
  rw [← stk_push σ s i (by omega), if_neg (by omega)]

end
end Go.Proofs.Qxb6600559a.Treap

import Derived.Test.Qxb6600559aRot
namespace Go.Proofs.Qxb6600559a.Treap
open Go.RowKit

theorem Inv.links {n : Nat} {F F' : Nat → Nat → Int} {root top root' : Int} {ls pos lo hi lo' hi' : Nat → Nat} (I : Inv n F root top ls pos lo hi) (T : Tree n F' root' pos lo' hi') (e : ∀ a b : Nat, b = 0 ∨ b = 4 ∨ b = 5 → F' a b = F a b) : Inv n F' root' top ls pos lo' hi' :=
  ⟨T, I.lsl, I.psl, fun i hi => by rw [e _ 4 (by omega)]; exact I.be i hi, fun i hi => by rw [e _ 5 (by omega)]; exact I.ab i hi, I.tp, fun x hx => by rw [e _ 0 (by omega)]; exact I.ed x hx⟩

/-- What one rotation of the treap does, plain. -/
theorem Inv.rotStep {n : Nat} {F : Nat → Nat → Int} {root top : Int} {ls pos lo hi : Nat → Nat} (I : Inv n F root top ls pos lo hi) (x p : Nat) (hx : x < n) (X : HeapX n F x) (e3 : F x 3 = (p : Int)) (hlt : F p 6 < F x 6) :
    p < n ∧ x ≠ p ∧ (F p 3 = -1 ∨ ∃ k : Nat, k < n ∧ F p 3 = (k : Int) ∧ k ≠ x ∧ k ≠ p) ∧
    ((F p 1 = (x : Int) ∧ (F x 2 = -1 ∨ ∃ c : Nat, c < n ∧ c ≠ x ∧ c ≠ p ∧ F x 2 = (c : Int)) ∧ ∃ lo' hi', Inv n (rotR F x p) (rotRoot F root x p) top ls pos lo' hi' ∧ HeapX n (rotR F x p) x ∧ hi x - lo x < hi' x - lo' x) ∨
     (F p 1 ≠ (x : Int) ∧ (F x 1 = -1 ∨ ∃ c : Nat, c < n ∧ c ≠ x ∧ c ≠ p ∧ F x 1 = (c : Int)) ∧ ∃ lo' hi', Inv n (rotL F x p) (rotRoot F root x p) top ls pos lo' hi' ∧ HeapX n (rotL F x p) x ∧ hi x - lo x < hi' x - lo' x)) := by
  have T := I.tree
  have px := T.par x hx
  have bx := T.bd x hx
  obtain ⟨hp, hch⟩ : p < n ∧ (F p 1 = (x : Int) ∨ F p 2 = (x : Int)) := by
    rcases px with px | ⟨q, hq, h1, h2⟩
    · omega
    · have : q = p := by omega
      subst this; exact ⟨hq, h2⟩
  have bp := T.bd p hp
  have hxp : x ≠ p := by intro e; subst e; omega
  have hg : F p 3 = -1 ∨ ∃ k : Nat, k < n ∧ F p 3 = (k : Int) ∧ k ≠ x ∧ k ≠ p := by
    have pp := T.par p hp
    rcases pp with pp | ⟨q, hq, h1, h2⟩
    · exact .inl pp.1
    · have bq := T.bd q hq
      refine .inr ⟨q, hq, h1, ?_, ?_⟩
      · intro e; subst e
        rcases h2 with h2 | h2
        · have k1 := (T.left _ hq).at h2
          rcases hch with hch | hch
          · have k2 := (T.left p hp).at hch; omega
          · have k2 := (T.right p hp).at hch; omega
        · have k1 := (T.right _ hq).at h2
          rcases hch with hch | hch
          · have k2 := (T.left p hp).at hch; omega
          · have k2 := (T.right p hp).at hch; omega
      · intro e; subst e
        rcases h2 with h2 | h2
        · have k1 := (T.left _ hq).at h2; omega
        · have k1 := (T.right _ hq).at h2; omega
  refine ⟨hp, hxp, hg, ?_⟩
  by_cases h1 : F p 1 = (x : Int)
  · left
    have k := (T.left p hp).at h1
    refine ⟨h1, ?_, _, _, I.links (T.rotR x p hx hp h1) (fun a b hb => ?_), X.rotR hp hxp e3 (fun c hc => ((T.right x hx).at hc).2.2.2) hlt, ?_⟩
    · rcases T.right x hx with h | ⟨c, hc, h⟩
      · exact .inl h.1
      · have bc := T.bd c hc
        refine .inr ⟨c, hc, ?_, ?_, h.1⟩
        · intro e; subst e; omega
        · intro e; subst e; omega
    · simp only [Treap.rotR]; grind
    · simp only [if_true, if_neg hxp]; omega
  · right
    have h2 : F p 2 = (x : Int) := by rcases hch with h | h; exact absurd h h1; exact h
    have k := (T.right p hp).at h2
    refine ⟨h1, ?_, _, _, I.links (T.rotL x p hx hp h2) (fun a b hb => ?_), X.rotL hp hxp e3 (fun c hc => ((T.left x hx).at hc).2.2.2) hlt, ?_⟩
    · rcases T.left x hx with h | ⟨c, hc, h⟩
      · exact .inl h.1
      · have bc := T.bd c hc
        refine .inr ⟨c, hc, ?_, ?_, h.1⟩
        · intro e; subst e; omega
        · intro e; subst e; omega
    · simp only [Treap.rotL]; grind
    · simp only [if_true, if_neg hxp]; omega

section
variable {w : World} {base B A g m n cap : Nat} {F : Nat → Nat → Int} {root top : Int} {at' : Nat → Int} {s : Int} {ls pos lo hi : Nat → Nat}

/-- 'rotateUp', where x stands above its parent in priority. -/
theorem rotateUp_any (h : Rep w base B A g m n cap F root top at' s) (hn : n ≤ 100000) (I : Inv n F root top ls pos lo hi) (x p : Nat) (hx : x < n) (X : HeapX n F x) (e3 : F x 3 = (p : Int)) (hlt : F p 6 < F x 6) :
    Calls Try.prog 28 #[.pointer (some ⟨B, 0, none⟩), .int .i32 (x : Int)] w fun e' w' => e' = .returned (.tuple #[]) ∧ ∃ F' root' lo' hi', RF w w' base B A g m n cap F' root' top at' s ∧ Inv n F' root' top ls pos lo' hi' ∧ HeapX n F' x ∧ hi x - lo x < hi' x - lo' x := by
  obtain ⟨hp, hxp, hg, hcase⟩ := I.rotStep x p hx X e3 hlt
  have hg1 : F p 3 = -1 ∨ ∃ k : Nat, k < n ∧ F p 3 = (k : Int) := by
    rcases hg with hg | ⟨k, h1, h2, _⟩
    · exact .inl hg
    · exact .inr ⟨k, h1, h2⟩
  have hg2 : F p 3 = -1 ∨ ∃ k : Nat, F p 3 = (k : Int) ∧ k ≠ x ∧ k ≠ p := by
    rcases hg with hg | ⟨k, h1, h2, h3⟩
    · exact .inl hg
    · exact .inr ⟨k, h2, h3⟩
  rcases hcase with ⟨h1, hc, lo', hi', I', X', hs⟩ | ⟨h1, hc, lo', hi', I', X', hs⟩
  · rcases hc with hc | ⟨c, c1, c2, c3, hc⟩
    · exact (rotR_none h x p hx hp hxp hn e3 h1 hc hg1).mono fun e' w' ⟨he, hr⟩ => ⟨he, _, _, lo', hi', hr.congr (fun i f _ _ => codeR_eq F x p hxp (.inl hc) hg2 i f), I', X', hs⟩
    · exact (rotR_some h x p hx hp hxp hn e3 h1 c c1 c2 c3 hc hg1).mono fun e' w' ⟨he, hr⟩ => ⟨he, _, _, lo', hi', hr.congr (fun i f _ _ => codeR_eq F x p hxp (.inr ⟨c, hc, c2, c3⟩) hg2 i f), I', X', hs⟩
  · rcases hc with hc | ⟨c, c1, c2, c3, hc⟩
    · exact (rotL_none h x p hx hp hxp hn e3 h1 hc hg1).mono fun e' w' ⟨he, hr⟩ => ⟨he, _, _, lo', hi', hr.congr (fun i f _ _ => codeL_eq F x p hxp (.inl hc) hg2 i f), I', X', hs⟩
    · exact (rotL_some h x p hx hp hxp hn e3 h1 c c1 c2 c3 hc hg1).mono fun e' w' ⟨he, hr⟩ => ⟨he, _, _, lo', hi', hr.congr (fun i f _ _ => codeL_eq F x p hxp (.inr ⟨c, hc, c2, c3⟩) hg2 i f), I', X', hs⟩
end
end Go.Proofs.Qxb6600559a.Treap

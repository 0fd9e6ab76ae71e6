import Derived.Test.Qxb6600559aTreap3
/- The whole invariant, plain. -/
namespace Go.Proofs.Qxb6600559a.Treap

structure Inv (n : Nat) (F : Nat → Nat → Int) (root top : Int) (ls pos lo hi : Nat → Nat) : Prop where
  tree : Tree n F root pos lo hi
  lsl : ∀ i, i < n → ls i < n ∧ pos (ls i) = i
  psl : ∀ x, x < n → pos x < n ∧ ls (pos x) = x
  be : ∀ i, i < n → F (ls i) 4 = if i = 0 then -1 else (ls (i - 1) : Int)
  ab : ∀ i, i < n → F (ls i) 5 = if i + 1 < n then (ls (i + 1) : Int) else -1
  tp : top = if n = 0 then -1 else (ls (n - 1) : Int)
  ed : ∀ x, x < n → F x 0 = (x : Int)

theorem Inv.inj {n : Nat} {F : Nat → Nat → Int} {root top : Int} {ls pos lo hi : Nat → Nat} (I : Inv n F root top ls pos lo hi) (x y : Nat) (hx : x < n) (hy : y < n) (h : pos x = pos y) : x = y := by
  rw [← (I.psl x hx).2, ← (I.psl y hy).2, h]

theorem Inv.nest {n : Nat} {F : Nat → Nat → Int} {root top : Int} {ls pos lo hi : Nat → Nat} (I : Inv n F root top ls pos lo hi) :
    ∀ d u v : Nat, u < n → v < n → hi u - lo u ≤ d → lo u ≤ pos v → pos v < hi u → lo u ≤ lo v ∧ hi v ≤ hi u := by
  intro d
  induction d with
  | zero => intro u v _ _ h1 h2 h3; omega
  | succ d ih =>
    intro u v hu hv h1 h2 h3
    have bu := I.tree.bd u hu
    by_cases e : pos v = pos u
    · have := I.inj v u hv hu e
      subst this; omega
    · by_cases hl : pos v < pos u
      · have lu := I.tree.left u hu
        unfold LeftOK at lu
        rcases lu with lu | ⟨c, hc, lu⟩
        · omega
        · have bc := I.tree.bd c hc
          have := ih c v hc hv (by omega) (by omega) (by omega)
          omega
      · have ru := I.tree.right u hu
        unfold RightOK at ru
        rcases ru with ru | ⟨c, hc, ru⟩
        · omega
        · have bc := I.tree.bd c hc
          have := ih c v hc hv (by omega) (by omega) (by omega)
          omega

/-- Where y has a left child, the node just before y has no right child. -/
theorem Inv.noRight {n : Nat} {F : Nat → Nat → Int} {root top : Int} {ls pos lo hi : Nat → Nat} (I : Inv n F root top ls pos lo hi) (p : Nat) (hp : p < n) (hl : F (ls p) 1 ≠ -1) : 0 < p ∧ F (ls (p - 1)) 2 = -1 := by
  have hy := I.lsl p hp
  have ly := I.tree.left (ls p) hy.1
  unfold LeftOK at ly
  rcases ly with ly | ⟨c, hc, ly⟩
  · exact absurd ly.1 hl
  · have bc := I.tree.bd c hc
    have h0 : 0 < p := by omega
    refine ⟨h0, ?_⟩
    have hb := I.lsl (p - 1) (by omega)
    have rb := I.tree.right (ls (p - 1)) hb.1
    unfold RightOK at rb
    rcases rb with rb | ⟨d, hd, rb⟩
    · exact rb.1
    · have bd := I.tree.bd d hd
      have := I.nest _ d (ls p) hd hy.1 (Nat.le_refl _) (by omega) (by omega)
      omega

/-- The last node has no right child. -/
theorem Inv.lastNoRight {n : Nat} {F : Nat → Nat → Int} {root top : Int} {ls pos lo hi : Nat → Nat} (I : Inv n F root top ls pos lo hi) (hn : 0 < n) : F (ls (n - 1)) 2 = -1 := by
  have hb := I.lsl (n - 1) (by omega)
  have rb := I.tree.right (ls (n - 1)) hb.1
  unfold RightOK at rb
  rcases rb with rb | ⟨d, hd, rb⟩
  · exact rb.1
  · have bd := I.tree.bd d hd
    omega

def lsI (n p : Nat) (ls : Nat → Nat) (i : Nat) : Nat := if i < p then ls i else if i = p then n else ls (i - 1)

/-- What the insertion has done to the fields beside the tree's links. -/
structure Threaded (n p : Nat) (F F' : Nat → Nat → Int) (top top' : Int) (ls : Nat → Nat) : Prop where
  e0 : ∀ a : Nat, a < n → F' a 0 = F a 0
  n0 : F' n 0 = (n : Int)
  e6 : ∀ a : Nat, a < n → F' a 6 = F a 6
  e4 : ∀ a : Nat, a < n → F' a 4 = if p < n ∧ a = ls p then (n : Int) else F a 4
  n4 : F' n 4 = if p = 0 then -1 else (ls (p - 1) : Int)
  e5 : ∀ a : Nat, a < n → F' a 5 = if 0 < p ∧ a = ls (p - 1) then (n : Int) else F a 5
  n5 : F' n 5 = if p < n then (ls p : Int) else -1
  tp : top' = if p = n then (n : Int) else top

theorem Inv.ins {n : Nat} {F F' : Nat → Nat → Int} {root top root' top' : Int} {ls pos lo hi lo' hi' : Nat → Nat} (I : Inv n F root top ls pos lo hi) (p : Nat) (hp : p ≤ n)
    (H : Threaded n p F F' top top' ls) (T : Tree (n + 1) F' root' (posI n p pos) lo' hi') : Inv (n + 1) F' root' top' (lsI n p ls) (posI n p pos) lo' hi' := by
  have hls : ∀ i, i < n → ls i < n := fun i hi => (I.lsl i hi).1
  have hinj : ∀ i j, i < n → j < n → ls i = ls j → i = j := fun i j hi hj h => by
    rw [← (I.lsl i hi).2, ← (I.lsl j hj).2, h]
  have hbe := I.be
  have hab := I.ab
  have htp := I.tp
  constructor
  · exact T
  · intro i hi
    clear hbe hab htp hinj hls
    by_cases e : i = p
    · subst e; simp only [lsI, posI]; grind
    · by_cases hl : i < p
      · have := I.lsl i (by omega); simp only [lsI, posI]; grind
      · have := I.lsl (i - 1) (by omega); simp only [lsI, posI]; grind
  · intro x hx
    by_cases e : x = n
    · subst e; simp only [lsI, posI]; grind
    · obtain ⟨k1, k2⟩ := I.psl x (by omega)
      by_cases hl : pos x < p
      · simp only [lsI, posI, if_neg e, if_pos hl]
        exact ⟨by omega, k2⟩
      · simp only [lsI, posI, if_neg e, if_neg hl]
        rw [if_neg (by omega), if_neg (by omega), Nat.add_sub_cancel]
        exact ⟨by omega, k2⟩
  · intro i hi
    have e4 := H.e4
    have n4 := H.n4
    clear hab htp
    by_cases e : i = p
    · subst e; simp only [lsI]; grind
    · by_cases hl : i < p
      · have h1 := hbe i (by omega)
        have h2 := e4 (ls i) (hls i (by omega))
        have h3 := hinj i p (by omega)
        clear hbe hinj hls e4
        simp only [lsI]; grind
      · have h1 := hbe (i - 1) (by omega)
        have h2 := e4 (ls (i - 1)) (hls (i - 1) (by omega))
        have h3 := hinj (i - 1) p (by omega)
        clear hbe hinj hls e4
        simp only [lsI]; grind
  · intro i hi
    have e5 := H.e5
    have n5 := H.n5
    clear hbe htp
    by_cases e : i = p
    · subst e; simp only [lsI]; grind
    · by_cases hl : i < p
      · have h1 := hab i (by omega)
        have h2 := e5 (ls i) (hls i (by omega))
        have h3 := hinj i (p - 1) (by omega)
        clear hab hinj hls e5
        simp only [lsI]; grind
      · have h1 := hab (i - 1) (by omega)
        have h2 := e5 (ls (i - 1)) (hls (i - 1) (by omega))
        have h3 := hinj (i - 1) (p - 1) (by omega)
        clear hab hinj hls e5
        simp only [lsI]; grind
  · have := H.tp
    clear hbe hab hinj hls
    simp only [lsI]; grind
  · intro x hx
    by_cases e : x = n
    · subst e; exact H.n0
    · rw [H.e0 x (by omega)]; exact I.ed x (by omega)

/-- The new leaf alone may part from the heap. -/
theorem Heap.ins {n : Nat} {F F' : Nat → Nat → Int} {root : Int} {pos lo hi : Nat → Nat} (T : Tree n F root pos lo hi) (h : Heap n F) (h3 : ∀ a : Nat, a < n → F' a 3 = F a 3) (h6 : ∀ a : Nat, a < n → F' a 6 = F a 6) (hn : F' n 3 ≠ (n : Int)) :
    HeapX (n + 1) F' n := by
  have hpar : ∀ z : Nat, z < n → F z 3 = -1 ∨ ∃ q : Nat, q < n ∧ F z 3 = (q : Int) := fun z hz => by
    have := T.par z hz
    unfold ParOK at this
    grind
  refine ⟨fun z p hz hp hne e => ?_, fun c p hc hp e1 e2 => ?_⟩
  · have hz' : z < n := by omega
    rw [h3 z hz'] at e
    rcases hpar z hz' with h0 | ⟨q, hq, h0⟩
    · omega
    · have : q = p := by omega
      subst this
      rw [h6 z hz', h6 q hq]; exact h z q hz' hq h0
  · exfalso
    by_cases ec : c = n
    · subst ec; exact hn e1
    · have hc' : c < n := by omega
      rw [h3 c hc'] at e1
      rcases hpar c hc' with h0 | ⟨q, hq, h0⟩ <;> omega

end Go.Proofs.Qxb6600559a.Treap

/- The plain mathematics of the treap: nodes are numbers below n, F x f is field f of node x (0 edge, 1 left, 2 right, 3 parent, 4 below, 5 above, 6 prio); pos x is x's place in the order, [lo x, hi x) the places of its subtree. No Go in sight. -/
namespace Go.Proofs.Qxb6600559a.Treap

def upd (F : Nat → Nat → Int) (i f : Nat) (v : Int) : Nat → Nat → Int := fun a b => if a = i ∧ b = f then v else F a b

def LeftOK (n : Nat) (F : Nat → Nat → Int) (pos lo hi : Nat → Nat) (x : Nat) : Prop :=
  (F x 1 = -1 ∧ lo x = pos x) ∨ ∃ c : Nat, c < n ∧ F x 1 = (c : Int) ∧ lo c = lo x ∧ hi c = pos x ∧ F c 3 = (x : Int)
def RightOK (n : Nat) (F : Nat → Nat → Int) (pos lo hi : Nat → Nat) (x : Nat) : Prop :=
  (F x 2 = -1 ∧ hi x = pos x + 1) ∨ ∃ c : Nat, c < n ∧ F x 2 = (c : Int) ∧ lo c = pos x + 1 ∧ hi c = hi x ∧ F c 3 = (x : Int)
def ParOK (n : Nat) (F : Nat → Nat → Int) (root : Int) (x : Nat) : Prop :=
  (F x 3 = -1 ∧ root = (x : Int)) ∨ ∃ p : Nat, p < n ∧ F x 3 = (p : Int) ∧ (F p 1 = (x : Int) ∨ F p 2 = (x : Int))
def RootOK (n : Nat) (F : Nat → Nat → Int) (root : Int) (lo hi : Nat → Nat) : Prop :=
  (n = 0 ∧ root = -1) ∨ ∃ r : Nat, r < n ∧ root = (r : Int) ∧ lo r = 0 ∧ hi r = n ∧ F r 3 = -1

structure Tree (n : Nat) (F : Nat → Nat → Int) (root : Int) (pos lo hi : Nat → Nat) : Prop where
  bd : ∀ x, x < n → lo x ≤ pos x ∧ pos x < hi x ∧ hi x ≤ n
  left : ∀ x, x < n → LeftOK n F pos lo hi x
  right : ∀ x, x < n → RightOK n F pos lo hi x
  par : ∀ x, x < n → ParOK n F root x
  root : RootOK n F root lo hi

theorem LeftOK.at {n : Nat} {F : Nat → Nat → Int} {pos lo hi : Nat → Nat} {x c : Nat} (h : LeftOK n F pos lo hi x) (e : F x 1 = (c : Int)) : c < n ∧ lo c = lo x ∧ hi c = pos x ∧ F c 3 = (x : Int) := by
  rcases h with ⟨h, _⟩ | ⟨d, h1, h2, h3⟩
  · omega
  · have : d = c := by omega
    subst this; exact ⟨h1, h3⟩
theorem RightOK.at {n : Nat} {F : Nat → Nat → Int} {pos lo hi : Nat → Nat} {x c : Nat} (h : RightOK n F pos lo hi x) (e : F x 2 = (c : Int)) : c < n ∧ lo c = pos x + 1 ∧ hi c = hi x ∧ F c 3 = (x : Int) := by
  rcases h with ⟨h, _⟩ | ⟨d, h1, h2, h3⟩
  · omega
  · have : d = c := by omega
    subst this; exact ⟨h1, h3⟩

/-- Right rotation: x is p's left child, c its right child (or -1), g p's parent (or -1). -/
def rotR (F : Nat → Nat → Int) (x p : Nat) : Nat → Nat → Int := fun a b =>
  if b = 1 then (if a = p then F x 2 else if (a : Int) = F p 3 ∧ F a 1 = (p : Int) then (x : Int) else F a 1)
  else if b = 2 then (if a = x then (p : Int) else if (a : Int) = F p 3 ∧ F a 1 ≠ (p : Int) then (x : Int) else F a 2)
  else if b = 3 then (if a = x then F p 3 else if a = p then (x : Int) else if (a : Int) = F x 2 then (p : Int) else F a 3)
  else F a b
def rotRoot (F : Nat → Nat → Int) (root : Int) (x p : Nat) : Int := if F p 3 = -1 then (x : Int) else root

theorem Tree.rotR {n : Nat} {F : Nat → Nat → Int} {root : Int} {pos lo hi : Nat → Nat} (T : Tree n F root pos lo hi) (x p : Nat) (hx : x < n) (hp : p < n) (h1 : F p 1 = (x : Int)) :
    Tree n (rotR F x p) (rotRoot F root x p) pos (fun z => if z = p then pos x + 1 else lo z) (fun z => if z = x then hi p else hi z) := by
  have bx := T.bd x hx
  have bp := T.bd p hp
  have lp := T.left p hp
  have lx := T.left x hx
  have rx := T.right x hx
  have pp := T.par p hp
  have hlx : lo x = lo p ∧ hi x = pos p ∧ F x 3 = (p : Int) := (lp.at h1).2
  obtain ⟨e1, e2, e3⟩ := hlx
  have hxp : x ≠ p := by grind
  have hc : F x 2 = -1 ∨ ∃ c : Nat, c < n ∧ F x 2 = (c : Int) ∧ lo c = pos x + 1 ∧ hi c = hi x ∧ F c 3 = (x : Int) ∧ pos x < pos c ∧ pos c < pos p := by
    unfold RightOK at rx
    rcases rx with h | ⟨c, hc, h⟩
    · exact .inl h.1
    · have := T.bd c hc
      exact .inr ⟨c, hc, by grind⟩
  have hg : (F p 3 = -1 ∧ root = (p : Int)) ∨ ∃ g : Nat, g < n ∧ F p 3 = (g : Int) ∧ g ≠ p ∧ g ≠ x ∧ ((F g 1 = (p : Int) ∧ lo p = lo g ∧ hi p = pos g) ∨ (F g 1 ≠ (p : Int) ∧ F g 2 = (p : Int) ∧ lo p = pos g + 1 ∧ hi p = hi g)) := by
    unfold ParOK at pp
    rcases pp with h | ⟨g, hg, h, h'⟩
    · exact .inl h
    · have bg := T.bd g hg
      rcases h' with h' | h'
      · have k := (T.left g hg).at h'
        exact .inr ⟨g, hg, h, by grind, by grind, .inl ⟨h', k.2.1, k.2.2.1⟩⟩
      · have k := (T.right g hg).at h'
        refine .inr ⟨g, hg, h, by grind, by grind, .inr ⟨fun h2 => ?_, h', k.2.1, k.2.2.1⟩⟩
        have k2 := (T.left g hg).at h2
        grind
  constructor
  · intro z hz
    have := T.bd z hz
    grind
  · intro z hz
    have bz := T.bd z hz
    have lz := T.left z hz
    unfold LeftOK at lz ⊢
    by_cases hzp : z = p
    · subst hzp
      rcases hc with hc | ⟨c, hc⟩
      · left; unfold RightOK at rx; simp only [Treap.rotR]; grind
      · right; exact ⟨c, by simp only [Treap.rotR]; grind⟩
    · rcases lz with lz | ⟨d, hd, lz⟩
      · left; simp only [Treap.rotR]; grind
      · right
        have bd := T.bd d hd
        by_cases hdp : d = p
        · exact ⟨x, by simp only [Treap.rotR]; grind⟩
        · exact ⟨d, by simp only [Treap.rotR]; grind⟩
  · intro z hz
    have bz := T.bd z hz
    have rz := T.right z hz
    unfold RightOK at rz ⊢
    by_cases hzx : z = x
    · right; exact ⟨p, by simp only [Treap.rotR]; grind⟩
    · rcases rz with rz | ⟨d, hd, rz⟩
      · left; simp only [Treap.rotR]; grind
      · right
        have bd := T.bd d hd
        by_cases hdp : d = p
        · exact ⟨x, by simp only [Treap.rotR]; grind⟩
        · exact ⟨d, by simp only [Treap.rotR]; grind⟩
  · intro z hz
    have pz := T.par z hz
    unfold ParOK at pz ⊢
    by_cases hzx : z = x
    · subst hzx
      rcases hg with hg | ⟨g, hg⟩
      · left; simp only [Treap.rotR, rotRoot]; grind
      · right; exact ⟨g, by simp only [Treap.rotR]; grind⟩
    · by_cases hzp : z = p
      · right; exact ⟨x, by simp only [Treap.rotR]; grind⟩
      · by_cases hzc : (z : Int) = F x 2
        · right; exact ⟨p, by simp only [Treap.rotR]; grind⟩
        · rcases pz with pz | ⟨q, hq, pz⟩
          · left; simp only [Treap.rotR, rotRoot]; grind
          · right; exact ⟨q, by simp only [Treap.rotR]; grind⟩
  · have hr := T.root
    unfold RootOK at hr ⊢
    rcases hr with hr | ⟨r, hr⟩
    · omega
    · rcases hg with hg | ⟨g, hg⟩
      · right; exact ⟨x, by simp only [Treap.rotR, rotRoot]; grind⟩
      · right; exact ⟨r, by simp only [Treap.rotR, rotRoot]; grind⟩

/-- Left rotation: x is p's right child. -/
def rotL (F : Nat → Nat → Int) (x p : Nat) : Nat → Nat → Int := fun a b =>
  if b = 2 then (if a = p then F x 1 else if (a : Int) = F p 3 ∧ F a 1 ≠ (p : Int) then (x : Int) else F a 2)
  else if b = 1 then (if a = x then (p : Int) else if (a : Int) = F p 3 ∧ F a 1 = (p : Int) then (x : Int) else F a 1)
  else if b = 3 then (if a = x then F p 3 else if a = p then (x : Int) else if (a : Int) = F x 1 then (p : Int) else F a 3)
  else F a b

theorem Tree.rotL {n : Nat} {F : Nat → Nat → Int} {root : Int} {pos lo hi : Nat → Nat} (T : Tree n F root pos lo hi) (x p : Nat) (hx : x < n) (hp : p < n) (h1 : F p 2 = (x : Int)) :
    Tree n (rotL F x p) (rotRoot F root x p) pos (fun z => if z = x then lo p else lo z) (fun z => if z = p then pos x else hi z) := by
  have bx := T.bd x hx
  have bp := T.bd p hp
  have rp := T.right p hp
  have lx := T.left x hx
  have rx := T.right x hx
  have pp := T.par p hp
  have hlx : lo x = pos p + 1 ∧ hi x = hi p ∧ F x 3 = (p : Int) := (rp.at h1).2
  obtain ⟨e1, e2, e3⟩ := hlx
  have hxp : x ≠ p := by grind
  have hc : F x 1 = -1 ∨ ∃ c : Nat, c < n ∧ F x 1 = (c : Int) ∧ lo c = lo x ∧ hi c = pos x ∧ F c 3 = (x : Int) ∧ pos c < pos x ∧ pos p < pos c := by
    unfold LeftOK at lx
    rcases lx with h | ⟨c, hc, h⟩
    · exact .inl h.1
    · have := T.bd c hc
      exact .inr ⟨c, hc, by grind⟩
  have hg : (F p 3 = -1 ∧ root = (p : Int)) ∨ ∃ g : Nat, g < n ∧ F p 3 = (g : Int) ∧ g ≠ p ∧ g ≠ x ∧ ((F g 1 = (p : Int) ∧ lo p = lo g ∧ hi p = pos g) ∨ (F g 1 ≠ (p : Int) ∧ F g 2 = (p : Int) ∧ lo p = pos g + 1 ∧ hi p = hi g)) := by
    unfold ParOK at pp
    rcases pp with h | ⟨g, hg, h, h'⟩
    · exact .inl h
    · have bg := T.bd g hg
      rcases h' with h' | h'
      · have k := (T.left g hg).at h'
        exact .inr ⟨g, hg, h, by grind, by grind, .inl ⟨h', k.2.1, k.2.2.1⟩⟩
      · have k := (T.right g hg).at h'
        refine .inr ⟨g, hg, h, by grind, by grind, .inr ⟨fun h2 => ?_, h', k.2.1, k.2.2.1⟩⟩
        have k2 := (T.left g hg).at h2
        grind
  constructor
  · intro z hz
    have := T.bd z hz
    grind
  · intro z hz
    have bz := T.bd z hz
    have lz := T.left z hz
    unfold LeftOK at lz ⊢
    by_cases hzx : z = x
    · right; exact ⟨p, by simp only [Treap.rotL]; grind⟩
    · rcases lz with lz | ⟨d, hd, lz⟩
      · left; simp only [Treap.rotL]; grind
      · right
        have bd := T.bd d hd
        by_cases hdp : d = p
        · exact ⟨x, by simp only [Treap.rotL]; grind⟩
        · exact ⟨d, by simp only [Treap.rotL]; grind⟩
  · intro z hz
    have bz := T.bd z hz
    have rz := T.right z hz
    unfold RightOK at rz ⊢
    by_cases hzp : z = p
    · subst hzp
      rcases hc with hc | ⟨c, hc⟩
      · left; unfold LeftOK at lx; simp only [Treap.rotL]; grind
      · right; exact ⟨c, by simp only [Treap.rotL]; grind⟩
    · rcases rz with rz | ⟨d, hd, rz⟩
      · left; simp only [Treap.rotL]; grind
      · right
        have bd := T.bd d hd
        by_cases hdp : d = p
        · exact ⟨x, by simp only [Treap.rotL]; grind⟩
        · exact ⟨d, by simp only [Treap.rotL]; grind⟩
  · intro z hz
    have pz := T.par z hz
    unfold ParOK at pz ⊢
    by_cases hzx : z = x
    · subst hzx
      rcases hg with hg | ⟨g, hg⟩
      · left; simp only [Treap.rotL, rotRoot]; grind
      · right; exact ⟨g, by simp only [Treap.rotL]; grind⟩
    · by_cases hzp : z = p
      · right; exact ⟨x, by simp only [Treap.rotL]; grind⟩
      · by_cases hzc : (z : Int) = F x 1
        · right; exact ⟨p, by simp only [Treap.rotL]; grind⟩
        · rcases pz with pz | ⟨q, hq, pz⟩
          · left; simp only [Treap.rotL, rotRoot]; grind
          · right; exact ⟨q, by simp only [Treap.rotL]; grind⟩
  · have hr := T.root
    unfold RootOK at hr ⊢
    rcases hr with hr | ⟨r, hr⟩
    · omega
    · rcases hg with hg | ⟨g, hg⟩
      · right; exact ⟨x, by simp only [Treap.rotL, rotRoot]; grind⟩
      · right; exact ⟨r, by simp only [Treap.rotL, rotRoot]; grind⟩

end Go.Proofs.Qxb6600559a.Treap

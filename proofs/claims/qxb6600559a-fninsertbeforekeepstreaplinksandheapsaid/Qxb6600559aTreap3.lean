import Derived.Test.Qxb6600559aTreap2
/- Insertion of a leaf, plain. -/
namespace Go.Proofs.Qxb6600559a.Treap

def posI (n p : Nat) (pos : Nat → Nat) (z : Nat) : Nat := if z = n then p else if pos z < p then pos z else pos z + 1
def loA (n p : Nat) (lo : Nat → Nat) (z : Nat) : Nat := if z = n then p else if lo z < p then lo z else lo z + 1
def hiA (n p : Nat) (hi : Nat → Nat) (z : Nat) : Nat := if z = n then p + 1 else if hi z < p then hi z else hi z + 1
def loB (n p : Nat) (lo : Nat → Nat) (z : Nat) : Nat := if z = n then p else if lo z ≤ p then lo z else lo z + 1
def hiB (n p : Nat) (hi : Nat → Nat) (z : Nat) : Nat := if z = n then p + 1 else if hi z ≤ p then hi z else hi z + 1

/-- x = n hangs as the right child of b, which lies just before place p. -/
theorem Tree.insA {n : Nat} {F F' : Nat → Nat → Int} {root : Int} {pos lo hi : Nat → Nat} (T : Tree n F root pos lo hi) (b p : Nat) (hb : b < n) (hpb : p = pos b + 1) (hinj : ∀ x y : Nat, x < n → y < n → pos x = pos y → x = y)
    (hb2 : F b 2 = -1) (h1 : ∀ a : Nat, a < n → F' a 1 = F a 1) (h2 : ∀ a : Nat, a < n → a ≠ b → F' a 2 = F a 2) (hb2' : F' b 2 = (n : Int)) (h3 : ∀ a : Nat, a < n → F' a 3 = F a 3)
    (n1 : F' n 1 = -1) (n2 : F' n 2 = -1) (n3 : F' n 3 = (b : Int)) :
    Tree (n + 1) F' root (posI n p pos) (loA n p lo) (hiA n p hi) := by
  have bb := T.bd b hb
  have rb := T.right b hb
  have hhb : hi b = p := by unfold RightOK at rb; grind
  constructor
  · intro z hz
    by_cases e : z = n
    · subst e; simp only [posI, loA, hiA, if_true]; omega
    · have := T.bd z (by omega)
      simp only [posI, loA, hiA]; grind
  · intro z hz
    unfold LeftOK
    by_cases e : z = n
    · subst e; left; simp only [posI, loA, if_true]; exact ⟨n1, trivial⟩
    · have hz' : z < n := by omega
      have bz := T.bd z hz'
      have lz := T.left z hz'
      unfold LeftOK at lz
      rcases lz with lz | ⟨d, hd, lz⟩
      · left; simp only [posI, loA]; grind
      · right; refine ⟨d, by omega, ?_⟩; simp only [posI, loA, hiA]; grind
  · intro z hz
    unfold RightOK
    by_cases e : z = n
    · subst e; left; simp only [posI, hiA, if_true]; exact ⟨n2, trivial⟩
    · have hz' : z < n := by omega
      have bz := T.bd z hz'
      have rz := T.right z hz'
      by_cases ezb : z = b
      · subst ezb; right; refine ⟨n, by omega, ?_⟩; simp only [posI, loA, hiA]; grind
      · have hne : pos z ≠ pos b := fun h => ezb (hinj z b hz' hb h)
        unfold RightOK at rz
        rcases rz with rz | ⟨d, hd, rz⟩
        · left; simp only [posI, hiA]; grind
        · right; refine ⟨d, by omega, ?_⟩; simp only [posI, loA, hiA]; grind
  · intro z hz
    unfold ParOK
    by_cases e : z = n
    · subst e; right; exact ⟨b, by omega, n3, .inr hb2'⟩
    · have pz := T.par z (by omega)
      unfold ParOK at pz
      rcases pz with pz | ⟨q, hq, pz⟩
      · left; grind
      · right; refine ⟨q, by omega, ?_⟩; grind
  · have hr := T.root
    unfold RootOK at hr ⊢
    rcases hr with hr | ⟨r, hr⟩
    · omega
    · right; refine ⟨r, by omega, ?_⟩; simp only [loA, hiA]; grind

/-- x = n hangs as the left child of y, which lies at place p. -/
theorem Tree.insB {n : Nat} {F F' : Nat → Nat → Int} {root : Int} {pos lo hi : Nat → Nat} (T : Tree n F root pos lo hi) (y p : Nat) (hy : y < n) (hpy : p = pos y) (hinj : ∀ x y : Nat, x < n → y < n → pos x = pos y → x = y)
    (hy1 : F y 1 = -1) (h1 : ∀ a : Nat, a < n → a ≠ y → F' a 1 = F a 1) (h2 : ∀ a : Nat, a < n → F' a 2 = F a 2) (hy1' : F' y 1 = (n : Int)) (h3 : ∀ a : Nat, a < n → F' a 3 = F a 3)
    (n1 : F' n 1 = -1) (n2 : F' n 2 = -1) (n3 : F' n 3 = (y : Int)) :
    Tree (n + 1) F' root (posI n p pos) (loB n p lo) (hiB n p hi) := by
  have bb := T.bd y hy
  have ly := T.left y hy
  have hhb : lo y = p := by unfold LeftOK at ly; grind
  constructor
  · intro z hz
    by_cases e : z = n
    · subst e; simp only [posI, loB, hiB, if_true]; omega
    · have bz := T.bd z (by omega)
      by_cases ezy : z = y
      · subst ezy; simp only [posI, loB, hiB]; grind
      · have hne : pos z ≠ pos y := fun h => ezy (hinj z y (by omega) hy h)
        simp only [posI, loB, hiB]; grind
  · intro z hz
    unfold LeftOK
    by_cases e : z = n
    · subst e; left; simp only [posI, loB, if_true]; exact ⟨n1, trivial⟩
    · have hz' : z < n := by omega
      have bz := T.bd z hz'
      have lz := T.left z hz'
      by_cases ezy : z = y
      · subst ezy; right; refine ⟨n, by omega, ?_⟩; simp only [posI, loB, hiB]; grind
      · have hne : pos z ≠ pos y := fun h => ezy (hinj z y hz' hy h)
        unfold LeftOK at lz
        rcases lz with lz | ⟨d, hd, lz⟩
        · left; simp only [posI, loB]; grind
        · right; refine ⟨d, by omega, ?_⟩; simp only [posI, loB, hiB]; grind
  · intro z hz
    unfold RightOK
    by_cases e : z = n
    · subst e; left; simp only [posI, hiB, if_true]; exact ⟨n2, trivial⟩
    · have hz' : z < n := by omega
      have bz := T.bd z hz'
      have rz := T.right z hz'
      unfold RightOK at rz
      rcases rz with rz | ⟨d, hd, rz⟩
      · left; simp only [posI, hiB]; grind
      · right; refine ⟨d, by omega, ?_⟩; simp only [posI, loB, hiB]; grind
  · intro z hz
    unfold ParOK
    by_cases e : z = n
    · subst e; right; exact ⟨y, by omega, n3, .inl hy1'⟩
    · have pz := T.par z (by omega)
      unfold ParOK at pz
      rcases pz with pz | ⟨q, hq, pz⟩
      · left; grind
      · right; refine ⟨q, by omega, ?_⟩; grind
  · have hr := T.root
    unfold RootOK at hr ⊢
    rcases hr with hr | ⟨r, hr⟩
    · omega
    · right; refine ⟨r, by omega, ?_⟩; simp only [loB, hiB]; grind

end Go.Proofs.Qxb6600559a.Treap

/- The plain mathematics of RFC 3492's bias: no Go in sight. -/
namespace Go.Proofs.Qxb6605511a.Puny

/-- The tail's value of a small d. -/
def tail (d : Nat) : Nat := 36 * d / (d + 38)

def biasF : Nat → Nat → Nat
  | 0, d => tail d
  | f + 1, d => if d ≤ 455 then tail d else 36 + biasF f (d / 35)

def bias (d : Nat) : Nat := biasF d d

theorem biasF_big (f : Nat) : ∀ g d, d ≤ f → d ≤ g → biasF f d = biasF g d := by
  induction f with
  | zero => intro g d hf _; have : d = 0 := by omega
            subst this; cases g <;> simp [biasF]
  | succ f ih =>
    intro g d hf hg
    cases g with
    | zero => have : d = 0 := by omega
              subst this; simp [biasF]
    | succ g =>
      simp only [biasF]
      by_cases h : d ≤ 455
      · simp [h]
      · simp only [h, if_false]; rw [ih g (d / 35) (by omega) (by omega)]

theorem bias_small (d : Nat) (h : d ≤ 455) : bias d = tail d := by
  unfold bias; cases d <;> simp [biasF]; intro; omega

theorem bias_big (d : Nat) (h : 455 < d) : bias d = 36 + bias (d / 35) := by
  unfold bias
  rw [biasF_big d (d + 1) d (by omega) (by omega)]
  simp only [biasF]
  rw [if_neg (by omega), biasF_big d (d / 35) (d / 35) (by omega) (by omega)]

theorem tail_step : ∀ d, d < 455 → tail d ≤ tail (d + 1) := by decide +kernel
theorem tail_le : ∀ d, d < 456 → tail d ≤ 33 := by decide +kernel

theorem tail_mono (a b : Nat) (h : a ≤ b) (hb : b ≤ 455) : tail a ≤ tail b := by
  induction b with
  | zero => have : a = 0 := by omega
            subst this; exact Nat.le_refl _
  | succ b ih =>
    by_cases e : a = b + 1
    · subst e; exact Nat.le_refl _
    · exact Nat.le_trans (ih (by omega) (by omega)) (tail_step b (by omega))

theorem bias_mono (n : Nat) : ∀ a b, b ≤ n → a ≤ b → bias a ≤ bias b := by
  induction n with
  | zero => intro a b hb h; have : a = b := by omega
            subst this; exact Nat.le_refl _
  | succ n ih =>
    intro a b hb h
    by_cases h2 : b ≤ 455
    · rw [bias_small b h2, bias_small a (by omega)]; exact tail_mono a b h h2
    · rw [bias_big b (by omega)]
      by_cases h1 : a ≤ 455
      · rw [bias_small a h1]; have := tail_le a (by omega); omega
      · rw [bias_big a (by omega)]
        have := ih (a / 35) (b / 35) (by omega) (by omega)
        omega

theorem bias_thr (d : Nat) : 36 ≤ bias d ↔ 455 < d := by
  by_cases h : d ≤ 455
  · rw [bias_small d h]; have := tail_le d (by omega); omega
  · rw [bias_big d (by omega)]; omega

/-- The damped delta. -/
def damp (delta points : Int) (first : Bool) : Int :=
  (if first then delta / 700 else delta / 2) + (if first then delta / 700 else delta / 2) / points

/-- What punyAdapt answers. -/
def adapt (delta points : Int) (first : Bool) : Int := (bias (damp delta points first).toNat : Int)

theorem pre_nonneg (delta : Int) (first : Bool) (h : 0 ≤ delta) : 0 ≤ (if first then delta / 700 else delta / 2) := by
  cases first <;> simp <;> omega

theorem div_bd (d p : Int) (h : 0 ≤ d) (hp : 1 ≤ p) : 0 ≤ d / p ∧ d / p ≤ d :=
  ⟨Int.ediv_nonneg h (by omega), Int.ediv_le_self p h⟩

theorem damp_bd (delta points : Int) (first : Bool) (h : 0 ≤ delta) (hp : 1 ≤ points) : 0 ≤ damp delta points first ∧ damp delta points first ≤ delta := by
  unfold damp
  have h1 := pre_nonneg delta first h
  have h2 := div_bd _ points h1 hp
  refine ⟨by omega, ?_⟩
  have : (if first then delta / 700 else delta / 2) ≤ delta / 2 := by cases first <;> simp <;> omega
  omega

theorem pre_mono (a b : Int) (first : Bool) (h : a ≤ b) : (if first then a / 700 else a / 2) ≤ (if first then b / 700 else b / 2) := by
  cases first <;> simp <;> omega

theorem damp_mono (a b points : Int) (first : Bool) (_ha : 0 ≤ a) (h : a ≤ b) (hp : 1 ≤ points) : damp a points first ≤ damp b points first := by
  unfold damp
  have h1 := pre_mono a b first h
  have h2 := Int.ediv_le_ediv (show (0 : Int) < points by omega) h1
  omega

theorem div_anti (d p q : Int) (hd : 0 ≤ d) (hp : 1 ≤ p) (h : p ≤ q) : d / q ≤ d / p := by
  obtain ⟨d, rfl⟩ := Int.eq_ofNat_of_zero_le hd
  obtain ⟨p, rfl⟩ := Int.eq_ofNat_of_zero_le (show 0 ≤ p by omega)
  obtain ⟨q, rfl⟩ := Int.eq_ofNat_of_zero_le (show 0 ≤ q by omega)
  have := Nat.div_le_div_left (a := d) (show p ≤ q by omega) (by omega)
  exact_mod_cast this

theorem damp_points (a p q : Int) (first : Bool) (ha : 0 ≤ a) (hp : 1 ≤ p) (h : p ≤ q) : damp a q first ≤ damp a p first := by
  unfold damp
  have := div_anti _ p q (pre_nonneg a first ha) hp h
  omega

theorem damp_first (a p : Int) (ha : 0 ≤ a) (hp : 1 ≤ p) : damp a p true ≤ damp a p false := by
  unfold damp
  simp only [if_true, Bool.false_eq_true, if_false]
  have h1 : a / 700 ≤ a / 2 := by omega
  have h2 := Int.ediv_le_ediv (show (0 : Int) < p by omega) h1
  omega

theorem adapt_of (a b p q : Int) (f g : Bool) (h : damp a p f ≤ damp b q g) : adapt a p f ≤ adapt b q g := by
  unfold adapt
  have := bias_mono (damp b q g).toNat (damp a p f).toNat (damp b q g).toNat (Nat.le_refl _) (by omega)
  exact_mod_cast this

theorem adapt_nonneg (a p : Int) (f : Bool) : 0 ≤ adapt a p f := by unfold adapt; omega

theorem adapt_thr (a p : Int) (f : Bool) : (decide (36 ≤ adapt a p f) == decide (455 < damp a p f)) = true := by
  have h := bias_thr (damp a p f).toNat
  have : (36 ≤ adapt a p f) ↔ (455 < damp a p f) := by unfold adapt; omega
  simp [this]

end Go.Proofs.Qxb6605511a.Puny

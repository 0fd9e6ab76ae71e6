import Derived.Test.Qxb6600559aTreap5
/- What the code's five ways of hanging in a new node come to. Plain. -/
namespace Go.Proofs.Qxb6600559a.Treap

/-- The fields of all nodes, a bare new node of priority p behind them. -/
def newF (F : Nat → Nat → Int) (n : Nat) (p : Int) : Nat → Nat → Int := fun i f =>
  if i = n then (if f = 6 then p else if f = 1 ∨ f = 2 ∨ f = 3 then -1 else 0) else F i f
def bareF (F : Nat → Nat → Int) (n : Nat) (p : Int) : Nat → Nat → Int := upd (newF F n p) n 0 (n : Int)

theorem bareF_old (F : Nat → Nat → Int) (n : Nat) (p : Int) (a f : Nat) (h : a < n) : bareF F n p a f = F a f := by
  simp only [bareF, upd_at, newF]; grind
theorem bareF_new (F : Nat → Nat → Int) (n : Nat) (p : Int) (f : Nat) : bareF F n p n f = if f = 6 then p else if f = 1 ∨ f = 2 ∨ f = 3 then -1 else if f = 0 then (n : Int) else 0 := by
  simp only [bareF, upd_at, newF]; grind

def Linked (n p : Nat) (F1 : Nat → Nat → Int) (root1 top1 : Int) (ls pos : Nat → Nat) : Prop :=
  ∃ lo' hi', Inv (n + 1) F1 root1 top1 (lsI n p ls) (posI n p pos) lo' hi' ∧ HeapX (n + 1) F1 n

section
variable {n : Nat} {F : Nat → Nat → Int} {root top : Int} {ls pos lo hi : Nat → Nat}

theorem link_empty (s : Int) (_I : Inv 0 F root top ls pos lo hi) :
    Linked 0 0 (upd (upd (bareF F 0 s) 0 4 (-1)) 0 5 (-1)) 0 0 ls pos := by
  have B := bareF_new F 0 s
  refine ⟨fun _ => 0, fun _ => 1, ⟨⟨?_, ?_, ?_, ?_, ?_⟩, ?_, ?_, ?_, ?_, ?_, ?_⟩, ?_, ?_⟩
  · intro x hx; have : x = 0 := by omega
    subst this; simp [posI]
  · intro x hx; have : x = 0 := by omega
    subst this; left; simp [posI, upd_at, B]
  · intro x hx; have : x = 0 := by omega
    subst this; left; simp [posI, upd_at, B]
  · intro x hx; have : x = 0 := by omega
    subst this; left; simp [upd_at, B]
  · right; exact ⟨0, by omega, rfl, rfl, rfl, by simp [upd_at, B]⟩
  · intro i hi; have : i = 0 := by omega
    subst this; simp [lsI, posI]
  · intro x hx; have : x = 0 := by omega
    subst this; simp [lsI, posI]
  · intro i hi; have : i = 0 := by omega
    subst this; simp [lsI, upd_at]
  · intro i hi; have : i = 0 := by omega
    subst this; simp [lsI, upd_at]
  · simp [lsI]
  · intro x hx; have : x = 0 := by omega
    subst this; simp [upd_at, B]
  · intro z q hz hq hne; omega
  · intro c q hc hq e1 e2
    have : c = 0 := by omega
    subst this
    have : q = 0 := by omega
    subst this
    omega

/-- At the top, below it b = ls (n - 1). -/
theorem link_top (s : Int) (I : Inv n F root top ls pos lo hi) (H : Heap n F) (hn : 0 < n) (b : Nat) (hb : b = ls (n - 1)) :
    Linked n n (upd (upd (upd (upd (upd (bareF F n s) b 2 (n : Int)) n 3 (b : Int)) n 4 (b : Int)) n 5 (-1)) b 5 (n : Int)) root (n : Int) ls pos := by
  have hbn : b < n := by rw [hb]; exact (I.lsl (n - 1) (by omega)).1
  have hpb : n = pos b + 1 := by rw [hb, (I.lsl (n - 1) (by omega)).2]; omega
  have b2 : F b 2 = -1 := by rw [hb]; exact I.lastNoRight hn
  have O := fun a f h => bareF_old F n s a f h
  have N := bareF_new F n s
  refine ⟨_, _, I.ins n (Nat.le_refl _) ⟨?_, ?_, ?_, ?_, ?_, ?_, ?_, ?_⟩ (I.tree.insA b n hbn hpb I.inj b2 ?_ ?_ ?_ ?_ ?_ ?_ ?_), Heap.ins I.tree H ?_ ?_ ?_⟩
  all_goals try simp only [upd_at]
  all_goals grind

/-- Just below y = ls p, which has a left child: behind b = ls (p - 1). -/
theorem link_right (s : Int) (I : Inv n F root top ls pos lo hi) (H : Heap n F) (p : Nat) (hp : p < n) (b y : Nat) (hy : y = ls p) (hb : b = ls (p - 1)) (hl : F y 1 ≠ -1) :
    Linked n p (upd (upd (upd (upd (upd (upd (bareF F n s) b 2 (n : Int)) n 3 (b : Int)) n 4 (b : Int)) n 5 (y : Int)) b 5 (n : Int)) y 4 (n : Int)) root top ls pos := by
  obtain ⟨h0, b2⟩ := I.noRight p hp (by rw [← hy]; exact hl)
  rw [← hb] at b2
  have hbn : b < n := by rw [hb]; exact (I.lsl (p - 1) (by omega)).1
  have hyn : y < n := by rw [hy]; exact (I.lsl p hp).1
  have hpb : p = pos b + 1 := by rw [hb, (I.lsl (p - 1) (by omega)).2]; omega
  have hby : b ≠ y := by
    intro e
    have h1 := (I.lsl (p - 1) (by omega)).2
    have h2 := (I.lsl p hp).2
    rw [← hb] at h1
    rw [← hy, ← e] at h2
    omega
  have O := fun a f h => bareF_old F n s a f h
  have N := bareF_new F n s
  refine ⟨_, _, I.ins p (by omega) ⟨?_, ?_, ?_, ?_, ?_, ?_, ?_, ?_⟩ (I.tree.insA b p hbn hpb I.inj b2 ?_ ?_ ?_ ?_ ?_ ?_ ?_), Heap.ins I.tree H ?_ ?_ ?_⟩
  all_goals try simp only [upd_at]
  all_goals grind

/-- Just below y = ls 0, the lowest, which has no left child. -/
theorem link_first (s : Int) (I : Inv n F root top ls pos lo hi) (H : Heap n F) (hn : 0 < n) (y : Nat) (hy : y = ls 0) (hl : F y 1 = -1) :
    Linked n 0 (upd (upd (upd (upd (upd (bareF F n s) y 1 (n : Int)) n 3 (y : Int)) n 4 (-1)) n 5 (y : Int)) y 4 (n : Int)) root top ls pos := by
  have hyn : y < n := by rw [hy]; exact (I.lsl 0 hn).1
  have hpy : 0 = pos y := by rw [hy, (I.lsl 0 hn).2]
  have O := fun a f h => bareF_old F n s a f h
  have N := bareF_new F n s
  refine ⟨_, _, I.ins 0 (by omega) ⟨?_, ?_, ?_, ?_, ?_, ?_, ?_, ?_⟩ (I.tree.insB y 0 hyn hpy I.inj hl ?_ ?_ ?_ ?_ ?_ ?_ ?_), Heap.ins I.tree H ?_ ?_ ?_⟩
  all_goals try simp only [upd_at]
  all_goals grind

/-- Just below y = ls p, which has no left child; below it b = ls (p - 1). -/
theorem link_left (s : Int) (I : Inv n F root top ls pos lo hi) (H : Heap n F) (p : Nat) (h0 : 0 < p) (hp : p < n) (b y : Nat) (hy : y = ls p) (hb : b = ls (p - 1)) (hl : F y 1 = -1) :
    Linked n p (upd (upd (upd (upd (upd (upd (bareF F n s) y 1 (n : Int)) n 3 (y : Int)) n 4 (b : Int)) n 5 (y : Int)) b 5 (n : Int)) y 4 (n : Int)) root top ls pos := by
  have hbn : b < n := by rw [hb]; exact (I.lsl (p - 1) (by omega)).1
  have hyn : y < n := by rw [hy]; exact (I.lsl p hp).1
  have hpy : p = pos y := by rw [hy, (I.lsl p hp).2]
  have hby : b ≠ y := by
    intro e
    have h1 := (I.lsl (p - 1) (by omega)).2
    have h2 := (I.lsl p hp).2
    rw [← hb] at h1
    rw [← hy, ← e] at h2
    omega
  have O := fun a f h => bareF_old F n s a f h
  have N := bareF_new F n s
  refine ⟨_, _, I.ins p (by omega) ⟨?_, ?_, ?_, ?_, ?_, ?_, ?_, ?_⟩ (I.tree.insB y p hyn hpy I.inj hl ?_ ?_ ?_ ?_ ?_ ?_ ?_), Heap.ins I.tree H ?_ ?_ ?_⟩
  all_goals try simp only [upd_at]
  all_goals grind

end
end Go.Proofs.Qxb6600559a.Treap

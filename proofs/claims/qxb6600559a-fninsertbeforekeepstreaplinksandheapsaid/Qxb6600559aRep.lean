import Derived.Test.Qxb6600559aRows
import Derived.Test.Qxb6600559aTreap4
import Derived.WalkKit
import Derived.WalkSpells
import Derived.WalkSmall
import Derived.Outline
import Derived.BigRegion
import Derived.BigQuiet
import Derived.Deep.QuietTactic
namespace Go.Proofs.Qxb6600559a.Treap
open Go.RowKit

/-- A row of plain cells. -/
def RowAt (w : World) (b : Nat) (t : TypeId) (cs : Array Value) : Prop := w.heap[b]? = some (.cells cs t (0, 0))

theorem RowAt.cell {w : World} {b : Nat} {t : TypeId} {cs : Array Value} (h : RowAt w b t cs) (j : Nat) : w.cell? ⟨b, j, none⟩ = cs[j]? := by
  unfold RowAt at h; simp [World.cell?, h]
theorem RowAt.frozen {w : World} {b : Nat} {t : TypeId} {cs : Array Value} (h : RowAt w b t cs) (j : Nat) : w.frozen? ⟨b, j, none⟩ = false := frozen_of_row w b j cs t h
theorem RowAt.lt {w : World} {b : Nat} {t : TypeId} {cs : Array Value} (h : RowAt w b t cs) : b < w.heap.size := by
  unfold RowAt at h
  rcases Nat.lt_or_ge b w.heap.size with h1 | h1
  · exact h1
  · rw [Array.getElem?_eq_none h1] at h; cases h
theorem RowAt.set {w : World} {b : Nat} {t : TypeId} {cs : Array Value} (h : RowAt w b t cs) (j : Nat) (v : Value) : RowAt (w.setCell ⟨b, j, none⟩ v) b t (cs.setIfInBounds j v) := heap_setCell_same w b j cs t v h
theorem RowAt.other {w : World} {b : Nat} {t : TypeId} {cs : Array Value} (h : RowAt w b t cs) {a : Addr} (ne : b ≠ a.block) (v : Value) : RowAt (w.setCell a v) b t cs := (heap_setCell_other w a b v ne).trans h
theorem RowAt.alloc {w : World} {b : Nat} {t : TypeId} {cs : Array Value} (h : RowAt w b t cs) (o : Obj) : RowAt (w.alloc o) b t cs := (Below.heap_alloc w o b h.lt).trans h
theorem RowAt.drew {w : World} {b : Nat} {t : TypeId} {cs : Array Value} (h : RowAt w b t cs) : RowAt w.drew b t cs := h
theorem RowAt.drewN {w : World} {b : Nat} {t : TypeId} {cs : Array Value} (h : RowAt w b t cs) (n : Nat) : RowAt (w.drewN n) b t cs := h
theorem RowAt.new (w : World) (t : TypeId) (cs : Array Value) : RowAt (w.alloc (.cells cs t)) w.heap.size t cs := by
  unfold RowAt
  show (w.heap.push (.cells cs t))[w.heap.size]? = _
  simp

/-- Blocks of another kind are other blocks. -/
theorem RowAt.ne {w : World} {b b' : Nat} {t t' : TypeId} {cs cs' : Array Value} (h : RowAt w b t cs) (h' : RowAt w b' t' cs') (ht : t ≠ t') : b ≠ b' := by
  intro e; subst e
  unfold RowAt at h h'
  rw [h] at h'
  simp only [Option.some.injEq, Obj.cells.injEq] at h'
  exact ht h'.2.1

/-- What the status's methods may have turned: the status itself (B), the table of edges (A), and rows of nodes (type 66) of the call's own. -/
structure Frame (base B A : Nat) (w w' : World) : Prop where
  os : w'.os = w.os
  tape : w'.tape = w.tape
  output : w'.output = w.output
  size : w.heap.size ≤ w'.heap.size
  block : ∀ k, k < w.heap.size → k ≠ B → k ≠ A → (k < base ∨ ∀ cs mk, w.heap[k]? ≠ some (.cells cs 66 mk)) → w'.heap[k]? = w.heap[k]?

theorem Frame.refl (base B A : Nat) (w : World) : Frame base B A w w := ⟨rfl, rfl, rfl, Nat.le_refl _, fun _ _ _ _ _ => rfl⟩
theorem Frame.trans {base B A : Nat} {a b c : World} (h : Frame base B A a b) (k : Frame base B A b c) : Frame base B A a c :=
  ⟨k.os.trans h.os, k.tape.trans h.tape, k.output.trans h.output, Nat.le_trans h.size k.size, fun i hi h1 h2 h3 => by
    have e := h.block i hi h1 h2 h3
    rw [k.block i (Nat.lt_of_lt_of_le hi h.size) h1 h2 (by rw [e]; exact h3), e]⟩
theorem Frame.drew {base B A : Nat} {a w : World} (h : Frame base B A a w) : Frame base B A a w.drew := ⟨h.os, h.tape, h.output, h.size, h.block⟩
theorem Frame.drewN {base B A : Nat} {a w : World} (h : Frame base B A a w) (n : Nat) : Frame base B A a (w.drewN n) := ⟨h.os, h.tape, h.output, h.size, h.block⟩
theorem Frame.alloc {base B A : Nat} {a w : World} (h : Frame base B A a w) (o : Obj) : Frame base B A a (w.alloc o) :=
  h.trans ⟨rfl, rfl, rfl, by simp, fun k hk _ _ _ => Below.heap_alloc _ _ _ hk⟩
theorem Frame.set {base B A : Nat} {a w : World} (h : Frame base B A a w) {p : Addr} (hp : p.block = B ∨ p.block = A ∨ (base ≤ p.block ∧ ∃ cs, RowAt w p.block 66 cs)) (v : Value) : Frame base B A a (w.setCell p v) :=
  h.trans ⟨rfl, rfl, rfl, by simp [World.setCell], fun k _ h1 h2 h3 => heap_setCell_other w p k v (by
    intro e; subst e
    rcases hp with hp | hp | ⟨hp, cs, hr⟩
    · exact h1 hp
    · exact h2 hp
    · rcases h3 with h3 | h3
      · omega
      · exact h3 cs (0, 0) hr)⟩
theorem Frame.row {base B A : Nat} {w w' : World} (h : Frame base B A w w') {b : Nat} {t : TypeId} {cs : Array Value} (hr : RowAt w b t cs) (hB : b ≠ B) (hA : b ≠ A) (ht : b < base ∨ t ≠ 66) : RowAt w' b t cs := by
  unfold RowAt at hr ⊢
  rw [h.block b (RowAt.lt hr) hB hA (by
    rcases ht with ht | ht
    · exact .inl ht
    · right; intro cs' mk e; rw [hr] at e; simp only [Option.some.injEq, Obj.cells.injEq] at e; exact ht e.2.1)]
  exact hr
theorem Frame.below {base B A : Nat} {w w' : World} (h : Frame base B A w w') (hB : base ≤ B) (hA : base ≤ A) (hb : base ≤ w.heap.size) : Below base w w' :=
  ⟨h.os, h.tape, h.output, h.size, fun k hk => h.block k (by omega) (by omega) (by omega) (.inl hk)⟩

/-- Field f's value as Go holds it. -/
def val (f : Nat) (v : Int) : Value := if f = 6 then .int .u32 v else .int .i32 v

def NodesIn (w : World) (g n cap : Nat) (F : Nat → Nat → Int) : Prop :=
  ∃ cur, RowAt w g 66 cur ∧ cur.size = cap * 7 ∧ n ≤ cap ∧ cap ≤ maxLen ∧ ∀ i f, i < n → f < 7 → cur[i * 7 + f]? = some (val f (F i f))

theorem NodesIn.cell {w : World} {g n cap : Nat} {F : Nat → Nat → Int} (h : NodesIn w g n cap F) (i f : Nat) (hi : i < n) (hf : f < 7) : w.cell? ⟨g, i * 7 + f, none⟩ = some (val f (F i f)) := by
  obtain ⟨cur, h1, _, _, _, h2⟩ := h
  rw [h1.cell]; exact h2 i f hi hf
theorem NodesIn.frozen {w : World} {g n cap : Nat} {F : Nat → Nat → Int} (h : NodesIn w g n cap F) (o : Nat) : w.frozen? ⟨g, o, none⟩ = false := by
  obtain ⟨cur, h1, _⟩ := h
  exact h1.frozen o
theorem NodesIn.set {w : World} {g n cap : Nat} {F : Nat → Nat → Int} (h : NodesIn w g n cap F) (i f : Nat) (hi : i < n) (hf : f < 7) (v : Int) : NodesIn (w.setCell ⟨g, i * 7 + f, none⟩ (val f v)) g n cap (upd F i f v) := by
  obtain ⟨cur, h1, h2, h3, h4, h5⟩ := h
  refine ⟨_, h1.set _ _, by simpa using h2, h3, h4, fun i' f' hi' hf' => ?_⟩
  rw [Array.getElem?_setIfInBounds]
  by_cases e : i * 7 + f = i' * 7 + f'
  · have e1 : i' = i := by omega
    have e2 : f' = f := by omega
    subst e1; subst e2
    rw [if_pos e, if_pos (by omega)]
    simp [upd]
  · rw [if_neg e, h5 i' f' hi' hf']
    have : ¬ (i' = i ∧ f' = f) := by rintro ⟨rfl, rfl⟩; exact e rfl
    simp [upd, this]
theorem NodesIn.other {w : World} {g n cap : Nat} {F : Nat → Nat → Int} (h : NodesIn w g n cap F) {a : Addr} (ne : g ≠ a.block) (v : Value) : NodesIn (w.setCell a v) g n cap F := by
  obtain ⟨cur, h1, h2⟩ := h
  exact ⟨cur, h1.other ne v, h2⟩

def AtIn (w : World) (A m : Nat) (at' : Nat → Int) : Prop :=
  ∃ cur, RowAt w A 21 cur ∧ cur.size = m ∧ ∀ e, e < m → cur[e]? = some (.int .i32 (at' e))
theorem AtIn.cell {w : World} {A m : Nat} {at' : Nat → Int} (h : AtIn w A m at') (e : Nat) (he : e < m) : w.cell? ⟨A, e, none⟩ = some (.int .i32 (at' e)) := by
  obtain ⟨cur, h1, _, h2⟩ := h
  rw [h1.cell]; exact h2 e he
theorem AtIn.frozen {w : World} {A m : Nat} {at' : Nat → Int} (h : AtIn w A m at') (o : Nat) : w.frozen? ⟨A, o, none⟩ = false := by
  obtain ⟨cur, h1, _⟩ := h
  exact h1.frozen o
theorem AtIn.set {w : World} {A m : Nat} {at' : Nat → Int} (h : AtIn w A m at') (e : Nat) (v : Int) : AtIn (w.setCell ⟨A, e, none⟩ (.int .i32 v)) A m (fun i => if i = e then v else at' i) := by
  obtain ⟨cur, h1, h2, h3⟩ := h
  refine ⟨_, h1.set _ _, by simpa using h2, fun i hi => ?_⟩
  rw [Array.getElem?_setIfInBounds]
  by_cases ei : e = i
  · subst ei; rw [if_pos rfl, if_pos (by omega)]; simp
  · have ei' : ¬ i = e := fun h => ei (Eq.symm h)
    rw [if_neg ei, h3 i hi]; simp [ei']
theorem AtIn.other {w : World} {A m : Nat} {at' : Nat → Int} (h : AtIn w A m at') {a : Addr} (ne : A ≠ a.block) (v : Value) : AtIn (w.setCell a v) A m at' := by
  obtain ⟨cur, h1, h2⟩ := h
  exact ⟨cur, h1.other ne v, h2⟩

/-- The status's own six cells. -/
def stCells (nv : Value) (root top : Int) (A m : Nat) (s : Int) : Array Value :=
  #[nv, .int .i32 root, .int .i32 top, .slice none 0 0, .slice (some ⟨A, 0, none⟩) m m, .int .u32 s]

/-- The status in memory, with at least one node. -/
structure Rep (w : World) (base B A g m n cap : Nat) (F : Nat → Nat → Int) (root top : Int) (at' : Nat → Int) (s : Int) : Prop where
  bB : base ≤ B
  bA : base ≤ A
  bg : base ≤ g
  st : RowAt w B 64 (stCells (.slice (some ⟨g, 0, none⟩) n cap) root top A m s)
  nd : NodesIn w g n cap F
  at_ : AtIn w A m at'

section
variable {w : World} {base B A g m n cap : Nat} {F : Nat → Nat → Int} {root top : Int} {at' : Nat → Int} {s : Int}

theorem Rep.gB (h : Rep w base B A g m n cap F root top at' s) : g ≠ B := by obtain ⟨cur, h1, _⟩ := h.nd; exact h1.ne h.st (by decide)
theorem Rep.gA (h : Rep w base B A g m n cap F root top at' s) : g ≠ A := by obtain ⟨cur, h1, _⟩ := h.nd; obtain ⟨cur2, h2, _⟩ := h.at_; exact h1.ne h2 (by decide)
theorem Rep.AB (h : Rep w base B A g m n cap F root top at' s) : A ≠ B := by obtain ⟨cur, h1, _⟩ := h.at_; exact h1.ne h.st (by decide)

theorem Rep.c0 (h : Rep w base B A g m n cap F root top at' s) : w.cell? ⟨B, 0, none⟩ = some (.slice (some ⟨g, 0, none⟩) n cap) := h.st.cell 0
theorem Rep.c1 (h : Rep w base B A g m n cap F root top at' s) : w.cell? ⟨B, 1, none⟩ = some (.int .i32 root) := h.st.cell 1
theorem Rep.c2 (h : Rep w base B A g m n cap F root top at' s) : w.cell? ⟨B, 2, none⟩ = some (.int .i32 top) := h.st.cell 2
theorem Rep.c3 (h : Rep w base B A g m n cap F root top at' s) : w.cell? ⟨B, 3, none⟩ = some (.slice none 0 0) := h.st.cell 3
theorem Rep.c4 (h : Rep w base B A g m n cap F root top at' s) : w.cell? ⟨B, 4, none⟩ = some (.slice (some ⟨A, 0, none⟩) m m) := h.st.cell 4
theorem Rep.c5 (h : Rep w base B A g m n cap F root top at' s) : w.cell? ⟨B, 5, none⟩ = some (.int .u32 s) := h.st.cell 5
theorem Rep.fB (h : Rep w base B A g m n cap F root top at' s) (o : Nat) : w.frozen? ⟨B, o, none⟩ = false := h.st.frozen o

theorem Rep.setNode (h : Rep w base B A g m n cap F root top at' s) (i f : Nat) (hi : i < n) (hf : f < 7) (v : Int) : Rep (w.setCell ⟨g, i * 7 + f, none⟩ (val f v)) base B A g m n cap (upd F i f v) root top at' s :=
  ⟨h.bB, h.bA, h.bg, h.st.other h.gB.symm _, h.nd.set i f hi hf v, h.at_.other h.gA.symm _⟩
theorem Rep.setRoot (h : Rep w base B A g m n cap F root top at' s) (v : Int) : Rep (w.setCell ⟨B, 1, none⟩ (.int .i32 v)) base B A g m n cap F v top at' s :=
  ⟨h.bB, h.bA, h.bg, h.st.set 1 _, h.nd.other h.gB _, h.at_.other h.AB _⟩
theorem Rep.setTop (h : Rep w base B A g m n cap F root top at' s) (v : Int) : Rep (w.setCell ⟨B, 2, none⟩ (.int .i32 v)) base B A g m n cap F root v at' s :=
  ⟨h.bB, h.bA, h.bg, h.st.set 2 _, h.nd.other h.gB _, h.at_.other h.AB _⟩
theorem Rep.setAt (h : Rep w base B A g m n cap F root top at' s) (e : Nat) (v : Int) : Rep (w.setCell ⟨A, e, none⟩ (.int .i32 v)) base B A g m n cap F root top (fun i => if i = e then v else at' i) s :=
  ⟨h.bB, h.bA, h.bg, h.st.other h.AB.symm _, h.nd.other h.gA _, h.at_.set e v⟩
theorem Rep.drew (h : Rep w base B A g m n cap F root top at' s) : Rep w.drew base B A g m n cap F root top at' s := ⟨h.bB, h.bA, h.bg, h.st, h.nd, h.at_⟩
theorem Rep.drewN (h : Rep w base B A g m n cap F root top at' s) (k : Nat) : Rep (w.drewN k) base B A g m n cap F root top at' s := ⟨h.bB, h.bA, h.bg, h.st, h.nd, h.at_⟩
theorem Rep.congr {F' : Nat → Nat → Int} (h : Rep w base B A g m n cap F root top at' s) (e : ∀ i f, i < n → f < 7 → F i f = F' i f) : Rep w base B A g m n cap F' root top at' s := by
  obtain ⟨cur, h1, h2, h3, h4, h5⟩ := h.nd
  exact ⟨h.bB, h.bA, h.bg, h.st, ⟨cur, h1, h2, h3, h4, fun i f hi hf => by rw [h5 i f hi hf, e i f hi hf]⟩, h.at_⟩
theorem Rep.row66 (h : Rep w base B A g m n cap F root top at' s) : ∃ cs, RowAt w g 66 cs := by obtain ⟨cur, h1, _⟩ := h.nd; exact ⟨cur, h1⟩
end

/-- The status in w, and what has turned since a. -/
structure RF (a w : World) (base B A g m n cap : Nat) (F : Nat → Nat → Int) (root top : Int) (at' : Nat → Int) (s : Int) : Prop where
  rep : Rep w base B A g m n cap F root top at' s
  frame : Frame base B A a w

section
variable {a w : World} {base B A g m n cap : Nat} {F : Nat → Nat → Int} {root top : Int} {at' : Nat → Int} {s : Int}
theorem Rep.rf (h : Rep w base B A g m n cap F root top at' s) : RF w w base B A g m n cap F root top at' s := ⟨h, Frame.refl _ _ _ _⟩
theorem RF.setNode (h : RF a w base B A g m n cap F root top at' s) (i f : Nat) (hi : i < n) (hf : f < 7) (v : Int) : RF a (w.setCell ⟨g, i * 7 + f, none⟩ (val f v)) base B A g m n cap (upd F i f v) root top at' s :=
  ⟨h.rep.setNode i f hi hf v, h.frame.set (p := ⟨g, i * 7 + f, none⟩) (.inr (.inr ⟨h.rep.bg, h.rep.row66⟩)) _⟩
theorem RF.setRoot (h : RF a w base B A g m n cap F root top at' s) (v : Int) : RF a (w.setCell ⟨B, 1, none⟩ (.int .i32 v)) base B A g m n cap F v top at' s :=
  ⟨h.rep.setRoot v, h.frame.set (p := ⟨B, 1, none⟩) (.inl rfl) _⟩
theorem RF.setTop (h : RF a w base B A g m n cap F root top at' s) (v : Int) : RF a (w.setCell ⟨B, 2, none⟩ (.int .i32 v)) base B A g m n cap F root v at' s :=
  ⟨h.rep.setTop v, h.frame.set (p := ⟨B, 2, none⟩) (.inl rfl) _⟩
theorem RF.setAt (h : RF a w base B A g m n cap F root top at' s) (e : Nat) (v : Int) : RF a (w.setCell ⟨A, e, none⟩ (.int .i32 v)) base B A g m n cap F root top (fun i => if i = e then v else at' i) s :=
  ⟨h.rep.setAt e v, h.frame.set (p := ⟨A, e, none⟩) (.inr (.inl rfl)) _⟩
theorem RF.drew (h : RF a w base B A g m n cap F root top at' s) : RF a w.drew base B A g m n cap F root top at' s := ⟨h.rep.drew, h.frame.drew⟩
theorem RF.drewN (h : RF a w base B A g m n cap F root top at' s) (k : Nat) : RF a (w.drewN k) base B A g m n cap F root top at' s := ⟨h.rep.drewN k, h.frame.drewN k⟩
theorem RF.congr {F' : Nat → Nat → Int} (h : RF a w base B A g m n cap F root top at' s) (e : ∀ i f, i < n → f < 7 → F i f = F' i f) : RF a w base B A g m n cap F' root top at' s := ⟨h.rep.congr e, h.frame⟩
theorem RF.trans {b : World} {g' m' n' cap' : Nat} {F' : Nat → Nat → Int} {root' top' : Int} {at2 : Nat → Int} {s' : Int} (h : RF a w base B A g m n cap F root top at' s) (k : RF w b base B A g' m' n' cap' F' root' top' at2 s') : RF a b base B A g' m' n' cap' F' root' top' at2 s' :=
  ⟨k.rep, h.frame.trans k.frame⟩
end

end Go.Proofs.Qxb6600559a.Treap

import Derived.Test.Qxb6600559aRotInv
import Derived.Test.Qxb6600559aTreap6
import Derived.Deep.RegionLaw
namespace Go.Proofs.Qxb6600559a.Treap
open Go.RowKit

/-- The status in memory, with no node or with some. -/
structure Pre (w : World) (base B A m n : Nat) (nv : Value) (xs : List Value) (F : Nat → Nat → Int) (root top : Int) (at' : Nat → Int) (s : Int) : Prop where
  bB : base ≤ B
  bA : base ≤ A
  st : RowAt w B 64 (stCells nv root top A m s)
  own : w.ownsRow base 66 7 nv n xs
  cells : ∀ i f, i < n → f < 7 → xs[i * 7 + f]? = some (val f (F i f))
  at_ : AtIn w A m at'

theorem Rep.pre {w : World} {base B A g m n cap : Nat} {F : Nat → Nat → Int} {root top : Int} {at' : Nat → Int} {s : Int} (h : Rep w base B A g m n cap F root top at' s) :
    ∃ xs, Pre w base B A m n (.slice (some ⟨g, 0, none⟩) n cap) xs F root top at' s := by
  obtain ⟨cur, h1, h2, h3, h4, h5⟩ := h.nd
  have hlen : (cur.toList.take (n * 7)).length = n * 7 := by
    rw [List.length_take, Array.length_toList, h2]
    have : n * 7 ≤ cap * 7 := Nat.mul_le_mul_right 7 h3
    omega
  refine ⟨cur.toList.take (n * 7), h.bB, h.bA, h.st, ⟨hlen, .inr ⟨g, cap, cur, rfl, h.bg, h1, h3, h4, h2, rfl⟩⟩, fun i f hi hf => ?_, h.at_⟩
  rw [List.getElem?_take_of_lt (by omega), Array.getElem?_toList]
  exact h5 i f hi hf

theorem step_append_own {P : Program} {ops : Array Oper} {o : Oper} {a : Act} {w : World} {K : Act → World → Prop} {Q : Exit → Act → World → Prop} {E : Prop}
    (hg : o.guard = none) (s x : Operand) (t : TypeId) (hop : o.op = Op.call { callee := Callee.builtin Builtin.append, args := #[s, x], argTypes := #[t, t] })
    (base : Nat) (e : TypeId) (i : TypeInfo) (z : Value) (size bytes : Nat) (ht : P.underlying t = some (.slice e)) (hi : P.info? e = some i) (hz : i.zero = some z)
    (hsize : i.size = size) (hby : i.bytes = bytes) (hzs : z.cells.size = size) (hsz : 0 < size)
    (v : Value) (n : Nat) (xs : List Value) (hs : a.eval s = v) (hown : w.ownsRow base e size v n xs)
    (ad : Addr) (m c : Nat) (news : List Value) (hx : a.eval x = .slice (some ad) m c) (hl : news.length = m * size) (hnews : ∀ j u, news[j]? = some u → w.cell? (ad.add j) = some u) (h1 : ∀ u ∈ news, u.oneCell' = true)
    (h63 : n + m ≤ maxLen) (hbytes : (n + m) * bytes ≤ 140737488355328) (hbase : base ≤ w.heap.size)
    (hK : ∀ v' w', w'.ownsRow base e size v' (n + m) (xs ++ news) → w.grownBy w' v.ownBlock → (v' = .slice none 0 0 ↔ v = .slice none 0 0 ∧ m = 0) → K (a.put o.dst v') w') :
    if Region.wanted o (yielded ops a.tmps) = true then Oper.wp P o a w K Q else E := by
  have hw : Region.wanted o (yielded ops a.tmps) = true := by simp [Region.wanted, hg]
  rw [if_pos hw]
  exact wp_append_own w s x t hop base e i z size bytes ht hi hz hsize hby hzs hsz v n xs hs hown ad m c news hx hl hnews h1 h63 hbytes hbase hK

theorem info66 : (Try.prog.info? 66).map (fun i => (i.zero, i.size, i.bytes)) = some (some (.agg #[.int .i32 0, .int .i32 0, .int .i32 0, .int .i32 0, .int .i32 0, .int .i32 0, .int .u32 0]), 7, 28) := by kernel_rfl

section
variable {a w : World} {base B A m n : Nat} {nv : Value} {xs : List Value} {F : Nat → Nat → Int} {root top : Int} {at' : Nat → Int} {s : Int}

theorem Pre.AB (h : Pre w base B A m n nv xs F root top at' s) : A ≠ B := by obtain ⟨cur, h1, _⟩ := h.at_; exact h1.ne h.st (by decide)
theorem Pre.ownB (h : Pre w base B A m n nv xs F root top at' s) : nv.ownBlock ≠ some B := by
  intro e
  rcases h.own.2 with ⟨hv, _⟩ | ⟨g, cap, cur, hv, _, hr, _⟩
  · rw [hv] at e; cases e
  · rw [hv] at e
    have : g = B := by simpa [Value.ownBlock] using e
    subst this
    have hr' : RowAt w g 66 cur := hr
    exact hr'.ne h.st (by decide) rfl
theorem Pre.setSeed (h : Pre w base B A m n nv xs F root top at' s) (v : Int) : Pre (w.setCell ⟨B, 5, none⟩ (.int .u32 v)) base B A m n nv xs F root top at' v :=
  ⟨h.bB, h.bA, h.st.set 5 _, ownsRow_setCell_other h.own (a := ⟨B, 5, none⟩) h.ownB _, h.cells, h.at_.other h.AB _⟩
theorem Pre.drew (h : Pre w base B A m n nv xs F root top at' s) : Pre w.drew base B A m n nv xs F root top at' s := ⟨h.bB, h.bA, h.st, h.own.drew, h.cells, h.at_⟩
theorem AtIn.alloc {A m : Nat} {at' : Nat → Int} (h : AtIn w A m at') (o : Obj) : AtIn (w.alloc o) A m at' := by
  obtain ⟨cur, h1, h2⟩ := h
  exact ⟨cur, h1.alloc o, h2⟩
theorem Pre.alloc (h : Pre w base B A m n nv xs F root top at' s) (o : Obj) : Pre (w.alloc o) base B A m n nv xs F root top at' s := ⟨h.bB, h.bA, h.st.alloc o, h.own.alloc o, h.cells, h.at_.alloc o⟩

structure PF (a w : World) (base B A m n : Nat) (nv : Value) (xs : List Value) (F : Nat → Nat → Int) (root top : Int) (at' : Nat → Int) (s : Int) : Prop where
  pre : Pre w base B A m n nv xs F root top at' s
  frame : Frame base B A a w
theorem PF.setSeed (h : PF a w base B A m n nv xs F root top at' s) (v : Int) : PF a (w.setCell ⟨B, 5, none⟩ (.int .u32 v)) base B A m n nv xs F root top at' v := ⟨h.pre.setSeed v, h.frame.set (p := ⟨B, 5, none⟩) (.inl rfl) _⟩
theorem PF.drew (h : PF a w base B A m n nv xs F root top at' s) : PF a w.drew base B A m n nv xs F root top at' s := ⟨h.pre.drew, h.frame.drew⟩
theorem PF.alloc (h : PF a w base B A m n nv xs F root top at' s) (o : Obj) : PF a (w.alloc o) base B A m n nv xs F root top at' s := ⟨h.pre.alloc o, h.frame.alloc o⟩

def newCells (p : Int) : List Value := [.int .i32 0, .int .i32 (-1), .int .i32 (-1), .int .i32 (-1), .int .i32 0, .int .i32 0, .int .u32 p]

theorem grown_rep {ao : Option Addr} {cap g cap' : Nat} {w' : World} {p : Int} (H : PF a w base B A m n (.slice ao n cap) xs F root top at' s) (own' : w'.ownsRow base 66 7 (.slice (some ⟨g, 0, none⟩) (n + 1) cap') (n + 1) (xs ++ newCells p))
    (gr : w.grownBy w' (Value.slice ao n cap).ownBlock) : RF a (w'.setCell ⟨B, 0, none⟩ (.slice (some ⟨g, 0, none⟩) (n + 1) cap')) base B A g m (n + 1) cap' (newF F n p) root top at' s := by
  have hx : xs.length = n * 7 := H.pre.own.1
  have hrow : ∀ k, (Value.slice ao n cap).ownBlock = some k → base ≤ k ∧ ∃ cs, RowAt w k 66 cs := by
    intro k hk
    rcases H.pre.own.2 with ⟨hv, _⟩ | ⟨g0, cap0, cur, hv, hb, hr, _⟩
    · rw [hv] at hk; cases hk
    · rw [hv] at hk
      have : g0 = k := by simpa [Value.ownBlock] using hk
      subst this; exact ⟨hb, cur, hr⟩
  have hB' : RowAt w' B 64 (stCells (.slice ao n cap) root top A m s) := (gr.block B H.pre.st.lt (fun e => H.pre.ownB e.symm)).trans H.pre.st
  obtain ⟨ac, ha1, ha2, ha3⟩ := H.pre.at_
  have hA' : AtIn w' A m at' := by
    refine ⟨ac, (gr.block A ha1.lt (fun e => ?_)).trans ha1, ha2, ha3⟩
    obtain ⟨_, cs, hr⟩ := hrow A e.symm
    exact hr.ne ha1 (by decide) rfl
  obtain ⟨cur, hb, hr, h1, h2, h3, h4⟩ : ∃ cur, base ≤ g ∧ w'.heap[g]? = some (.cells cur 66 (0, 0)) ∧ n + 1 ≤ cap' ∧ cap' ≤ maxLen ∧ cur.size = cap' * 7 ∧ cur.toList.take ((n + 1) * 7) = xs ++ newCells p := by
    rcases own'.2 with ⟨hv, _⟩ | ⟨g1, cap1, cur, hv, hb, hr, h1, h2, h3, h4⟩
    · cases hv
    · simp only [Value.slice.injEq, Option.some.injEq, Addr.mk.injEq] at hv
      obtain ⟨⟨rfl, _, _⟩, _, rfl⟩ := hv
      exact ⟨cur, hb, hr, h1, h2, h3, h4⟩
  have hN : NodesIn w' g (n + 1) cap' (newF F n p) := by
    refine ⟨cur, hr, h3, h1, h2, fun i f hi hf => ?_⟩
    have e : cur[i * 7 + f]? = (xs ++ newCells p)[i * 7 + f]? := by
      rw [← h4, List.getElem?_take_of_lt (by omega), Array.getElem?_toList]
    rw [e]
    by_cases hin : i < n
    · rw [List.getElem?_append_left (by omega), H.pre.cells i f hin hf]
      simp [newF, show ¬ i = n by omega]
    · have hin' : i = n := by omega
      subst hin'
      rw [List.getElem?_append_right (by omega), hx, show i * 7 + f - i * 7 = f by omega]
      have : f = 0 ∨ f = 1 ∨ f = 2 ∨ f = 3 ∨ f = 4 ∨ f = 5 ∨ f = 6 := by omega
      rcases this with rfl | rfl | rfl | rfl | rfl | rfl | rfl <;> simp [newCells, newF, val]
  have hgB : g ≠ B := by have hr' : RowAt w' g 66 cur := hr; exact hr'.ne hB' (by decide)
  have hAB := H.pre.AB
  have fr : Frame base B A w w' := ⟨gr.os, gr.tape, gr.output, gr.size, fun k hk h1 h2 h3 => gr.block k hk (fun e => by
    obtain ⟨hbk, cs, hr⟩ := hrow k e.symm
    rcases h3 with h3 | h3
    · omega
    · exact h3 cs (0, 0) hr)⟩
  exact ⟨⟨H.pre.bB, H.pre.bA, hb, hB'.set 0 _, hN.other hgB _, hA'.other hAB _⟩, (H.frame.trans fr).set (p := ⟨B, 0, none⟩) (.inl rfl) _⟩

def NewPost (w w' : World) (base B A m n : Nat) (F : Nat → Nat → Int) (root top : Int) (at' : Nat → Int) (e : Nat) : Prop :=
  ∃ g cap' s', RF w w' base B A g m (n + 1) cap' (upd (newF F n s') n 0 (e : Int)) root top (fun i => if i = e then (n : Int) else at' i) s'

theorem own_some {w' : World} {v' : Value} {ys : List Value} (h : w'.ownsRow base 66 7 v' (n + 1) ys) : ∃ g cap', v' = .slice (some ⟨g, 0, none⟩) (n + 1) cap' := by
  rcases h.2 with ⟨_, h⟩ | ⟨g, cap', _, h, _⟩
  · omega
  · exact ⟨g, cap', h⟩
theorem grow_row {w' : World} (H : PF a w base B A m n nv xs F root top at' s) (gr : w.grownBy w' nv.ownBlock) : RowAt w' B 64 (stCells nv root top A m s) := (gr.block B H.pre.st.lt (fun e => H.pre.ownB e.symm)).trans H.pre.st

set_option maxHeartbeats 1000000 in
theorem newNode_any {ao : Option Addr} {cap : Nat} (h : Pre w base B A m n (.slice ao n cap) xs F root top at' s) (e : Nat) (he : e < m) (hn : n ≤ 50000) (hm : m ≤ 100000) :
    Calls Try.prog 27 #[.pointer (some ⟨B, 0, none⟩), .int .i32 (e : Int)] w fun e' w' => e' = .returned (.int .i32 (n : Int)) ∧ NewPost w w' base B A m n F root top at' e := by
  obtain ⟨i0, hi, hz0, hz1, hz2⟩ := info_parts info66
  have c0 : w.cell? ⟨B, 0, none⟩ = some (.slice ao n cap) := h.st.cell 0
  have c3 : w.cell? ⟨B, 3, none⟩ = some (.slice none 0 0) := h.st.cell 3
  have c5 : w.cell? ⟨B, 5, none⟩ = some (.int .u32 s) := h.st.cell 5
  have fB : ∀ o, w.frozen? ⟨B, o, none⟩ = false := h.st.frozen
  have H : PF w w base B A m n (.slice ao n cap) xs F root top at' s := ⟨h, Frame.refl _ _ _ _⟩
  clear h
  go_enter Try.func27, Try.ntmps27
  go_wp2_with fail
  go_big_region
  have H1 := fun v => (H.setSeed v).drew
  generalize bits BinOp.xor IntKind.u32 s (s * 8192 % 4294967296) = s1
  replace H1 := H1 s1
  generalize (w.setCell ⟨B, 5, none⟩ (.int .u32 s1)).drew = w1 at H1 ⊢
  clear c0 c3 c5 fB
  have c5 : w1.cell? ⟨B, 5, none⟩ = some (.int .u32 s1) := H1.pre.st.cell 5
  have fB : ∀ o, w1.frozen? ⟨B, o, none⟩ = false := H1.pre.st.frozen
  go_wp2_with fail
  go_big_region
  have H2 := fun v => (H1.setSeed v).drew
  generalize bits BinOp.xor IntKind.u32 s1 (s1 / 131072) = s2
  replace H2 := H2 s2
  generalize (w1.setCell ⟨B, 5, none⟩ (.int .u32 s2)).drew = w2 at H2 ⊢
  clear c5 fB H1
  have c5 : w2.cell? ⟨B, 5, none⟩ = some (.int .u32 s2) := H2.pre.st.cell 5
  have fB : ∀ o, w2.frozen? ⟨B, o, none⟩ = false := H2.pre.st.frozen
  go_wp2_with fail
  go_big_region
  have H3 := fun v => (H2.setSeed v).drew
  generalize bits BinOp.xor IntKind.u32 s2 (s2 * 32 % 4294967296) = s3
  replace H3 := H3 s3
  generalize (w2.setCell ⟨B, 5, none⟩ (.int .u32 s3)).drew = w3 at H3 ⊢
  clear c5 fB H2 H
  have c0 : w3.cell? ⟨B, 0, none⟩ = some (.slice ao n cap) := H3.pre.st.cell 0
  have c3 : w3.cell? ⟨B, 3, none⟩ = some (.slice none 0 0) := H3.pre.st.cell 3
  have c5 : w3.cell? ⟨B, 5, none⟩ = some (.int .u32 s3) := H3.pre.st.cell 5
  have fB : ∀ o, w3.frozen? ⟨B, o, none⟩ = false := H3.pre.st.frozen
  have hBl : B < w3.heap.size := H3.pre.st.lt
  have HH3 : Hid _ := H3
  clear H3
  go_wp2_with fail
  have H4 : PF w (w3.alloc (.cells #[.int .i32 0, .int .i32 (-1), .int .i32 (-1), .int .i32 (-1), .int .i32 0, .int .i32 0, .int .u32 s3] 66)) base B A m n (.slice ao n cap) xs F root top at' s3 := HH3.out.alloc _
  have H5 := (H4.alloc (.cells #[.int .i32 0, .int .i32 (-1), .int .i32 (-1), .int .i32 (-1), .int .i32 0, .int .i32 0, .int .u32 s3] 66)).drew
  have HH5 : Hid _ := H5
  clear H4 H5
  obtain ⟨W5, hW5⟩ : ∃ W5, W5 = ((w3.alloc (.cells #[.int .i32 0, .int .i32 (-1), .int .i32 (-1), .int .i32 (-1), .int .i32 0, .int .i32 0, .int .u32 s3] 66)).alloc (.cells #[.int .i32 0, .int .i32 (-1), .int .i32 (-1), .int .i32 (-1), .int .i32 0, .int .i32 0, .int .u32 s3] 66)).drew := ⟨_, rfl⟩
  have hnews : ∀ j u, (newCells s3)[j]? = some u → W5.cell? ((⟨w3.heap.size + 1, 0, none⟩ : Addr).add j) = some u := by
    intro j u hj
    have e : (⟨w3.heap.size + 1, 0, none⟩ : Addr).add j = ⟨w3.heap.size + 1, j, none⟩ := by unfold Addr.add; split <;> simp_all
    have hr := RowAt.new (w3.alloc (.cells #[.int .i32 0, .int .i32 (-1), .int .i32 (-1), .int .i32 (-1), .int .i32 0, .int .i32 0, .int .u32 s3] 66)) 66 #[.int .i32 0, .int .i32 (-1), .int .i32 (-1), .int .i32 (-1), .int .i32 0, .int .i32 0, .int .u32 s3]
    have hc := hr.drew.cell j
    rw [World.size_alloc] at hc
    rw [e, hW5, hc, ← hj]
    unfold newCells
    rw [← Array.getElem?_toList]
  have h1c : ∀ u ∈ newCells s3, u.oneCell' = true := by
    intro u hu
    simp only [newCells, List.mem_cons, List.not_mem_nil, or_false] at hu
    rcases hu with rfl | rfl | rfl | rfl | rfl | rfl | rfl <;> rfl
  have hbase : base ≤ W5.heap.size := by
    have h1 := HH3.out.pre.bB
    rw [hW5]; simp; omega
  have hBl5 : B < W5.heap.size := by rw [hW5]; simp; omega
  have H5 : PF w W5 base B A m n (.slice ao n cap) xs F root top at' s3 := by rw [hW5]; exact HH5.out
  have N1 : Hid _ := hnews
  have N2 : Hid _ := h1c
  have N3 : Hid _ := hbase
  have N4 : Hid (W5 = _) := hW5
  have N5 : Hid _ := H5
  clear hnews h1c hbase hW5 H5 HH5
  rw [N4.out] at N1 N3
  have N6 : Hid _ := N5.out
  rw [N4.out] at N6
  go_region_law (refine step_append_own rfl (.tmp 91) (.tmp 93) 62 rfl base 66 i0 _ 7 28 Try.underlying62 hi hz0 hz1 hz2 rfl (by decide) (.slice ao n cap) n xs (by simp [Act.eval]) (PF.pre N6.out).own ⟨w3.heap.size + 1, 0, none⟩ 1 1 (newCells s3) (by simp [Act.eval]) rfl N1.out N2.out (by unfold maxLen; omega) (by omega) N3.out ?_; intro v' w' hown hgrow hnz; obtain ⟨g, cap', hv⟩ := own_some hown; subst hv; have R := grown_rep N6.out hown hgrow; have k0 := (grow_row N6.out hgrow).cell 0; have k1 := (grow_row N6.out hgrow).frozen 0; have HR : Hid _ := R; clear hown hgrow hnz R; simp only [stCells, List.getElem?_toArray, List.getElem?_cons_zero] at k0)
  all_goals
    go_wp2_with fail
    refine (hold_any HR.out.rep n e (Nat.lt_succ_self n) he (Nat.succ_le_of_lt (Nat.lt_of_le_of_lt hn (by decide))) hm).mono ?_
    rintro e' w9 ⟨rfl, hr⟩
    have hr9 : NewPost w w9 base B A m n F root top at' e := ⟨_, _, _, HR.out.trans hr⟩
    clear hr
    go_wp2_with fail
    go_ret
    exact ⟨rfl, hr9⟩
end
end Go.Proofs.Qxb6600559a.Treap

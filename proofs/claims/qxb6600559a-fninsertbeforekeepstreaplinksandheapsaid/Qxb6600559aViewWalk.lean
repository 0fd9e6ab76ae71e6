import Derived.Test.Qxb6600559aView
namespace Go.Proofs.Qxb6600559a.Treap
open Go.RowKit

def ViewPost (w : World) (n N : Nat) (F : Nat → Nat → Int) (root top : Int) (at' : Nat → Int) (e : Ending) (w' : World) : Prop :=
  ∃ V C, e = .returned (.tuple #[.slice (some ⟨V, 0, none⟩) n n, .int .i32 root, .int .i32 top, .slice (some ⟨C, 0, none⟩) N N]) ∧ ViewIn w' V n n F ∧ IntsIn w' C N N at' ∧ Below w.heap.size w w'

section
variable {w : World} {base B A m n : Nat} {xs : List Value} {F : Nat → Nat → Int} {root top : Int} {at' : Nat → Int} {s : Int} {ao : Option Addr} {cap : Nat}

theorem Pre.node (h : Pre w base B A m n (.slice ao n cap) xs F root top at' s) (hn : 0 < n) : ∃ g, ao = some ⟨g, 0, none⟩ ∧ g < w.heap.size ∧ ∀ i f, i < n → f < 7 → w.cell? ⟨g, i * 7 + f, none⟩ = some (val f (F i f)) := by
  rcases h.own.2 with ⟨_, h3⟩ | ⟨g, cap1, cur, hv, _, hr, _, _, _, h4⟩
  · omega
  · simp only [Value.slice.injEq] at hv
    have hr' : RowAt w g 66 cur := hr
    refine ⟨g, hv.1, hr'.lt, fun i f hi hf => ?_⟩
    rw [hr'.cell, ← h.cells i f hi hf, ← h4, List.getElem?_take_of_lt (by omega), Array.getElem?_toList]

theorem size21 : (Try.prog.info? 21).map (·.size) = some 1 := by kernel_rfl
def atCells (m : Nat) (at' : Nat → Int) : List Value := (List.range m).map (fun i => .int .i32 (at' i))
theorem atCells_len (m : Nat) (at' : Nat → Int) : (atCells m at').length = Nat.min m m := by
  show _ = min m m
  simp [atCells]
theorem atCells_fit (m : Nat) (at' : Nat → Int) : 0 + (atCells m at').length ≤ (madeCells #[.int .i32 0] m).size := by simp [atCells, size_madeCells]
theorem atCells_one (m : Nat) (at' : Nat → Int) : ∀ v ∈ atCells m at', v.oneCell' = true := by
  intro v hv; simp only [atCells, List.mem_map] at hv; obtain ⟨i, _, rfl⟩ := hv; rfl
theorem copy_done (wr : World) (m : Nat) (at' : Nat → Int) :
    IntsIn ((wr.alloc (.cells (madeCells #[.int .i32 0] m) 21)).setRow wr.heap.size ((madeCells #[.int .i32 0] m).toList.take 0 ++ (atCells m at' ++ (madeCells #[.int .i32 0] m).toList.drop (0 + (atCells m at').length))).toArray) wr.heap.size m m at' ∧
    Below wr.heap.size wr ((wr.alloc (.cells (madeCells #[.int .i32 0] m) 21)).setRow wr.heap.size ((madeCells #[.int .i32 0] m).toList.take 0 ++ (atCells m at' ++ (madeCells #[.int .i32 0] m).toList.drop (0 + (atCells m at').length))).toArray) := by
  refine ⟨⟨_, setRow_heap _ _ (madeCells #[.int .i32 0] m) _ 21 _ (RowAt.new wr 21 _), ?_, fun i hi => ?_⟩, below_setRow ((Below.refl _ _).alloc (Nat.le_refl _) _) (Nat.le_refl _) _⟩
  · simp [atCells, size_madeCells]
  · simp only [List.take_zero, List.nil_append, List.getElem?_toArray]
    rw [List.getElem?_append_left (by simp [atCells]; exact hi)]
    simp [atCells, hi]

theorem ViewIn.alloc {w : World} {V n k : Nat} {F : Nat → Nat → Int} (h : ViewIn w V n k F) (o : Obj) : ViewIn (w.alloc o) V n k F := by
  obtain ⟨cur, h1, h2⟩ := h
  exact ⟨cur, h1.alloc o, h2⟩
theorem ViewIn.below {w w' : World} {V n k B : Nat} {F : Nat → Nat → Int} (h : ViewIn w V n k F) (hb : Below B w w') (hV : V < B) : ViewIn w' V n k F := by
  obtain ⟨cur, h1, h2⟩ := h
  exact ⟨cur, (hb.block V hV).trans h1, h2⟩
theorem ViewIn.lt {w : World} {V n k : Nat} {F : Nat → Nat → Int} (h : ViewIn w V n k F) : V < w.heap.size := by
  obtain ⟨cur, h1, h2⟩ := h
  exact h1.lt

set_option maxRecDepth 100000 in
set_option maxHeartbeats 2000000 in
theorem view_any (h : Pre w base B A m n (.slice ao n cap) xs F root top at' s) (hn : n ≤ 100000) (hm : m ≤ 100000) :
    Calls Try.prog 18 #[.pointer (some ⟨B, 0, none⟩)] w (ViewPost w n m F root top at') := by
  have hmk := fun wx => make_nodes wx n hn
  have hmk2 := fun wx => run_make_row' (P := Try.prog) 39 21 (.int .i32 0) 4 Try.underlying39 info21 rfl .i64 .i64 m (by omega) (by omega) wx
  have c0 : w.cell? ⟨B, 0, none⟩ = some (.slice ao n cap) := h.st.cell 0
  have hBl : B < w.heap.size := h.st.lt
  have HP : Hid _ := h
  clear h
  go_enter Try.func18, Try.ntmps18
  go_wp2_with fail
  have H0 : ViewIn (w.alloc (.cells (madeCells zero7 (n * 7)) 46)) w.heap.size n 0 F := ⟨_, RowAt.new w 46 _, size_madeCells _ _, fun i f hi => absurd hi (by omega)⟩
  have O0 : Only w.heap.size w (w.alloc (.cells (madeCells zero7 (n * 7)) 46)) := (Only.refl _ _).alloc _
  have HV0 : Hid _ := H0
  have HO0 : Hid _ := O0
  clear H0 O0 hmk
  go_loopw [7, 8, 21] (fun _ _ i wr => ∃ k : Nat, k ≤ n ∧ i = .int .i64 k ∧ Only w.heap.size w wr ∧ ViewIn wr w.heap.size n k F) (fun _ _ i _ => n - (intOf i).toNat)
  case atStart => exact ⟨0, by omega, rfl, HO0.out, HV0.out⟩
  case round =>
    clear HV0 HO0 c0
    obtain ⟨k, hk, rfl, hO, hV⟩ := hrel
    have hBr : Below w.heap.size w wr := hO.below (Nat.le_refl _) (Nat.le_refl _)
    have c0 : wr.cell? ⟨B, 0, none⟩ = some (.slice ao n cap) := cell_later hBr (HP.out.st.cell 0)
    have XO : Hid _ := hO
    have XV : Hid _ := hV
    have XB : Hid _ := hBr
    have hBr2 : B < wr.heap.size := Nat.lt_of_lt_of_le hBl hBr.size
    by_cases hlt : k < n
    · obtain ⟨g, hg, hgl, hc⟩ := HP.out.node (by omega)
      subst hg
      have d : ∀ f, f < 7 → wr.cell? ⟨g, k * 7 + f, none⟩ = some (val f (F k f)) := fun f hf => cell_later hBr (hc k f hlt hf)
      have d0 : wr.cell? ⟨g, k * 7, none⟩ = some (.int .i32 (F k 0)) := d 0 (by omega)
      have d1 : wr.cell? ⟨g, k * 7 + 1, none⟩ = some (.int .i32 (F k 1)) := d 1 (by omega)
      have d2 : wr.cell? ⟨g, k * 7 + 2, none⟩ = some (.int .i32 (F k 2)) := d 2 (by omega)
      have d3 : wr.cell? ⟨g, k * 7 + 3, none⟩ = some (.int .i32 (F k 3)) := d 3 (by omega)
      have d4 : wr.cell? ⟨g, k * 7 + 4, none⟩ = some (.int .i32 (F k 4)) := d 4 (by omega)
      have d5 : wr.cell? ⟨g, k * 7 + 5, none⟩ = some (.int .i32 (F k 5)) := d 5 (by omega)
      have d6 : wr.cell? ⟨g, k * 7 + 6, none⟩ = some (.int .u32 (F k 6)) := d 6 (by omega)
      obtain ⟨cur, hr, hs, _⟩ := hV
      have v : ∀ f, f < 7 → ∃ v, wr.cell? ⟨w.heap.size, k * 7 + f, none⟩ = some v := fun f hf => ⟨cur[k * 7 + f]'(by omega), by rw [hr.cell, Array.getElem?_eq_getElem (by omega)]⟩
      obtain ⟨v0, e0⟩ := v 0 (by omega)
      rw [Nat.add_zero] at e0
      obtain ⟨v1, e1⟩ := v 1 (by omega)
      obtain ⟨v2, e2⟩ := v 2 (by omega)
      obtain ⟨v3, e3⟩ := v 3 (by omega)
      obtain ⟨v4, e4⟩ := v 4 (by omega)
      obtain ⟨v5, e5⟩ := v 5 (by omega)
      obtain ⟨v6, e6⟩ := v 6 (by omega)
      have fz : ∀ o, wr.frozen? ⟨w.heap.size, o, none⟩ = false := hr.frozen
      have hVl : w.heap.size < wr.heap.size := hr.lt
      have hgr : g < wr.heap.size := Nat.lt_of_lt_of_le hgl hBr.size
      clear d v hr hs hc hO hBr
      go_wp2_with fail
      go_roundw
      case rel => exact ⟨k + 1, by omega, by go_num, ((((((((XO.out.set _ _).set _ _).set _ _).set _ _).set _ _).set _ _).set _ _)).alloc _, ViewIn.alloc (ViewIn.push XV.out hlt) _⟩
      case measure => simp [intOf]; omega
    · have c4 : wr.cell? ⟨B, 4, none⟩ = some (.slice (some ⟨A, 0, none⟩) m m) := cell_later hBr (HP.out.st.cell 4)
      have c1 : wr.cell? ⟨B, 1, none⟩ = some (.int .i32 root) := cell_later hBr (HP.out.st.cell 1)
      have c2 : wr.cell? ⟨B, 2, none⟩ = some (.int .i32 top) := cell_later hBr (HP.out.st.cell 2)
      have hsrc : ∀ j v, (atCells m at')[j]? = some v → (wr.alloc (.cells (madeCells #[.int .i32 0] m) 21)).cell? ((⟨A, 0, none⟩ : Addr).add j) = some v := by
        intro j v hj
        have e : (⟨A, 0, none⟩ : Addr).add j = ⟨A, j, none⟩ := by unfold Addr.add; split <;> simp_all
        have hjm : j < m := by
          have := (List.getElem?_eq_some_iff.1 hj).1
          simpa [atCells] using this
        have hc : wr.cell? ⟨A, j, none⟩ = some (.int .i32 (at' j)) := cell_later hBr (HP.out.at_.cell j hjm)
        rw [e, cell_later ((Below.refl _ _).alloc (Nat.le_refl _) _) hc, ← hj]
        simp [atCells, hjm]
      have S1 : Hid _ := hsrc
      obtain ⟨D1, D2⟩ := copy_done wr m at'
      have D1' : Hid _ := D1
      have D2' : Hid _ := D2
      clear hO hV hBr hsrc D1 D2
      go_wp2_with (refine wpList_copy_own rfl (.tmp 56) (.tmp 60) 39 39 rfl 21 Try.underlying39 size21 wr.heap.size 0 m m ⟨A, 0, none⟩ m m rfl rfl (madeCells #[.int .i32 0] m) 21 (RowAt.new wr 21 _) (atCells m at') (atCells_len m at') S1.out (atCells_fit m at') (atCells_one m at') ?_; generalize (wr.alloc (.cells (madeCells #[.int .i32 0] m) 21)).setRow wr.heap.size ((madeCells #[.int .i32 0] m).toList.take 0 ++ (atCells m at' ++ (madeCells #[.int .i32 0] m).toList.drop (0 + (atCells m at').length))).toArray = w5 at D1' D2' ⊢; have k1 : w5.cell? ⟨B, 1, none⟩ = some (.int .i32 root) := cell_later D2'.out c1; have k2 : w5.cell? ⟨B, 2, none⟩ = some (.int .i32 top) := cell_later D2'.out c2)
      have hV5 : ViewIn w5 w.heap.size n n F := by
        have hkn : k = n := by omega
        have h1 := XV.out
        rw [hkn] at h1
        exact ViewIn.below h1 D2'.out (ViewIn.lt h1)
      have hB5 : Below w.heap.size w w5 := XB.out.trans (D2'.out.mono XB.out.size)
      have G1 : Hid _ := hV5
      have G2 : Hid _ := hB5
      clear hV5 hB5
      go_wp2_with fail
      go_quiet (fail)
      go_wp2_with fail
      refine bodyPost_ret (v := .tuple #[.slice (some ⟨w.heap.size, 0, none⟩) n n, .int .i32 root, .int .i32 top, .slice (some ⟨wr.heap.size, 0, none⟩) m m]) (by simp [results, Try.results18, go_sem]) rfl ⟨_, _, rfl, G1.out, D1'.out, below_drewN G2.out _⟩
end
end Go.Proofs.Qxb6600559a.Treap

import Derived.Test.Qxb6600559aViewWalk
import Derived.Test.Qxb6600559aOrder
namespace Go.Proofs.Qxb6600559a.Treap
open Go.RowKit

theorem info4 : (Try.prog.info? 4).map (fun i => (i.zero, i.size, i.bytes)) = some (some (.bool false), 1, 1) := by kernel_rfl

def BoolsIn (w : World) (S n : Nat) (f : Nat → Bool) : Prop := ∃ cur, RowAt w S 4 cur ∧ cur.size = n ∧ ∀ i, i < n → cur[i]? = some (.bool (f i))
theorem BoolsIn.cell {w : World} {S n : Nat} {f : Nat → Bool} (h : BoolsIn w S n f) (i : Nat) (hi : i < n) : w.cell? ⟨S, i, none⟩ = some (.bool (f i)) := by
  obtain ⟨cur, h1, _, h2⟩ := h
  rw [h1.cell]; exact h2 i hi
theorem BoolsIn.frozen {w : World} {S n : Nat} {f : Nat → Bool} (h : BoolsIn w S n f) (o : Nat) : w.frozen? ⟨S, o, none⟩ = false := by
  obtain ⟨cur, h1, _⟩ := h
  exact h1.frozen o
theorem BoolsIn.lt {w : World} {S n : Nat} {f : Nat → Bool} (h : BoolsIn w S n f) : S < w.heap.size := by
  obtain ⟨cur, h1, _⟩ := h
  exact h1.lt
theorem BoolsIn.set {w : World} {S n : Nat} {f : Nat → Bool} (h : BoolsIn w S n f) (e : Nat) (v : Bool) : BoolsIn (w.setCell ⟨S, e, none⟩ (.bool v)) S n (fun x => if x = e then v else f x) := by
  obtain ⟨cur, h1, h2, h3⟩ := h
  refine ⟨_, h1.set _ _, by simpa using h2, fun i hi => ?_⟩
  rw [Array.getElem?_setIfInBounds]
  by_cases ei : e = i
  · subst ei; rw [if_pos rfl, if_pos (by omega)]; simp
  · have ei' : ¬ i = e := fun h => ei (Eq.symm h)
    rw [if_neg ei, h3 i hi]; simp [ei']
theorem BoolsIn.block {w w' : World} {S n : Nat} {f : Nat → Bool} (h : BoolsIn w S n f) (e : w'.heap[S]? = w.heap[S]?) : BoolsIn w' S n f := by
  obtain ⟨cur, h1, h2⟩ := h
  exact ⟨cur, e.trans h1, h2⟩

/-- The walk's own three rows. -/
structure WS (w wr : World) (O T S n k : Nat) (σ : List Nat) (sn : Nat → Bool) (ls : Nat → Nat) : Prop where
  below : Below w.heap.size w wr
  bO : w.heap.size ≤ O
  bT : w.heap.size ≤ T
  bS : w.heap.size ≤ S
  OT : O ≠ T
  OS : O ≠ S
  TS : T ≠ S
  out : IntsIn wr O n k (fun i => (ls i : Int))
  stack : IntsIn wr T n σ.length (stk σ)
  seen : BoolsIn wr S n sn

def OrderPost (w : World) (n : Nat) (ls : Nat → Nat) (e : Ending) (w' : World) : Prop :=
  ∃ O, e = .returned (.tuple #[.slice (some ⟨O, 0, none⟩) n n, .bool true]) ∧ IntsIn w' O n n (fun i => (ls i : Int)) ∧ w.heap.size ≤ O ∧ Below w.heap.size w w'

section
variable {w : World} {V n : Nat} {F : Nat → Nat → Int} {root top : Int} {ls pos lo hi : Nat → Nat}

theorem ViewIn.only {w w' : World} {V L n k : Nat} {F : Nat → Nat → Int} (h : ViewIn w V n k F) (o : Only L w w') (hV : V ≠ L) : ViewIn w' V n k F := by
  obtain ⟨cur, h1, h2⟩ := h
  exact ⟨cur, (o.block V h1.lt hV).trans h1, h2⟩

theorem ws_start (w : World) (n : Nat) (ls : Nat → Nat) : WS w (((w.alloc (.cells (madeCells #[.int .i32 0] n) 21)).alloc (.cells (madeCells #[.int .i32 0] n) 21)).alloc (.cells (madeCells #[.bool false] n) 4)) w.heap.size (w.heap.size + 1) (w.heap.size + 1 + 1) n 0 [] (fun _ => false) ls := by
  refine ⟨(((Below.refl _ _).alloc (Nat.le_refl _) _).alloc (by simp) _).alloc (by simp; omega) _, Nat.le_refl _, by omega, by omega, by omega, by omega, by omega, ?_, ?_, ?_⟩
  · exact ⟨_, ((RowAt.new w 21 _).alloc _).alloc _, size_madeCells _ _, fun i hi => absurd hi (by omega)⟩
  · have h := (RowAt.new (w.alloc (.cells (madeCells #[.int .i32 0] n) 21)) 21 (madeCells #[.int .i32 0] n)).alloc (.cells (madeCells #[.bool false] n) 4)
    rw [World.size_alloc] at h
    exact ⟨_, h, size_madeCells _ _, fun i hi => absurd hi (by simp)⟩
  · have h := RowAt.new ((w.alloc (.cells (madeCells #[.int .i32 0] n) 21)).alloc (.cells (madeCells #[.int .i32 0] n) 21)) 4 (madeCells #[.bool false] n)
    rw [World.size_alloc, World.size_alloc] at h
    exact ⟨_, h, size_madeCells _ _, fun i hi => made_at _ n i hi⟩

theorem WS.only {w wr wx : World} {O T S n k : Nat} {σ : List Nat} {sn : Nat → Bool} {ls : Nat → Nat} (h : WS w wr O T S n k σ sn ls) (o : Only T wr wx) {τ : List Nat} (ht : IntsIn wx T n τ.length (stk τ)) : WS w wx O T S n k τ sn ls :=
  ⟨h.below.trans (o.below h.bT h.below.size), h.bO, h.bT, h.bS, h.OT, h.OS, h.TS, h.out.block (o.block O h.out.lt h.OT), ht, h.seen.block (o.block S h.seen.lt h.TS.symm)⟩
theorem WS.onlyO {w wr wx : World} {O T S n k : Nat} {σ : List Nat} {sn : Nat → Bool} {ls : Nat → Nat} (h : WS w wr O T S n k σ sn ls) (o : Only O wr wx) (ht : IntsIn wx O n (k + 1) (fun i => (ls i : Int))) : WS w wx O T S n (k + 1) σ sn ls :=
  ⟨h.below.trans (o.below h.bO h.below.size), h.bO, h.bT, h.bS, h.OT, h.OS, h.TS, ht, h.stack.block (o.block T h.stack.lt h.OT.symm), h.seen.block (o.block S h.seen.lt h.OS.symm)⟩
theorem WS.onlyS {w wr : World} {O T S n k : Nat} {σ : List Nat} {sn : Nat → Bool} {ls : Nat → Nat} (h : WS w wr O T S n k σ sn ls) (e : Nat) (v : Bool) : WS w (wr.setCell ⟨S, e, none⟩ (.bool v)) O T S n k σ (fun x => if x = e then v else sn x) ls :=
  ⟨h.below.setCell h.bS _, h.bO, h.bT, h.bS, h.OT, h.OS, h.TS, h.out.other h.OS _, h.stack.other h.TS _, h.seen.set e v⟩
theorem WS.pop {w wr : World} {O T S n k s : Nat} {σ : List Nat} {sn : Nat → Bool} {ls : Nat → Nat} (h : WS w wr O T S n k (s :: σ) sn ls) : WS w wr O T S n k σ sn ls :=
  ⟨h.below, h.bO, h.bT, h.bS, h.OT, h.OS, h.TS, h.out, (h.stack.fewer (by simp)).congr (fun i hi => stk_pop s σ i hi), h.seen⟩

set_option maxRecDepth 100000 in
set_option maxHeartbeats 4000000 in
theorem order_any (hV : ViewIn w V n n F) (hn : n ≤ 4096) (I : Inv n F root top ls pos lo hi) :
    Calls Try.prog 19 #[.slice (some ⟨V, 0, none⟩) n n, .int .i32 root] w (OrderPost w n ls) := by
  obtain ⟨i1, hi1, hx0, hx1, hx2⟩ := info_parts info21
  have hmk := fun wx => make_zero wx n (by omega)
  have hmk2 := fun wx => run_make_row' (P := Try.prog) 23 4 (.bool false) 1 Try.underlying23 info4 rfl .i64 .i64 n (by omega) (by omega) wx
  have HV : Hid _ := hV
  have HI : Hid _ := I
  clear hV I
  go_enter Try.func19, Try.ntmps19
  go_wp2_with fail
  clear hmk hmk2
  have W0 : Hid _ := ws_start w n ls
  generalize ((w.alloc (.cells (madeCells #[.int .i32 0] n) 21)).alloc (.cells (madeCells #[.int .i32 0] n) 21)).alloc (.cells (madeCells #[.bool false] n) 4) = w1 at W0 ⊢
  obtain ⟨S, hS⟩ : ∃ S, S = w.heap.size + 1 + 1 := ⟨_, rfl⟩
  rw [← hS] at W0 ⊢
  obtain ⟨T, hT⟩ : ∃ T, T = w.heap.size + 1 := ⟨_, rfl⟩
  rw [← hT] at W0 ⊢
  obtain ⟨O, hO⟩ : ∃ O, O = w.heap.size := ⟨_, rfl⟩
  have W1 : Hid (WS w w1 O T S n 0 [] (fun _ => false) ls) := by rw [hO]; exact W0.out
  rw [← hO]
  clear hS hT hO W0
  go_loopw [7, 8, 10, 11] (fun vo vs vc vt wr => ∃ (k : Nat) (σ : List Nat) (sn : Nat → Bool) (c : Int), vo = .slice (some ⟨O, 0, none⟩) k n ∧ vs = .slice (some ⟨T, 0, none⟩) σ.length n ∧ vc = .int .i32 c ∧ vt = .int .i64 ((2 * k + σ.length : Nat) : Int) ∧ WS w wr O T S n k σ sn ls ∧ Seen n k pos σ sn ∧ Cur n pos lo hi k σ c) (fun _ _ _ vt _ => 2 * n + 1 - (intOf vt).toNat)
  case atStart => exact ⟨0, [], fun _ => false, root, rfl, rfl, rfl, rfl, W1.out, fun x _ => by simp, cur_start HI.out⟩
  case round =>
    clear W1
    obtain ⟨k, σ, sn, c, rfl, rfl, rfl, rfl, hW, hS, hC⟩ := hrel
    have XW : Hid _ := hW
    have XS : Hid _ := hS
    have hVr : ViewIn wr V n n F := ViewIn.below HV.out hW.below (ViewIn.lt HV.out)
    have XV : Hid _ := hVr
    have hVw : V < w.heap.size := ViewIn.lt HV.out
    have hVO : V ≠ O := by have := hW.bO; omega
    have hVT : V ≠ T := by have := hW.bT; omega
    have hVS : V ≠ S := by have := hW.bS; omega
    rcases hC with ⟨rfl, hC⟩ | ⟨c, hc, rfl, hl, hC⟩
    · cases σ with
      | nil =>
        have hkn : k = n := hC
        clear hW hS hC hVr
        subst hkn
        go_wp2_with fail
        go_ret2
        exact ⟨O, rfl, XW.out.out, XW.out.bO, XW.out.below⟩
      | cons s σ =>
        have hle := chain_le HI.out _ _ hC
        obtain ⟨hs, hps, hsl, hCu⟩ := cur_pop HI.out hC
        have XC : Hid _ := hCu
        have XL : Hid _ := hsl
        have XP : Hid _ := hps
        simp only [List.length_cons] at hle
        have hk := (HI.out.psl s hs).1
        rw [hps] at hk
        have cT : wr.cell? ⟨T, σ.length, none⟩ = some (.int .i32 (s : Int)) := by
          have := hW.stack.cell σ.length (by simp)
          rw [stk_top] at this
          exact this
        have cV : wr.cell? ⟨V, s * 7 + 2, none⟩ = some (.int .i32 (F s 2)) := hVr.cell s 2 hs (by omega)
        have hVl : V < wr.heap.size := ViewIn.lt hVr
        have OWN : Hid _ := (hW.out.alloc (.cells #[.int .i32 (s : Int)] 21)).own (base := w.heap.size) (by omega) (by unfold maxLen; omega) hW.bO
        generalize hτ : σ.length = τ at hle cT ⊢
        have XT : Hid _ := hτ
        clear hW hS hC hVr hCu hsl hps hτ
        rw [List.length_cons, XT.out]
        go_wp2_with (at_builtin; refine wpList_append_fits _ rfl (.tmp 86) (.tmp 88) 39 rfl w.heap.size 21 i1 1 Try.underlying39 hi1 hx1 O k n _ rfl OWN.out ⟨wr.heap.size, 0, none⟩ 1 1 [.int .i32 (s : Int)] rfl rfl (cell_one_new _ _ _) (by intro u hu; simp at hu; subst hu; rfl) (by omega) ?_; intro w4 hown4 hgrow4; have Y1 : Hid _ := IntsIn.pushed hown4; have Y2 : Hid _ := ((Only.refl O wr).alloc _).grown hgrow4; clear hown4 hgrow4; have d4 : w4.cell? ⟨V, s * 7 + 2, none⟩ = some (.int .i32 (F s 2)) := (ViewIn.only XV.out Y2.out hVO).cell s 2 hs (by omega))
        have hW5 : WS w w4 O T S n (k + 1) σ sn ls := (XW.out.pop).onlyO Y2.out (IntsIn.congr Y1.out (fun i hi => by
          by_cases e : i = k
          · rw [if_pos e, e, ← XL.out]
          · rw [if_neg e]))
        have Z1 : Hid _ := hW5
        have Z2 : Hid _ := seen_pop HI.out XS.out hs XP.out
        clear hW5
        go_wp2_with fail
        go_roundw
        case rel => exact ⟨k + 1, σ, sn, F s 2, rfl, by rw [XT.out], rfl, by rw [XT.out]; go_num, Z1.out, Z2.out, XC.out⟩
        case measure => simp [intOf]; omega
    · have hle := chain_le HI.out _ _ hC
      have b := HI.out.tree.bd c hc
      have hfr := seen_fresh HI.out hS hc hl hC
      have XC : Hid _ := cur_push HI.out hc hl hC
      have cS : wr.cell? ⟨S, c, none⟩ = some (.bool false) := by rw [← hfr]; exact hW.seen.cell c hc
      have fS := hW.seen.frozen c
      have hVl : V < wr.heap.size := ViewIn.lt hVr
      have hW2 : WS w (wr.setCell ⟨S, c, none⟩ (.bool true)) O T S n k σ (fun x => if x = c then true else sn x) ls := hW.onlyS c true
      have OWN : Hid _ := (hW2.stack.alloc (.cells #[.int .i32 (c : Int)] 21)).own (base := w.heap.size) (by omega) (by unfold maxLen; omega) hW2.bT
      have XW2 : Hid _ := hW2
      have XS2 : Hid _ := seen_push hS c
      have hV2 : ViewIn (wr.setCell ⟨S, c, none⟩ (.bool true)) V n n F := ViewIn.only hVr ((Only.refl S wr).set c _) hVS
      have XV2 : Hid _ := hV2
      have hne : ((c : Int) != -1) = true := by simp
      have hkn : k < n := by omega
      have hnew := cell_one_new (wr.setCell ⟨S, c, none⟩ (.bool true)) (.int .i32 (c : Int)) 21
      rw [World.size_setCell] at hnew
      have XN : Hid _ := hnew
      clear hnew
      generalize hτ : σ.length = τ at hle ⊢
      have XT : Hid _ := hτ
      rw [hτ] at OWN
      have OWN2 : Hid _ := OWN.out
      have hkt : k + τ < n := by omega
      clear hW hS hC hVr hfr hW2 hV2 hτ hl OWN
      go_wp2_with (at_builtin; refine wpList_append_fits _ rfl (.tmp 61) (.tmp 63) 39 rfl w.heap.size 21 i1 1 Try.underlying39 hi1 hx1 T τ n _ rfl OWN2.out ⟨wr.heap.size, 0, none⟩ 1 1 [.int .i32 (c : Int)] rfl rfl XN.out (by intro u hu; simp at hu; subst hu; rfl) (by omega) ?_; intro w4 hown4 hgrow4; have Y1 : Hid _ := IntsIn.pushed hown4; have Y2 : Hid _ := ((Only.refl T (wr.setCell ⟨S, c, none⟩ (.bool true))).alloc _).grown hgrow4; clear hown4 hgrow4; have d4 : w4.cell? ⟨V, c * 7 + 1, none⟩ = some (.int .i32 (F c 1)) := (ViewIn.only XV2.out Y2.out hVT).cell c 1 hc (by omega))
      have hW5 : WS w w4 O T S n k (c :: σ) (fun x => if x = c then true else sn x) ls := XW2.out.only Y2.out (by
        have h1 := Y1.out
        rw [← XT.out] at h1
        rw [List.length_cons]
        exact IntsIn.congr h1 (fun i hi => stk_push σ c i hi))
      have Z1 : Hid _ := hW5
      clear hW5
      go_wp2_with fail
      go_roundw
      case rel => exact ⟨k, c :: σ, _, F c 1, rfl, by rw [List.length_cons, XT.out], rfl, by rw [List.length_cons, XT.out]; go_num, Z1.out, XS2.out, XC.out⟩
      case measure => simp [intOf]; omega
end
end Go.Proofs.Qxb6600559a.Treap

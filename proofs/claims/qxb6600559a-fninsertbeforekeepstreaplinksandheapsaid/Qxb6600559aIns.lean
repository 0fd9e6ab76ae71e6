import Derived.Test.Qxb6600559aInsB
import Derived.Test.Qxb6600559aInsC
import Derived.Test.Qxb6600559aInsD
import Derived.Test.Qxb6600559aInsE
import Derived.Deep.OwnRows
namespace Go.Proofs.Qxb6600559a.Treap
open Go.RowKit

section
variable {w : World} {base B A m n : Nat} {xs : List Value} {F : Nat → Nat → Int} {root top : Int} {at' : Nat → Int} {s : Int} {ls pos lo hi : Nat → Nat} {ao : Option Addr} {cap : Nat}

/-- 'insertBefore', at place p of the order. -/
theorem insert_any (h : Pre w base B A m n (.slice ao n cap) xs F root top at' s) (I : Inv n F root top ls pos lo hi) (H : Heap n F) (hn : n ≤ 50000) (hm : m ≤ 100000) (hnm : n < m) (p : Nat) (hp : p ≤ n) (y : Int) (hy : y = if p < n then (ls p : Int) else -1) :
    Calls Try.prog 26 #[.pointer (some ⟨B, 0, none⟩), .int .i32 y, .int .i32 (n : Int)] w fun e' w' => e' = .returned (.int .i32 (n : Int)) ∧ InsPost w w' base B A m n p at' ls pos := by
  by_cases h0 : n = 0
  · have hp0 : p = 0 := by omega
    subst hp0
    rw [if_neg (by omega)] at hy
    subst hy
    exact ins_empty h I H hn hm hnm h0
  · obtain ⟨r, hr⟩ : ∃ r : Nat, root = (r : Int) := by
      rcases I.tree.root with h1 | ⟨r, _, h1, _⟩
      · omega
      · exact ⟨r, h1⟩
    have ht := I.tp
    rw [if_neg h0] at ht
    by_cases hpn : p < n
    · rw [if_pos hpn] at hy
      subst hy
      by_cases hl : F (ls p) 1 = -1
      · by_cases hp0 : p = 0
        · subst hp0
          exact ins_first h I H hn hm hnm (by omega) (ls 0) r (ls (n - 1)) rfl hr ht hl
        · exact ins_left h I H hn hm hnm p (by omega) hpn (ls (p - 1)) (ls p) r (ls (n - 1)) rfl rfl hr ht hl
      · exact ins_right h I H hn hm hnm p hpn (ls (p - 1)) (ls p) r (ls (n - 1)) rfl rfl hr ht hl
    · have hpe : p = n := by omega
      subst hpe
      rw [if_neg (by omega)] at hy
      subst hy
      exact ins_top h I H hn hm hnm (by omega) (ls (p - 1)) r rfl hr ht

set_option maxHeartbeats 400000 in
theorem zzinsert_any (h : Pre w base B A m n (.slice ao n cap) xs F root top at' s) (I : Inv n F root top ls pos lo hi) (H : Heap n F) (hn : n ≤ 50000) (hm : m ≤ 100000) (hnm : n < m) (p : Nat) (hp : p ≤ n) (y : Int) (hy : y = if p < n then (ls p : Int) else -1) :
    Calls Try.prog 24 #[.pointer (some ⟨B, 0, none⟩), .int .i32 y, .int .i32 (n : Int)] w fun e' w' => e' = .returned (.int .i32 (n : Int)) ∧ InsPost w w' base B A m n p at' ls pos := by
  have C := insert_any h I H hn hm hnm p hp y hy
  have HC : Hid _ := C
  clear h I H hy C
  go_enter Try.func24, Try.ntmps24
  go_wp2_with fail
  refine (Calls.mono HC.out) ?_
  rintro e' w1 ⟨rfl, hr⟩
  have HR : Hid _ := hr
  clear hr
  go_wp2_with fail
  go_ret
  exact ⟨rfl, HR.out⟩
end

theorem info21 : (Try.prog.info? 21).map (fun i => (i.zero, i.size, i.bytes)) = some (some (.int .i32 0), 1, 4) := by kernel_rfl

/-- A row of int32 of which the first k are told. -/
def IntsIn (w : World) (L cap k : Nat) (f : Nat → Int) : Prop := ∃ cur, RowAt w L 21 cur ∧ cur.size = cap ∧ ∀ i, i < k → cur[i]? = some (.int .i32 (f i))

theorem IntsIn.cell {w : World} {L cap k : Nat} {f : Nat → Int} (h : IntsIn w L cap k f) (i : Nat) (hi : i < k) : w.cell? ⟨L, i, none⟩ = some (.int .i32 (f i)) := by
  obtain ⟨cur, h1, _, h2⟩ := h
  rw [h1.cell]; exact h2 i hi
theorem IntsIn.frozen {w : World} {L cap k : Nat} {f : Nat → Int} (h : IntsIn w L cap k f) (o : Nat) : w.frozen? ⟨L, o, none⟩ = false := by
  obtain ⟨cur, h1, _⟩ := h
  exact h1.frozen o
theorem IntsIn.lt {w : World} {L cap k : Nat} {f : Nat → Int} (h : IntsIn w L cap k f) : L < w.heap.size := by
  obtain ⟨cur, h1, _⟩ := h
  exact h1.lt
theorem IntsIn.set {w : World} {L cap k : Nat} {f : Nat → Int} (h : IntsIn w L cap k f) (e : Nat) (he : e < cap) (v : Int) (g : Nat → Int) (hv : g e = v) (hg : ∀ i, i < k → i ≠ e → g i = f i) : IntsIn (w.setCell ⟨L, e, none⟩ (.int .i32 v)) L cap k g := by
  obtain ⟨cur, h1, h2, h3⟩ := h
  refine ⟨_, h1.set _ _, by simpa using h2, fun i hi => ?_⟩
  rw [Array.getElem?_setIfInBounds]
  by_cases ei : e = i
  · subst ei; rw [if_pos rfl, if_pos (by omega), hv]
  · rw [if_neg ei, h3 i hi, hg i hi (fun h => ei (Eq.symm h))]
theorem IntsIn.other {w : World} {L cap k : Nat} {f : Nat → Int} (h : IntsIn w L cap k f) {a : Addr} (ne : L ≠ a.block) (v : Value) : IntsIn (w.setCell a v) L cap k f := by
  obtain ⟨cur, h1, h2⟩ := h
  exact ⟨cur, h1.other ne v, h2⟩
theorem IntsIn.alloc {w : World} {L cap k : Nat} {f : Nat → Int} (h : IntsIn w L cap k f) (o : Obj) : IntsIn (w.alloc o) L cap k f := by
  obtain ⟨cur, h1, h2⟩ := h
  exact ⟨cur, h1.alloc o, h2⟩
theorem IntsIn.drew {w : World} {L cap k : Nat} {f : Nat → Int} (h : IntsIn w L cap k f) : IntsIn w.drew L cap k f := h
theorem IntsIn.drewN {w : World} {L cap k : Nat} {f : Nat → Int} (h : IntsIn w L cap k f) (n : Nat) : IntsIn (w.drewN n) L cap k f := h
theorem IntsIn.congr {w : World} {L cap k : Nat} {f g : Nat → Int} (h : IntsIn w L cap k f) (e : ∀ i, i < k → f i = g i) : IntsIn w L cap k g := by
  obtain ⟨cur, h1, h2, h3⟩ := h
  exact ⟨cur, h1, h2, fun i hi => by rw [h3 i hi, e i hi]⟩
theorem IntsIn.fewer {w : World} {L cap k k' : Nat} {f : Nat → Int} (h : IntsIn w L cap k f) (hk : k' ≤ k) : IntsIn w L cap k' f := by
  obtain ⟨cur, h1, h2, h3⟩ := h
  exact ⟨cur, h1, h2, fun i hi => h3 i (by omega)⟩
theorem IntsIn.block {w w' : World} {L cap k : Nat} {f : Nat → Int} (h : IntsIn w L cap k f) (e : w'.heap[L]? = w.heap[L]?) : IntsIn w' L cap k f := by
  obtain ⟨cur, h1, h2⟩ := h
  exact ⟨cur, e.trans h1, h2⟩
theorem IntsIn.own {w : World} {L cap k base : Nat} {f : Nat → Int} (h : IntsIn w L cap k f) (hk : k ≤ cap) (hc : cap ≤ maxLen) (hb : base ≤ L) :
    w.ownsRow base 21 1 (.slice (some ⟨L, 0, none⟩) k cap) k ((List.range k).map (fun i => .int .i32 (f i))) := by
  obtain ⟨cur, h1, h2, h3⟩ := h
  refine ⟨by simp, .inr ⟨L, cap, cur, rfl, hb, h1, hk, hc, by omega, ?_⟩⟩
  apply List.ext_getElem?
  intro i
  by_cases hi : i < k
  · rw [List.getElem?_take_of_lt (by omega), Array.getElem?_toList, h3 i hi]
    simp [hi]
  · rw [List.getElem?_eq_none (by simp; omega), List.getElem?_eq_none (by simp; omega)]
theorem IntsIn.pushed {w : World} {L cap k base : Nat} {f : Nat → Int} {v : Int} (h : w.ownsRow base 21 1 (.slice (some ⟨L, 0, none⟩) (k + 1) cap) (k + 1) ((List.range k).map (fun i => .int .i32 (f i)) ++ [.int .i32 v])) :
    IntsIn w L cap (k + 1) (fun i => if i = k then v else f i) := by
  rcases h.2 with ⟨hv, _⟩ | ⟨g, c, cur, hv, _, hr, h1, _, h3, h4⟩
  · cases hv
  · simp only [Value.slice.injEq, Option.some.injEq, Addr.mk.injEq] at hv
    obtain ⟨⟨rfl, _, _⟩, _, rfl⟩ := hv
    refine ⟨cur, hr, by omega, fun i hi => ?_⟩
    have e : cur[i]? = ((List.range k).map (fun i => Value.int .i32 (f i)) ++ [.int .i32 v])[i]? := by
      rw [← h4, List.getElem?_take_of_lt (by omega), Array.getElem?_toList]
    rw [e]
    by_cases ik : i = k
    · subst ik; rw [List.getElem?_append_right (by simp)]; simp
    · rw [List.getElem?_append_left (by simp; omega)]
      simp [ik, show i < k by omega]

end Go.Proofs.Qxb6600559a.Treap

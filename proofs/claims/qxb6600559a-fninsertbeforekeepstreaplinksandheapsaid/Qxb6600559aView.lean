import Derived.Test.Qxb6600559aScript
import Derived.Laws.CopyOwn
namespace Go.Proofs.Qxb6600559a.Treap
open Go.RowKit

theorem info46 : (Try.prog.info? 46).map (fun i => (i.zero, i.size, i.bytes)) = some (some (.agg #[.int .i32 0, .int .i32 0, .int .i32 0, .int .i32 0, .int .i32 0, .int .i32 0, .int .u32 0]), 7, 28) := by kernel_rfl

def zero7 : Array Value := #[.int .i32 0, .int .i32 0, .int .i32 0, .int .i32 0, .int .i32 0, .int .i32 0, .int .u32 0]

theorem make_nodes (wx : World) (n : Nat) (hn : n ≤ 100000) :
    (Instr.makeSlice 42 (.int .i64 (n : Int)) (.int .i64 (n : Int))).run Try.prog wx = .ok (.slice (some ⟨wx.heap.size, 0, none⟩) n n) (wx.alloc (.cells (madeCells zero7 (n * 7)) 46)) := by
  obtain ⟨i0, hi, hz0, hz1, hz2⟩ := info_parts info46
  have := run_make (P := Try.prog) wx 42 46 i0 _ Try.underlying42 hi hz0 .i64 .i64 (n : Int) (n : Int) (by omega) (by omega) (by rw [hz2]; omega) (by omega)
  simp only [hz1] at this
  simpa [Value.cells, zero7] using this

/-- The copied nodes. -/
def ViewIn (w : World) (V n k : Nat) (F : Nat → Nat → Int) : Prop :=
  ∃ cur, RowAt w V 46 cur ∧ cur.size = n * 7 ∧ ∀ i f, i < k → f < 7 → cur[i * 7 + f]? = some (val f (F i f))
theorem ViewIn.cell {w : World} {V n k : Nat} {F : Nat → Nat → Int} (h : ViewIn w V n k F) (i f : Nat) (hi : i < k) (hf : f < 7) : w.cell? ⟨V, i * 7 + f, none⟩ = some (val f (F i f)) := by
  obtain ⟨cur, h1, _, h2⟩ := h
  rw [h1.cell]; exact h2 i f hi hf

/-- One node more is copied. -/
theorem ViewIn.push {w : World} {V n k : Nat} {F : Nat → Nat → Int} (h : ViewIn w V n k F) (hk : k < n) :
    ViewIn (((((((w.setCell ⟨V, k * 7, none⟩ (.int .i32 (F k 0))).setCell ⟨V, k * 7 + 1, none⟩ (.int .i32 (F k 1))).setCell ⟨V, k * 7 + 2, none⟩ (.int .i32 (F k 2))).setCell ⟨V, k * 7 + 3, none⟩ (.int .i32 (F k 3))).setCell ⟨V, k * 7 + 4, none⟩ (.int .i32 (F k 4))).setCell ⟨V, k * 7 + 5, none⟩ (.int .i32 (F k 5))).setCell ⟨V, k * 7 + 6, none⟩ (.int .u32 (F k 6))) V n (k + 1) F := by
  obtain ⟨cur, h1, h2, h3⟩ := h
  refine ⟨_, ((((((h1.set _ _).set _ _).set _ _).set _ _).set _ _).set _ _).set _ _, by simpa using h2, fun i f hi hf => ?_⟩
  simp only [Array.getElem?_setIfInBounds, Array.size_setIfInBounds]
  by_cases e : i = k
  · subst e
    have : f = 0 ∨ f = 1 ∨ f = 2 ∨ f = 3 ∨ f = 4 ∨ f = 5 ∨ f = 6 := by omega
    rcases this with rfl | rfl | rfl | rfl | rfl | rfl | rfl
    all_goals simp [val]
    all_goals omega
  · rw [if_neg (by omega), if_neg (by omega), if_neg (by omega), if_neg (by omega), if_neg (by omega), if_neg (by omega), if_neg (by omega)]
    exact h3 i f (by omega) hf

end Go.Proofs.Qxb6600559a.Treap

import Derived.Test.Qxb6605511aTables
import Derived.Laws.IdiomStrings
namespace Go.Proofs.Qxb6605511a.Ascii
open Go.RowKit

/-- Block b's first n cells hold f, and may be written. -/
def Has (w : World) (b n : Nat) (f : Nat → Value) : Prop := ∀ q, q < n → w.cell? ⟨b, q, none⟩ = some (f q) ∧ w.frozen? ⟨b, q, none⟩ = false

theorem Has.set {w : World} {b n : Nat} {f : Nat → Value} (h : Has w b n f) (m : Nat) (hm : m < n) (v : Value) (g : Nat → Value) (hv : g m = v) (hg : ∀ q, q < n → q ≠ m → g q = f q) : Has (w.setCell ⟨b, m, none⟩ v) b n g := by
  intro q hq
  refine ⟨?_, by rw [World.frozen?_setCell]; exact (h q hq).2⟩
  by_cases e : q = m
  · subst e; rw [World.cell?_setCell_same _ _ _ (h q hq).1, hv]
  · rw [World.cell?_setCell_other _ _ _ _ (by intro e'; injection e' with _ e2; exact e e2.symm), (h q hq).1, hg q hq e]

theorem Has.drew {w : World} {b n : Nat} {f : Nat → Value} (h : Has w b n f) : Has w.drew b n f := h
theorem Has.congr {w : World} {b n : Nat} {f g : Nat → Value} (h : Has w b n f) (e : ∀ q, q < n → f q = g q) : Has w b n g := fun q hq => by rw [← e q hq]; exact h q hq

/-- Byte q of the row after the bytes below k have been folded. -/
def cellB (s : ByteArray) (k q : Nat) : UInt8 := if q < k then lowB (s.data[q]?.getD 0) else s.data[q]?.getD 0
def cellV (s : ByteArray) (k q : Nat) : Value := .int .u8 ((cellB s k q).toNat : Int)

theorem data_at (s : ByteArray) (k : Nat) (h : k < s.size) : s.data[k]?.getD 0 = s[k] := by
  have h' : k < s.data.size := h
  rw [Array.getElem?_eq_getElem h']; rfl

theorem has_bytes (w : World) (s : ByteArray) (cap k : Nat) (hno : ∀ q (hq : q < s.size), q < k → ¬ ((65 : Int) ≤ (s[q].toNat : Int) ∧ (s[q].toNat : Int) ≤ 90)) :
    Has (w.alloc (.cells (bytesRow s cap) 5 ((bytesRow s cap).size, (bytesRow s cap).size + 1))) w.heap.size s.size (cellV s k) := by
  intro q hq
  rw [World.cell?_alloc_mark, World.frozen?_alloc_mark, bytesRow_at s cap q hq]
  refine ⟨?_, ?_⟩
  · have e : cellB s k q = s.data[q]'hq := by
      unfold cellB
      rw [data_at s q hq]
      split
      · exact lowB_not _ (hno q hq (by assumption))
      · rfl
    unfold cellV; rw [e]
  · have : q < (bytesRow s cap).size := by unfold bytesRow; simp; have : q < s.data.size := hq; omega
    simp; omega

theorem cellV_same (s : ByteArray) (m q : Nat) (h : q ≠ m) : cellV s (m + 1) q = cellV s m q := by
  unfold cellV cellB
  by_cases h1 : q < m
  · rw [if_pos h1, if_pos (by omega)]
  · rw [if_neg h1, if_neg (by omega)]
theorem cellV_low (s : ByteArray) (m : Nat) (hm : m < s.size) : cellV s (m + 1) m = .int .u8 ((lowB s[m]).toNat : Int) := by
  unfold cellV cellB; rw [if_pos (by omega), data_at s m hm]
theorem cellV_raw (s : ByteArray) (m : Nat) (hm : m < s.size) : cellV s m m = .int .u8 (s[m].toNat : Int) := by
  unfold cellV cellB; rw [if_neg (by omega), data_at s m hm]

theorem cellV_skip (s : ByteArray) (m q : Nat) (hm : m < s.size) (h : ¬ ((65 : Int) ≤ (s[m].toNat : Int) ∧ (s[m].toNat : Int) ≤ 90)) : cellV s m q = cellV s (m + 1) q := by
  by_cases e : q = m
  · subst e; rw [cellV_raw s q hm, cellV_low s q hm, lowB_not _ h]
  · exact (cellV_same s m q e).symm

/-- The row, all folded, reads back as the folded string. -/
theorem back (w : World) (s : ByteArray) (b cap : Nat) (h : Has w b s.size (cellV s s.size)) :
    (convert 25 9 (.slice (some ⟨b, 0, none⟩) s.size cap)).run Try.prog w = .ok (.string (lower s)) w := by
  have hl : (lower s).data.toList.length = s.size := by rw [Array.length_toList]; exact lower_size s
  have := run_convert_bytes_back (P := Try.prog) w 25 9 5 ⟨b, 0, none⟩ cap (lower s).data.toList Try.underlying25 Try.underlying5 Try.underlying9 (by
    intro j hj
    have hj' : j < s.size := by omega
    have e : (⟨b, 0, none⟩ : Addr).add j = ⟨b, j, none⟩ := by unfold Addr.add; split <;> simp_all
    rw [e, (h j hj').1]
    unfold cellV cellB
    rw [if_pos hj', data_at s j hj', ← lower_get s j hj' (by rw [lower_size]; exact hj')]
    rfl)
  rw [hl] at this
  simpa using this

theorem lower_of_none (s : ByteArray) (h : ∀ q (hq : q < s.size), ¬ ((65 : Int) ≤ (s[q].toNat : Int) ∧ (s[q].toNat : Int) ≤ 90)) : lower s = s := by
  have : (lower s).data = s.data := by
    apply Array.ext
    · exact lower_size s
    · intro i h1 h2
      exact (lower_get s i h2 h1).trans (lowB_not _ (h i h2))
  cases s; unfold lower at *; simp only at this ⊢; rw [this]

end Go.Proofs.Qxb6605511a.Ascii

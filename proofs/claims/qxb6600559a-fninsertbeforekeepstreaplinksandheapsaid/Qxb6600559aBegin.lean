import Derived.Test.Qxb6600559aIns
namespace Go.Proofs.Qxb6600559a.Treap
open Go.RowKit

theorem made_row (w : World) (z : Value) (n : Nat) (e : TypeId) : RowAt (w.alloc (.cells (madeCells #[z] n) e)) w.heap.size e (madeCells #[z] n) := RowAt.new w e _
theorem made_at (z : Value) (n i : Nat) (h : i < n) : (madeCells #[z] n)[i]? = some z := by
  rw [Array.getElem?_eq_getElem (by rw [size_madeCells]; exact h)]
  simp [madeCells, Nat.mod_one]

theorem ret_bool {a b : Bool} (h : a = b) : Ending.returned (.bool a) = .returned (.bool b) := by rw [h]

def BeginPost (w : World) (m : Nat) (F : Nat → Nat → Int) (seed : Int) (e' : Ending) (w' : World) : Prop :=
  ∃ B A, e' = .returned (.pointer (some ⟨B, 0, none⟩)) ∧ Pre w' w.heap.size B A m 0 (.slice none 0 0) [] F (-1) (-1) (fun _ => -1) seed ∧ Below w.heap.size w w'

set_option maxHeartbeats 400000 in
theorem newStatus_any (w : World) (seed : Int) (m : Nat) (hm : m ≤ 100000) (F : Nat → Nat → Int) :
    Calls Try.prog 23 #[.int .u32 seed, .int .i64 (m : Int)] w (BeginPost w m F seed) := by
  have hmk := fun wx => run_make_row' (P := Try.prog) 39 21 (.int .i32 0) 4 Try.underlying39 info21 rfl .i64 .i64 m (by omega) (by omega) wx
  go_enter Try.func23, Try.ntmps23
  go_wp2_with fail
  have hB : Below w.heap.size w (w.alloc (.cells (madeCells #[.int .i32 0] m) 21)) := (Below.refl _ _).alloc (Nat.le_refl _) _
  have hI : IntsIn (w.alloc (.cells (madeCells #[.int .i32 0] m) 21)) w.heap.size m m (fun _ => 0) := ⟨_, made_row w _ m 21, size_madeCells _ _, fun i hi => made_at _ m i hi⟩
  have hz : (w.alloc (.cells (madeCells #[.int .i32 0] m) 21)).heap.size = w.heap.size + 1 := by simp
  clear hmk
  go_loopw [6, 11] (fun _ i wr => ∃ k : Nat, k ≤ m ∧ i = .int .i64 k ∧ Below w.heap.size w wr ∧ wr.heap.size = w.heap.size + 1 ∧ IntsIn wr w.heap.size m m (fun e => if e < k then -1 else 0)) (fun _ i _ => m - (intOf i).toNat)
  case atStart => exact ⟨0, by omega, rfl, hB, hz, hI.congr (fun i _ => by simp)⟩
  case round =>
    clear hB hI hz
    obtain ⟨k, hk, rfl, hB, hz, hI⟩ := hrel
    have HI : Hid _ := hI
    have HZ : Hid _ := hz
    by_cases hlt : k < m
    · have hc : wr.cell? ⟨w.heap.size, k, none⟩ = some (.int .i32 0) := by have := hI.cell k hlt; simpa using this
      have hf := hI.frozen k
      clear hI hz
      go_wp2_with fail
      go_roundw
      case rel => exact ⟨k + 1, by omega, by go_num, hB.setCell (Nat.le_refl _) _, by simpa using HZ.out, IntsIn.set HI.out k hlt (-1) _ (by simp) (fun i _ hne => by
        by_cases h1 : i < k
        · simp [h1, show i < k + 1 by omega]
        · simp [h1, show ¬ i < k + 1 by omega])⟩
      case measure => simp [intOf]; omega
    · clear hI hz
      go_wp2_with fail
      go_ret
      have HB : Below w.heap.size w (wr.alloc (.cells (stCells (.slice none 0 0) (-1) (-1) w.heap.size m seed) 64)) := hB.alloc hB.size _
      have hzz := HZ.out
      refine ⟨wr.heap.size, w.heap.size, rfl, ⟨by omega, Nat.le_refl _, RowAt.new wr 64 _, World.ownsRow_nil _ _ _ _, fun i f hi _ => absurd hi (by omega), ?_⟩, HB⟩
      obtain ⟨cur, h1, h2, h3⟩ := HI.out
      exact ⟨cur, h1.alloc _, h2, fun e he => by rw [h3 e he, if_pos (by omega)]⟩

theorem info3 : (Try.prog.info? 3).map (fun i => (i.zero, i.size, i.bytes)) = some (some (.int .i64 0), 1, 8) := by kernel_rfl

/-- A slice of ints that came in: its n elements are z. -/
def Ints64 (w : World) (a : Option Addr) (n : Nat) (z : Nat → Int) : Prop :=
  (∀ i, i < n → -9223372036854775808 ≤ z i ∧ z i ≤ 9223372036854775807) ∧ (n = 0 ∨ ∃ b off, a = some ⟨b, off, none⟩ ∧ ∀ i, i < n → w.cell? ⟨b, off + i, none⟩ = some (.int .i64 (z i)))

/-- A row of int of the call's own. -/
def Row64 (w : World) (P n : Nat) (z : Nat → Int) : Prop := ∃ cur, RowAt w P 3 cur ∧ ∀ i, i < n → cur[i]? = some (.int .i64 (z i))
theorem Row64.cell {w : World} {P n : Nat} {z : Nat → Int} (h : Row64 w P n z) (i : Nat) (hi : i < n) : w.cell? ⟨P, i, none⟩ = some (.int .i64 (z i)) := by
  obtain ⟨cur, h1, h2⟩ := h
  rw [h1.cell]; exact h2 i hi

def ClonePost (w : World) (n : Nat) (z : Nat → Int) (e : Ending) (w' : World) : Prop :=
  ∃ a' cap', e = .returned (.slice a' n cap') ∧ (n = 0 ∨ ∃ P, a' = some ⟨P, 0, none⟩ ∧ w.heap.size ≤ P ∧ Row64 w' P n z) ∧ Below w.heap.size w w'

set_option maxHeartbeats 400000 in
theorem clone_any (a : Option Addr) (n cap : Nat) (z : Nat → Int) (w : World) (ha : Ints64 w a n z) (hn : n ≤ 1048576) :
    Calls Try.prog 8 #[.slice a n cap] w (ClonePost w n z) := by
  have q22 : ∀ (w : World) (a : Option Addr) (n c n' c' : Nat), (binOp .eql 22 (.slice a n c) (.slice none n' c')).run Try.prog w = .ok (.bool a.isNone) w := fun w a n c n' c' => Lib.run_eql_slice_nil w _ _ a n c n' c' Try.underlying22
  cases a with
  | none =>
    have hn0 : n = 0 := by
      rcases ha.2 with h | ⟨_, _, h, _⟩
      · exact h
      · cases h
    subst hn0
    clear ha
    go_enter Try.func8, Try.ntmps8
    go_wp2
    go_ret
    exact ⟨none, 0, rfl, .inl rfl, Below.refl _ _⟩
  | some x =>
    have hmk := fun wx => run_make_row' (P := Try.prog) 22 3 (.int .i64 0) 8 Try.underlying22 info3 rfl .i64 .i64 n (by omega) (by omega) wx
    have HA : Hid (Ints64 w (some x) n z) := ha
    clear ha
    go_enter Try.func8, Try.ntmps8
    go_wp2_with fail
    have H0 : RowAt (w.alloc (.cells (madeCells #[.int .i64 0] n) 3)) w.heap.size 3 (madeCells #[.int .i64 0] n) := made_row w (.int .i64 0) n 3
    have hB : Below w.heap.size w (w.alloc (.cells (madeCells #[.int .i64 0] n) 3)) := (Below.refl _ _).alloc (Nat.le_refl _) _
    go_loopw [4] (fun i wr => ∃ k : Nat, k ≤ n ∧ i = .int .i64 k ∧ Below w.heap.size w wr ∧ ∃ cur, RowAt wr w.heap.size 3 cur ∧ cur.size = n ∧ ∀ q, q < k → cur[q]? = some (.int .i64 (z q))) (fun i _ => n - (intOf i).toNat)
    case atStart => exact ⟨0, by omega, rfl, hB, _, H0, size_madeCells _ _, by omega⟩
    case round =>
      clear hB H0 hmk q22
      obtain ⟨k, hk, rfl, hB, cur, hr, hs, hq⟩ := hrel
      have HR : Hid _ := hr
      have HS : Hid _ := hs
      have HQ : Hid _ := hq
      by_cases hlt : k < n
      · rcases HA.out.2 with g3 | ⟨b, off, g4, g5⟩
        · omega
        · cases g4
          have hc1 : wr.cell? ⟨b, off + k, none⟩ = some (.int .i64 (z k)) := cell_later hB (g5 k hlt)
          obtain ⟨v0, hc⟩ : ∃ v0, wr.cell? ⟨w.heap.size, k, none⟩ = some v0 := ⟨cur[k]'(by omega), by rw [hr.cell, Array.getElem?_eq_getElem (by omega)]⟩
          have hf := hr.frozen k
          clear g5 hr hs hq
          go_wp2_with fail
          go_roundw
          case rel => exact ⟨k + 1, by omega, by go_num, hB.setCell (Nat.le_refl _) _, _, RowAt.set HR.out k _, by simpa using HS.out, fun q hq1 => by
            rw [Array.getElem?_setIfInBounds]
            by_cases e : k = q
            · subst e; rw [if_pos rfl, if_pos (by have := HS.out; omega)]
            · rw [if_neg e]; exact HQ.out q (by omega)⟩
          case measure => simp [intOf]; omega
      · obtain rfl : k = n := by omega
        clear hr hs hq
        go_wp2_with fail
        go_ret
        exact ⟨_, _, rfl, .inr ⟨_, rfl, Nat.le_refl _, cur, HR.out, HQ.out⟩, hB⟩

set_option maxHeartbeats 400000 in
theorem bytes16_any (seed : Int) (a : Option Addr) (n cap : Nat) (w : World) (hn : n ≤ maxLen) :
    Calls Try.prog 16 #[.int .u32 seed, .slice a n cap] w fun e w' => e = .returned (.bool (decide (n ≤ 1048576))) ∧ w' = w := by
  unfold maxLen at hn
  by_cases h : n ≤ 1048576
  · go_enter Try.func16, Try.ntmps16
    go_wp2
    go_ret
    exact ⟨ret_bool (by simp [h]), rfl⟩
  · go_enter Try.func16, Try.ntmps16
    go_wp2
    go_ret
    exact ⟨ret_bool (by simp [h]), rfl⟩

set_option maxHeartbeats 400000 in
theorem bytes20_any (seed : Int) (a : Option Addr) (n cap : Nat) (w : World) (hn : n ≤ maxLen) :
    Calls Try.prog 20 #[.int .u32 seed, .slice a n cap] w fun e w' => e = .returned (.bool (decide (n ≤ 1048576))) ∧ w' = w := by
  unfold maxLen at hn
  by_cases h : n ≤ 1048576
  · go_enter Try.func20, Try.ntmps20
    go_wp2
    go_ret
    exact ⟨ret_bool (by simp [h]), rfl⟩
  · go_enter Try.func20, Try.ntmps20
    go_wp2
    go_ret
    exact ⟨ret_bool (by simp [h]), rfl⟩
end Go.Proofs.Qxb6600559a.Treap

import Derived.Test.Qxb6605511aFoldWalk
import Derived.WalkSpells
namespace Go.Proofs.Qxb6605511a.Ascii
open Go.RowKit

/-- A pointer to a string: nil, or it leads to s. -/
def PtrAt (w : World) (p : Option Addr) (o : Option ByteArray) : Prop :=
  (p = none ∧ o = none) ∨ ∃ b off s, p = some ⟨b, off, none⟩ ∧ o = some s ∧ w.cell? ⟨b, off, none⟩ = some (.string s) ∧ s.size ≤ maxLen

theorem PtrAt.below {w w' : World} {p : Option Addr} {o : Option ByteArray} (h : PtrAt w p o) (hb : Below w.heap.size w w') : PtrAt w' p o := by
  rcases h with h | ⟨b, off, s, h1, h2, h3, h4⟩
  · exact .inl h
  · exact .inr ⟨b, off, s, h1, h2, cell_later hb h3, h4⟩

/-- A slice of strings: its n elements are ss. -/
def StrRow (w : World) (a : Option Addr) (n : Nat) (ss : Nat → ByteArray) : Prop :=
  n ≤ maxLen ∧ (∀ i, i < n → (ss i).size ≤ maxLen) ∧ (n = 0 ∨ ∃ b off, a = some ⟨b, off, none⟩ ∧ ∀ i, i < n → w.cell? ⟨b, off + i, none⟩ = some (.string (ss i)))

theorem StrRow.below {w w' : World} {a : Option Addr} {n : Nat} {ss : Nat → ByteArray} (h : StrRow w a n ss) (hb : Below w.heap.size w w') : StrRow w' a n ss := by
  obtain ⟨h1, h2, h3⟩ := h
  refine ⟨h1, h2, ?_⟩
  rcases h3 with h3 | ⟨b, off, h4, h5⟩
  · exact .inl h3
  · exact .inr ⟨b, off, h4, fun i hi => cell_later hb (h5 i hi)⟩

def highC (c : UInt8) : Bool := decide (128 ≤ c.toNat)
def highB (s : ByteArray) : Bool := s.data.toList.any highC
def highO (o : Option ByteArray) : Bool := match o with | none => false | some s => highB s

theorem highB_true (s : ByteArray) (k : Nat) (hk : k < s.size) (h : 128 ≤ s[k].toNat) : highB s = true := by
  unfold highB
  rw [List.any_eq_true]
  exact ⟨s[k], Array.mem_toList_iff.2 (Array.getElem_mem (xs := s.data) hk), by simpa [highC] using h⟩
theorem highB_false (s : ByteArray) (h : ∀ k (hk : k < s.size), s[k].toNat < 128) : highB s = false := by
  unfold highB
  rw [List.any_eq_false]
  intro c hc
  obtain ⟨k, hk, rfl⟩ := Array.mem_iff_getElem.1 (Array.mem_toList_iff.1 hc)
  have := h k hk
  have e : s.data[k] = s[k]'hk := rfl
  rw [e]; simp [highC]; omega

theorem and128 : ∀ n : Fin 256, bits BinOp.and IntKind.u8 (n.val : Int) 128 = if 128 ≤ n.val then 128 else 0 := by decide +kernel
theorem and128_hi (c : UInt8) (h : 128 ≤ c.toNat) : bits BinOp.and IntKind.u8 (c.toNat : Int) 128 = 128 := by
  have := and128 ⟨c.toNat, c.toNat_lt⟩; simp only [h, if_true] at this; exact this
theorem and128_lo (c : UInt8) (h : ¬ 128 ≤ c.toNat) : bits BinOp.and IntKind.u8 (c.toNat : Int) 128 = 0 := by
  have := and128 ⟨c.toNat, c.toNat_lt⟩; simp only [h, if_false] at this; exact this

set_option maxHeartbeats 400000 in
theorem high_any (s : ByteArray) (w : World) (hs : s.size ≤ maxLen) :
    Calls Try.prog 22 #[.string s] w fun e w' => e = .returned (.bool (highB s)) ∧ w' = w := by
  unfold maxLen at hs
  go_enter Try.func22, Try.ntmps22
  go_wp2
  go_loop [3] (fun i => ∃ k : Nat, k ≤ s.size ∧ i = .int .i64 k ∧ ∀ q (hq : q < s.size), q < k → s[q].toNat < 128) (fun i => s.size - (intOf i).toNat)
  case atStart => exact ⟨0, by omega, rfl, by omega⟩
  case round =>
    obtain ⟨k, hk, rfl, hno⟩ := hrel
    have HN : Hid (∀ q (hq : q < s.size), q < k → s[q].toNat < 128) := hno
    clear hno
    by_cases hlt : k < s.size
    · by_cases h1 : 128 ≤ s[k].toNat
      · have ha := and128_hi s[k] h1
        have HH : Hid (highB s = true) := highB_true s k hlt h1
        go_wp2
        go_ret
        exact ⟨ret_bool HH.out.symm, rfl⟩
      · have ha := and128_lo s[k] h1
        go_wp2
        go_round
        case rel => exact ⟨k + 1, by omega, by go_num, fun q hq hqk => by
          by_cases e : q = k
          · subst e; omega
          · exact HN.out q hq (by omega)⟩
        case measure => simp [intOf]; omega
    · have HH : Hid (highB s = false) := highB_false s (fun q hq => HN.out q hq (by omega))
      go_wp2
      go_ret
      exact ⟨ret_bool HH.out.symm, rfl⟩

set_option maxHeartbeats 400000 in
theorem ascii_any (s : ByteArray) (w : World) (hs : s.size ≤ maxLen) :
    Calls Try.prog 34 #[.string s] w fun e w' => e = .returned (.bool (!highB s)) ∧ w' = w := by
  unfold maxLen at hs
  go_enter Try.func34, Try.ntmps34
  go_wp2
  go_loop [3] (fun i => ∃ k : Nat, k ≤ s.size ∧ i = .int .i64 k ∧ ∀ q (hq : q < s.size), q < k → s[q].toNat < 128) (fun i => s.size - (intOf i).toNat)
  case atStart => exact ⟨0, by omega, rfl, by omega⟩
  case round =>
    obtain ⟨k, hk, rfl, hno⟩ := hrel
    have HN : Hid (∀ q (hq : q < s.size), q < k → s[q].toNat < 128) := hno
    clear hno
    by_cases hlt : k < s.size
    · by_cases h1 : (128 : Int) ≤ (s[k].toNat : Int)
      · have HH : Hid (highB s = true) := highB_true s k hlt (by omega)
        go_wp2
        go_ret
        exact ⟨ret_bool (by rw [HH.out]; rfl), rfl⟩
      · go_wp2
        go_round
        case rel => exact ⟨k + 1, by omega, by go_num, fun q hq hqk => by
          by_cases e : q = k
          · subst e; omega
          · exact HN.out q hq (by omega)⟩
        case measure => simp [intOf]; omega
    · have HH : Hid (highB s = false) := highB_false s (fun q hq => HN.out q hq (by omega))
      go_wp2
      go_ret
      exact ⟨ret_bool (by rw [HH.out]; rfl), rfl⟩

set_option maxHeartbeats 400000 in
theorem highAt_any (p : Option Addr) (o : Option ByteArray) (w : World) (hp : PtrAt w p o) :
    Calls Try.prog 23 #[.pointer p] w fun e w' => e = .returned (.bool (highO o)) ∧ w' = w := by
  rcases hp with ⟨rfl, rfl⟩ | ⟨b, off, s, rfl, rfl, hc, hs⟩
  · go_enter Try.func23, Try.ntmps23
    go_wp2
    go_ret
    exact ⟨rfl, rfl⟩
  · go_enter Try.func23, Try.ntmps23
    go_wp2_with fail
    refine (high_any s _ hs).mono ?_
    rintro e w' ⟨rfl, rfl⟩
    go_wp2
    go_ret
    exact ⟨rfl, rfl⟩

set_option maxHeartbeats 400000 in
theorem addLen_any (n l : Int) (w : World) (hn : 0 ≤ n ∧ n ≤ 9223372036854775807) (hl : 0 ≤ l ∧ l ≤ 9223372036854775807) :
    Calls Try.prog 31 #[.int .i64 n, .int .i64 l] w fun e w' => ∃ m, e = .returned (.int .i64 m) ∧ w' = w ∧ 0 ≤ m ∧ m ≤ 2097152 := by
  by_cases h1 : 1048576 < n
  · go_enter Try.func31, Try.ntmps31
    go_wp2
    go_ret
    exact ⟨1048577, rfl, rfl, by omega, by omega⟩
  · by_cases h2 : 1048576 < l
    · go_enter Try.func31, Try.ntmps31
      go_wp2
      go_ret
      exact ⟨1048577, rfl, rfl, by omega, by omega⟩
    · go_enter Try.func31, Try.ntmps31
      go_wp2
      go_ret
      exact ⟨n + l, rfl, rfl, by omega, by omega⟩

set_option maxHeartbeats 400000 in
theorem lenAt_any (p : Option Addr) (o : Option ByteArray) (w : World) (hp : PtrAt w p o) :
    Calls Try.prog 32 #[.pointer p] w fun e w' => ∃ m, e = .returned (.int .i64 m) ∧ w' = w ∧ 0 ≤ m ∧ m ≤ 9223372036854775807 := by
  rcases hp with ⟨rfl, rfl⟩ | ⟨b, off, s, rfl, rfl, hc, hs⟩
  · go_enter Try.func32, Try.ntmps32
    go_wp2
    go_ret
    exact ⟨0, rfl, rfl, by omega, by omega⟩
  · unfold maxLen at hs
    go_enter Try.func32, Try.ntmps32
    go_wp2
    go_ret
    exact ⟨s.size, rfl, rfl, by omega, by omega⟩

set_option maxHeartbeats 400000 in
theorem copyPtr_any (p : Option Addr) (o : Option ByteArray) (w : World) (hp : PtrAt w p o) :
    Calls Try.prog 20 #[.pointer p] w fun e w' => ∃ p', e = .returned (.pointer p') ∧ PtrAt w' p' o ∧ Below w.heap.size w w' := by
  rcases hp with ⟨rfl, rfl⟩ | ⟨b, off, s, rfl, rfl, hc, hs⟩
  · go_enter Try.func20, Try.ntmps20
    go_wp2
    go_ret
    exact ⟨none, rfl, .inl ⟨rfl, rfl⟩, Below.refl _ _⟩
  · go_enter Try.func20, Try.ntmps20
    go_wp2
    go_ret
    exact ⟨_, rfl, .inr ⟨_, _, s, rfl, rfl, by simp, hs⟩, (Below.refl _ _).alloc (Nat.le_refl _) _⟩

end Go.Proofs.Qxb6605511a.Ascii

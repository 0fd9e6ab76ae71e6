import Derived.Test.Qxb6605511aElems2
namespace Go.Proofs.Qxb6605511a.Ascii
open Go.RowKit

/-- The answer of a test that only looks: no; or yes, and X holds. -/
def BPost (w : World) (X : Prop) (e : Ending) (w' : World) : Prop := w' = w ∧ (e = .returned (.bool false) ∨ (e = .returned (.bool true) ∧ X))
theorem BPost.no {w : World} {X : Prop} : BPost w X (.returned (.bool false)) w := ⟨rfl, .inl rfl⟩
theorem BPost.yes {w : World} {X : Prop} (h : X) : BPost w X (.returned (.bool true)) w := ⟨rfl, .inr ⟨rfl, h⟩⟩

def Small (o : Option ByteArray) : Prop := ∀ s, o = some s → s.size ≤ 1048576
theorem Small.none : Small Option.none := fun _ h => by cases h
theorem Small.some {s : ByteArray} (h : s.size ≤ 1048576) : Small (Option.some s) := fun _ e => by cases e; exact h

structure AllSmall (s0 s3 s6 : ByteArray) (o1 o4 o5 : Option ByteArray) (n : Nat) (ss : Nat → ByteArray) : Prop where
  h0 : s0.size ≤ 1048576
  h3 : s3.size ≤ 1048576
  h6 : s6.size ≤ 1048576
  h1 : Small o1
  h4 : Small o4
  h5 : Small o5
  hn : n ≤ 1048576
  hs : ∀ i, i < n → (ss i).size ≤ 1048576

set_option maxHeartbeats 4000000 in
theorem bytes18_any (s0 s3 s6 : ByteArray) (p1 p4 p5 : Option Addr) (o1 o4 o5 : Option ByteArray) (a : Option Addr) (n cap : Nat) (ss : Nat → ByteArray) (w : World)
    (h0 : s0.size ≤ maxLen) (h3 : s3.size ≤ maxLen) (h6 : s6.size ≤ maxLen) (h1 : PtrAt w p1 o1) (h4 : PtrAt w p4 o4) (h5 : PtrAt w p5 o5) (ha : StrRow w a n ss) :
    Calls Try.prog 18 #[.string s0, .pointer p1, .slice a n cap, .string s3, .pointer p4, .pointer p5, .string s6] w (BPost w (AllSmall s0 s3 s6 o1 o4 o5 n ss)) := by
  have HA : Hid _ := ha
  have hn : n ≤ 9223372036854775807 := ha.1
  clear ha
  rcases h1 with ⟨rfl, rfl⟩ | ⟨b1, f1, t1, rfl, rfl, c1, z1⟩ <;> rcases h4 with ⟨rfl, rfl⟩ | ⟨b4, f4, t4, rfl, rfl, c4, z4⟩ <;> rcases h5 with ⟨rfl, rfl⟩ | ⟨b5, f5, t5, rfl, rfl, c5, z5⟩
  all_goals
    unfold maxLen at *
    go_enter Try.func18, Try.ntmps18
    go_wp2_with fail
    any_goals (go_ret; exact BPost.no)
    go_loop [15, 16] (fun t i => ∃ (k m : Nat), k ≤ n ∧ i = .int .i64 k ∧ t = .int .i64 m ∧ m ≤ 1048576 ∧ ∀ q, q < k → (ss q).size ≤ 1048576) (fun _ i => n - (intOf i).toNat)
    case atStart => exact ⟨0, _, by omega, rfl, by go_num, by omega, by omega⟩
    case round =>
      obtain ⟨k, m, hk, rfl, rfl, hm, hq⟩ := hrel
      have HQ : Hid (∀ q, q < k → (ss q).size ≤ 1048576) := hq
      clear hq
      by_cases hlt : k < n
      · obtain ⟨g1, g2, g3⟩ := HA.out
        rcases g3 with g3 | ⟨b, off, g4, g5⟩
        · omega
        · cases g4
          have hc1 : w.cell? ⟨b, off + k, none⟩ = some (.string (ss k)) := g5 k hlt
          have hz := g2 k hlt
          unfold maxLen at hz
          clear g1 g2 g5
          go_wp2
          any_goals (go_ret; exact BPost.no)
          go_round
          case rel => exact ⟨k + 1, m + (ss k).size, by omega, by go_num, by go_num, by omega, fun q hq => by
            by_cases e : q = k
            · subst e; omega
            · exact HQ.out q (by omega)⟩
          case measure => simp [intOf]; omega
      · obtain rfl : k = n := by omega
        go_wp2
        all_goals (go_ret; first | exact BPost.no | exact BPost.yes ⟨by omega, by omega, by omega, by first | exact Small.none | exact Small.some (by omega), by first | exact Small.none | exact Small.some (by omega), by first | exact Small.none | exact Small.some (by omega), by omega, HQ.out⟩)

end Go.Proofs.Qxb6605511a.Ascii

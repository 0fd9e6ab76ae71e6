import Derived.Test.Qxb6605511aElems
namespace Go.Proofs.Qxb6605511a.Ascii
open Go.RowKit

theorem info9 : (Try.prog.info? 9).map (fun i => (i.zero, i.size, i.bytes)) = some (some (.string ⟨#[]⟩), 1, 16) := by kernel_rfl

def copV (ss : Nat → ByteArray) (k q : Nat) : Value := if q < k then .string (ss q) else .string ⟨#[]⟩
theorem copV_same (ss : Nat → ByteArray) (m q : Nat) (h : q ≠ m) : copV ss (m + 1) q = copV ss m q := by
  unfold copV
  by_cases h1 : q < m
  · rw [if_pos h1, if_pos (by omega)]
  · rw [if_neg h1, if_neg (by omega)]
theorem copV_at (ss : Nat → ByteArray) (m : Nat) : copV ss (m + 1) m = .string (ss m) := by
  unfold copV; rw [if_pos (by omega)]

set_option maxHeartbeats 400000 in
theorem copyLines_any (a : Option Addr) (n cap : Nat) (ss : Nat → ByteArray) (w : World) (ha : StrRow w a n ss) (hn : n ≤ 1048576) :
    Calls Try.prog 21 #[.slice a n cap] w fun e w' => ∃ a' cap', e = .returned (.slice a' n cap') ∧ a'.isNone = a.isNone ∧ StrRow w' a' n ss ∧ Below w.heap.size w w' := by
  have q31 : ∀ (w : World) (a : Option Addr) (n c n' c' : Nat), (binOp .eql 31 (.slice a n c) (.slice none n' c')).run Try.prog w = .ok (.bool a.isNone) w := fun w a n c n' c' => Lib.run_eql_slice_nil w _ _ a n c n' c' Try.underlying31
  cases a with
  | none =>
    obtain ⟨g1, g2, g3⟩ := ha
    rcases g3 with g3 | ⟨b, off, g4, g5⟩
    · subst g3
      go_enter Try.func21, Try.ntmps21
      go_wp2
      go_ret
      exact ⟨none, 0, rfl, rfl, ⟨by unfold maxLen; omega, g2, .inl rfl⟩, Below.refl _ _⟩
    · cases g4
  | some x =>
    have hmk := fun wx => run_make_row' (P := Try.prog) 31 9 (.string ⟨#[]⟩) 16 Try.underlying31 info9 rfl .i64 .i64 n (by omega) (by omega) wx
    have HA : Hid (StrRow w (some x) n ss) := ha
    clear ha
    go_enter Try.func21, Try.ntmps21
    go_wp2_with fail
    have H0 := has_made w (.string ⟨#[]⟩) n 9
    have hB : Below w.heap.size w (w.alloc (.cells (madeCells #[.string ⟨#[]⟩] n) 9)) := (Below.refl _ _).alloc (Nat.le_refl _) _
    go_loopw [4] (fun i wr => ∃ k : Nat, k ≤ n ∧ i = .int .i64 k ∧ Below w.heap.size w wr ∧ Has wr w.heap.size n (copV ss k)) (fun i _ => n - (intOf i).toNat)
    case atStart => exact ⟨0, by omega, rfl, hB, H0.congr (fun q _ => by simp [copV])⟩
    case round =>
      clear hB H0 hmk q31
      obtain ⟨k, hk, rfl, hB, hhas⟩ := hrel
      have HH : Hid (Has wr w.heap.size n (copV ss k)) := hhas
      clear hhas
      by_cases hlt : k < n
      · obtain ⟨g1, g2, g3⟩ := HA.out
        rcases g3 with g3 | ⟨b, off, g4, g5⟩
        · omega
        · cases g4
          have hc1 : wr.cell? ⟨b, off + k, none⟩ = some (.string (ss k)) := cell_later hB (g5 k hlt)
          have hc : wr.cell? ⟨w.heap.size, k, none⟩ = some (copV ss k k) := (HH.out k hlt).1
          have hf : wr.frozen? ⟨w.heap.size, k, none⟩ = false := (HH.out k hlt).2
          clear g1 g2 g5
          go_wp2
          go_roundw
          case rel => exact ⟨k + 1, by omega, by go_num, hB.setCell (Nat.le_refl _) _, HH.out.set k hlt _ _ (copV_at ss k) (fun q _ h => copV_same ss k q h)⟩
          case measure => simp [intOf]; omega
      · obtain rfl : k = n := by omega
        go_wp2
        go_ret
        refine ⟨_, _, rfl, rfl, ⟨HA.out.1, HA.out.2.1, .inr ⟨_, _, rfl, fun i hi => ?_⟩⟩, hB⟩
        rw [Nat.zero_add, (HH.out i hi).1]
        unfold copV; rw [if_pos hi]

set_option maxHeartbeats 1000000 in
theorem postal_any (s0 s3 s6 : ByteArray) (p1 p4 p5 : Option Addr) (o1 o4 o5 : Option ByteArray) (a : Option Addr) (n cap : Nat) (ss : Nat → ByteArray) (w : World)
    (h0 : s0.size ≤ maxLen) (h3 : s3.size ≤ maxLen) (h6 : s6.size ≤ maxLen) (h1 : PtrAt w p1 o1) (h4 : PtrAt w p4 o4) (h5 : PtrAt w p5 o5) (ha : StrRow w a n ss) :
    Calls Try.prog 19 #[.string s0, .pointer p1, .slice a n cap, .string s3, .pointer p4, .pointer p5, .string s6] w fun e w' => ∃ m, e = .returned (.int .i64 m) ∧ w' = w := by
  unfold maxLen at h0 h3 h6
  have H1 : Hid _ := h1
  have H4 : Hid _ := h4
  have H5 : Hid _ := h5
  have HA : Hid _ := ha
  have hn : n ≤ 9223372036854775807 := ha.1
  clear h1 h4 h5 ha
  go_enter Try.func19, Try.ntmps19
  go_wp2_with fail
  refine (addLen_any 0 s0.size _ (by omega) (by omega)).mono ?_
  rintro e w ⟨m0, rfl, rfl, b0⟩
  go_wp2_with fail
  refine (lenAt_any p1 o1 _ H1.out).mono ?_
  rintro e w ⟨l1, rfl, rfl, c1⟩
  go_wp2_with fail
  refine (addLen_any m0 l1 _ (by omega) (by omega)).mono ?_
  rintro e w ⟨m1, rfl, rfl, b1⟩
  go_wp2_with fail
  refine (addLen_any m1 s3.size _ (by omega) (by omega)).mono ?_
  rintro e w ⟨m3, rfl, rfl, b3⟩
  go_wp2_with fail
  refine (lenAt_any p4 o4 _ H4.out).mono ?_
  rintro e w ⟨l4, rfl, rfl, c4⟩
  go_wp2_with fail
  refine (addLen_any m3 l4 _ (by omega) (by omega)).mono ?_
  rintro e w ⟨m4, rfl, rfl, b4⟩
  go_wp2_with fail
  refine (lenAt_any p5 o5 _ H5.out).mono ?_
  rintro e w ⟨l5, rfl, rfl, c5⟩
  go_wp2_with fail
  refine (addLen_any m4 l5 _ (by omega) (by omega)).mono ?_
  rintro e w ⟨m5, rfl, rfl, b5⟩
  go_wp2_with fail
  refine (addLen_any m5 s6.size _ (by omega) (by omega)).mono ?_
  rintro e w ⟨m6, rfl, rfl, b6⟩
  go_wp2_with fail
  go_loop [15, 16] (fun t i => ∃ (k : Nat) (m : Int), k ≤ n ∧ i = .int .i64 k ∧ t = .int .i64 m ∧ 0 ≤ m ∧ m ≤ 2097152) (fun _ i => n - (intOf i).toNat)
  case atStart => exact ⟨0, m6, by omega, rfl, rfl, b6.1, b6.2⟩
  case round =>
    obtain ⟨k, m, hk, rfl, rfl, hm0, hm1⟩ := hrel
    by_cases hlt : k < n
    · by_cases hbig : 1048576 < m
      · go_wp2
        go_ret
        exact ⟨⟨m, rfl⟩, rfl⟩
      · obtain ⟨g1, g2, g3⟩ := HA.out
        rcases g3 with g3 | ⟨b, off, g4, g5⟩
        · omega
        · cases g4
          have hc1 : w.cell? ⟨b, off + k, none⟩ = some (.string (ss k)) := g5 k hlt
          have hz := g2 k hlt
          unfold maxLen at hz
          clear g1 g2 g5
          go_wp2_with fail
          refine (addLen_any m 16 _ (by omega) (by omega)).mono ?_
          rintro e w ⟨m7, rfl, rfl, b7⟩
          go_wp2_with fail
          refine (addLen_any m7 (ss k).size _ (by omega) (by omega)).mono ?_
          rintro e w ⟨m8, rfl, rfl, b8⟩
          go_wp2
          go_round
          case rel => exact ⟨k + 1, m8, by omega, by go_num, rfl, b8.1, b8.2⟩
          case measure => simp [intOf]; omega
    · go_wp2
      go_ret
      exact ⟨⟨m, rfl⟩, rfl⟩

end Go.Proofs.Qxb6605511a.Ascii

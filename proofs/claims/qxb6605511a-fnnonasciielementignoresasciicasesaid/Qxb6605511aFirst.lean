import Derived.Test.Qxb6605511aElems2
import Derived.BigRegion
namespace Go.Proofs.Qxb6605511a.Ascii
open Go.RowKit

def nmB (k : Nat) : ByteArray :=
  match k with
  | 0 => ⟨#[110, 97, 109, 101]⟩
  | 1 => ⟨#[111, 114, 103]⟩
  | 2 => ⟨#[99, 105, 116, 121]⟩
  | 3 => ⟨#[115, 112]⟩
  | 4 => ⟨#[112, 99]⟩
  | _ => ⟨#[99, 99]⟩

def ptA (B : Nat) (p1 p4 p5 : Option Addr) (k : Nat) : Option Addr :=
  match k with
  | 0 => some ⟨B, 0, none⟩
  | 1 => p1
  | 2 => some ⟨B, 3, none⟩
  | 3 => p4
  | 4 => p5
  | _ => some ⟨B, 6, none⟩
def valO (s0 s3 s6 : ByteArray) (o1 o4 o5 : Option ByteArray) (k : Nat) : Option ByteArray :=
  match k with
  | 0 => some s0
  | 1 => o1
  | 2 => some s3
  | 3 => o4
  | 4 => o5
  | _ => some s6

/-- What the loop's table holds, and where it leads. -/
structure Table (w : World) (S : Nat) (nm : Nat → ByteArray) (pt : Nat → Option Addr) (val : Nat → Option ByteArray) : Prop where
  name : ∀ k, k < 6 → w.cell? ⟨S, k * 2, none⟩ = some (.string (nm k))
  ptr : ∀ k, k < 6 → w.cell? ⟨S, k * 2 + 1, none⟩ = some (.pointer (pt k))
  leads : ∀ k, k < 6 → PtrAt w (pt k) (val k)

theorem Table.below {w w' : World} {S : Nat} {nm : Nat → ByteArray} {pt : Nat → Option Addr} {val : Nat → Option ByteArray} (h : Table w S nm pt val) (hb : Below w.heap.size w w') : Table w' S nm pt val :=
  ⟨fun k hk => cell_later hb (h.name k hk), fun k hk => cell_later hb (h.ptr k hk), fun k hk => (h.leads k hk).below hb⟩

/-- The table as the literal lays it. -/
abbrev tableObj (B : Nat) (p1 p4 p5 : Option Addr) : Obj :=
  .cells #[.string ⟨#[110, 97, 109, 101]⟩, .pointer (some ⟨B, 0, none⟩), .string ⟨#[111, 114, 103]⟩, .pointer p1, .string ⟨#[99, 105, 116, 121]⟩, .pointer (some ⟨B, 3, none⟩),
    .string ⟨#[115, 112]⟩, .pointer p4, .string ⟨#[112, 99]⟩, .pointer p5, .string ⟨#[99, 99]⟩, .pointer (some ⟨B, 6, none⟩)] 46

theorem table_of (s0 s3 s6 : ByteArray) (p1 p4 p5 : Option Addr) (o1 o4 o5 : Option ByteArray) (B : Nat) (w : World)
    (h0 : s0.size ≤ maxLen) (h3 : s3.size ≤ maxLen) (h6 : s6.size ≤ maxLen) (h1 : PtrAt w p1 o1) (h4 : PtrAt w p4 o4) (h5 : PtrAt w p5 o5)
    (c0 : w.cell? ⟨B, 0, none⟩ = some (.string s0)) (c3 : w.cell? ⟨B, 3, none⟩ = some (.string s3)) (c6 : w.cell? ⟨B, 6, none⟩ = some (.string s6)) :
    Table (w.alloc (tableObj B p1 p4 p5)).drew w.heap.size nmB (ptA B p1 p4 p5) (valO s0 s3 s6 o1 o4 o5) := by
  have hb : Below w.heap.size w (w.alloc (tableObj B p1 p4 p5)).drew := ((Below.refl _ _).alloc (Nat.le_refl _) _).drew
  have k6 : ∀ k, k < 6 → k = 0 ∨ k = 1 ∨ k = 2 ∨ k = 3 ∨ k = 4 ∨ k = 5 := by omega
  refine ⟨fun k hk => ?_, fun k hk => ?_, fun k hk => ?_⟩
  · rcases k6 k hk with rfl | rfl | rfl | rfl | rfl | rfl <;> simp [nmB]
  · rcases k6 k hk with rfl | rfl | rfl | rfl | rfl | rfl <;> simp [ptA]
  · rcases k6 k hk with rfl | rfl | rfl | rfl | rfl | rfl
    · exact .inr ⟨_, _, s0, rfl, rfl, cell_later hb c0, h0⟩
    · exact h1.below hb
    · exact .inr ⟨_, _, s3, rfl, rfl, cell_later hb c3, h3⟩
    · exact h4.below hb
    · exact h5.below hb
    · exact .inr ⟨_, _, s6, rfl, rfl, cell_later hb c6, h6⟩

def streetB : ByteArray := ⟨#[115, 116, 114, 101, 101, 116]⟩
def anyHigh (n : Nat) (ss : Nat → ByteArray) : Bool := (List.range n).any (fun i => highB (ss i))
theorem anyHigh_true (n : Nat) (ss : Nat → ByteArray) (k : Nat) (hk : k < n) (h : highB (ss k) = true) : anyHigh n ss = true := by
  unfold anyHigh; rw [List.any_eq_true]; exact ⟨k, List.mem_range.2 hk, h⟩
theorem anyHigh_false (n : Nat) (ss : Nat → ByteArray) (h : ∀ k, k < n → highB (ss k) = false) : anyHigh n ss = false := by
  unfold anyHigh; rw [List.any_eq_false]; intro x hx; rw [h x (List.mem_range.1 hx)]; simp

/-- What nonASCIIElement answers. -/
def nonA (s0 s3 s6 : ByteArray) (o1 o4 o5 : Option ByteArray) (n : Nat) (ss : Nat → ByteArray) : ByteArray :=
  if highB s0 then nmB 0 else if highO o1 then nmB 1 else if highB s3 then nmB 2 else if highO o4 then nmB 3 else if highO o5 then nmB 4 else if highB s6 then nmB 5 else if anyHigh n ss then streetB else ⟨#[]⟩

theorem nonA_at (s0 s3 s6 : ByteArray) (o1 o4 o5 : Option ByteArray) (n : Nat) (ss : Nat → ByteArray) (vl : Nat → Option ByteArray) (hv : vl = valO s0 s3 s6 o1 o4 o5) (k : Nat) (hk : k < 6) (hq : ∀ q, q < k → highO (vl q) = false) (h : highO (vl k) = true) :
    nonA s0 s3 s6 o1 o4 o5 n ss = nmB k := by
  subst hv
  have k6 : k = 0 ∨ k = 1 ∨ k = 2 ∨ k = 3 ∨ k = 4 ∨ k = 5 := by omega
  rcases k6 with rfl | rfl | rfl | rfl | rfl | rfl
  · simp only [valO, highO] at h; simp [nonA, h]
  · have q0 := hq 0 (by omega); simp only [valO, highO] at q0; simp only [valO] at h; simp [nonA, q0, h]
  · have q0 := hq 0 (by omega); have q1 := hq 1 (by omega); simp only [valO] at q0 q1 h; simp only [highO] at q0 h
    unfold nonA; rw [q0, q1, h]; simp
  · have q0 := hq 0 (by omega); have q1 := hq 1 (by omega); have q2 := hq 2 (by omega); simp only [valO] at q0 q1 q2 h; simp only [highO] at q0 q2
    unfold nonA; rw [q0, q1, q2, h]; simp
  · have q0 := hq 0 (by omega); have q1 := hq 1 (by omega); have q2 := hq 2 (by omega); have q3 := hq 3 (by omega); simp only [valO] at q0 q1 q2 q3 h; simp only [highO] at q0 q2
    unfold nonA; rw [q0, q1, q2, q3, h]; simp
  · have q0 := hq 0 (by omega); have q1 := hq 1 (by omega); have q2 := hq 2 (by omega); have q3 := hq 3 (by omega); have q4 := hq 4 (by omega); simp only [valO] at q0 q1 q2 q3 q4 h; simp only [highO] at q0 q2 h
    unfold nonA; rw [q0, q1, q2, q3, q4, h]; simp

theorem nonA_past (s0 s3 s6 : ByteArray) (o1 o4 o5 : Option ByteArray) (n : Nat) (ss : Nat → ByteArray) (vl : Nat → Option ByteArray) (hv : vl = valO s0 s3 s6 o1 o4 o5) (hq : ∀ q, q < 6 → highO (vl q) = false) :
    nonA s0 s3 s6 o1 o4 o5 n ss = if anyHigh n ss then streetB else ⟨#[]⟩ := by
  subst hv
  have q0 := hq 0 (by omega); have q1 := hq 1 (by omega); have q2 := hq 2 (by omega); have q3 := hq 3 (by omega); have q4 := hq 4 (by omega); have q5 := hq 5 (by omega)
  simp only [valO] at q0 q1 q2 q3 q4 q5; simp only [highO] at q0 q2 q5
  unfold nonA; rw [q0, q1, q2, q3, q4, q5]; simp

set_option maxHeartbeats 1000000 in
theorem first_any (s0 s3 s6 : ByteArray) (p1 p4 p5 : Option Addr) (o1 o4 o5 : Option ByteArray) (a : Option Addr) (n cap : Nat) (ss : Nat → ByteArray) (B : Nat) (w : World)
    (h0 : s0.size ≤ maxLen) (h3 : s3.size ≤ maxLen) (h6 : s6.size ≤ maxLen) (h1 : PtrAt w p1 o1) (h4 : PtrAt w p4 o4) (h5 : PtrAt w p5 o5) (ha : StrRow w a n ss)
    (c0 : w.cell? ⟨B, 0, none⟩ = some (.string s0)) (c1 : w.cell? ⟨B, 1, none⟩ = some (.pointer p1)) (c2 : w.cell? ⟨B, 2, none⟩ = some (.slice a n cap)) (c3 : w.cell? ⟨B, 3, none⟩ = some (.string s3))
    (c4 : w.cell? ⟨B, 4, none⟩ = some (.pointer p4)) (c5 : w.cell? ⟨B, 5, none⟩ = some (.pointer p5)) (c6 : w.cell? ⟨B, 6, none⟩ = some (.string s6)) :
    Calls Try.prog 33 #[.pointer (some ⟨B, 0, none⟩)] w fun e w' => e = .returned (.string (nonA s0 s3 s6 o1 o4 o5 n ss)) ∧ Below w.heap.size w w' := by
  have HT : Hid _ := table_of s0 s3 s6 p1 p4 p5 o1 o4 o5 B w h0 h3 h6 h1 h4 h5 c0 c3 c6
  have HA : Hid (StrRow w a n ss) := ha
  have hB : Below w.heap.size w (w.alloc (tableObj B p1 p4 p5)).drew := ((Below.refl _ _).alloc (Nat.le_refl _) _).drew
  have HB : Hid _ := hB
  have HC2 : Hid _ := cell_later hB c2
  clear h1 h4 h5 ha hB
  go_enter Try.func33, Try.ntmps33
  go_wp2_with fail
  go_big_region
  go_wp2_with fail
  clear c0 c1 c2 c3 c4 c5 c6
  obtain ⟨pt, hpt⟩ : ∃ pt, pt = ptA B p1 p4 p5 := ⟨_, rfl⟩
  obtain ⟨vl, hvl⟩ : ∃ vl, vl = valO s0 s3 s6 o1 o4 o5 := ⟨_, rfl⟩
  have HV : Hid (vl = valO s0 s3 s6 o1 o4 o5) := hvl
  rw [← hpt, ← hvl] at HT
  clear hpt hvl
  go_loopw [4, 36] (fun _ i wr => ∃ k : Nat, k ≤ 6 ∧ i = .int .i64 k ∧ Below w.heap.size w wr ∧ Table wr w.heap.size nmB pt vl ∧ StrRow wr a n ss ∧ wr.cell? ⟨B, 2, none⟩ = some (.slice a n cap) ∧ ∀ q, q < k → highO (vl q) = false) (fun _ i _ => 6 - (intOf i).toNat)
  case atStart => exact ⟨0, by omega, rfl, HB.out, HT.out, StrRow.below HA.out HB.out, HC2.out, by omega⟩
  case round =>
    clear HB HT HA HC2
    obtain ⟨k, hk, rfl, hB, hT, hA, hC2, hq⟩ := hrel
    have HT : Hid _ := hT
    have HA : Hid (StrRow wr a n ss) := hA
    have HQ : Hid _ := hq
    clear hT hA hq
    by_cases hlt : k < 6
    · have hn := HT.out.name k hlt
      have hp := HT.out.ptr k hlt
      have hl := HT.out.leads k hlt
      generalize pt k = p at hn hp hl
      generalize hvk : vl k = v at hl
      have HVK : Hid (vl k = v) := hvk
      clear hvk
      have HL : Hid (PtrAt wr p v) := hl
      have hal : ∀ o, Below wr.heap.size wr (wr.alloc o) := fun o => (Below.refl _ _).alloc (Nat.le_refl _) o
      have HAL : Hid _ := hal
      clear hal
      rcases hl with ⟨rfl, rfl⟩ | ⟨b, off, t, rfl, rfl, hc, hz⟩
      · go_wp2_with fail
        go_roundw
        case rel => exact ⟨k + 1, by omega, by go_num, hB.alloc hB.size _, Table.below HT.out (HAL.out _), StrRow.below HA.out (HAL.out _), cell_later (HAL.out _) hC2, fun q hq => by
            by_cases e : q = k
            · subst e; rw [HVK.out]; rfl
            · exact HQ.out q (by omega)⟩
        case measure => simp [intOf]; omega
      · have hbl : b < wr.heap.size := World.block_lt_of_cell? _ _ hc
        go_wp2_with fail
        refine (ascii_any t _ hz).mono ?_
        rintro e wx ⟨rfl, hwx⟩
        have hB2 : Below wr.heap.size wr wx := by rw [hwx]; exact HAL.out _
        have HW : Hid (Below wr.heap.size wr wx) := hB2
        clear hB2 HAL
        cases hh : highB t
        · have HF : Hid (highB t = false) := hh
          clear hh
          subst hwx
          go_wp2_with fail
          go_roundw
          case rel => exact ⟨k + 1, by omega, by go_num, hB.alloc hB.size _, Table.below HT.out HW.out, StrRow.below HA.out HW.out, cell_later HW.out hC2, fun q hq => by
              by_cases e : q = k
              · subst e; rw [HVK.out]; exact HF.out
              · exact HQ.out q (by omega)⟩
          case measure => simp [intOf]; omega
        · have HE : Hid _ := nonA_at s0 s3 s6 o1 o4 o5 n ss vl HV.out k hlt HQ.out (by rw [HVK.out]; exact hh)
          clear hh
          subst hwx
          go_wp2_with fail
          go_ret
          exact ⟨ret_string HE.out.symm, hB.alloc hB.size _⟩
    · have HE : Hid _ := nonA_past s0 s3 s6 o1 o4 o5 n ss vl HV.out (fun q hq => HQ.out q (by omega))
      have hd : decide ((k : Int) < 6) = false := by simp; omega
      have hnm : n ≤ 9223372036854775807 := HA.out.1
      go_wp2_with fail
      go_loop [59] (fun i => ∃ k : Nat, k ≤ n ∧ i = .int .i64 k ∧ ∀ q, q < k → highB (ss q) = false) (fun i => n - (intOf i).toNat)
      case atStart => exact ⟨0, by omega, rfl, by omega⟩
      case round =>
        clear HT HQ
        obtain ⟨k, hk, rfl, hq⟩ := hrel
        have HQ : Hid (∀ q, q < k → highB (ss q) = false) := hq
        clear hq
        by_cases hlt : k < n
        · obtain ⟨g1, g2, g3⟩ := HA.out
          rcases g3 with g3 | ⟨b, off, g4, g5⟩
          · omega
          · cases g4
            have hc1 : wr.cell? ⟨b, off + k, none⟩ = some (.string (ss k)) := g5 k hlt
            have hz := g2 k hlt
            clear g1 g2 g5
            go_wp2_with fail
            refine (ascii_any (ss k) _ hz).mono ?_
            rintro e wr ⟨rfl, rfl⟩
            cases hh : highB (ss k)
            · have HF : Hid (highB (ss k) = false) := hh
              clear hh
              go_wp2_with fail
              go_round
              case rel => exact ⟨k + 1, by omega, by go_num, fun q hq => by
                by_cases e : q = k
                · subst e; exact HF.out
                · exact HQ.out q (by omega)⟩
              case measure => simp [intOf]; omega
            · have HF : Hid (anyHigh n ss = true) := anyHigh_true n ss k hlt hh
              clear hh
              go_wp2_with fail
              go_ret
              exact ⟨ret_string (by rw [HE.out, HF.out]; rfl), hB⟩
        · have HF : Hid (anyHigh n ss = false) := anyHigh_false n ss (fun q hq => HQ.out q (by omega))
          go_wp2_with fail
          go_ret
          exact ⟨ret_string (by rw [HE.out, HF.out]; rfl), hB⟩
end Go.Proofs.Qxb6605511a.Ascii

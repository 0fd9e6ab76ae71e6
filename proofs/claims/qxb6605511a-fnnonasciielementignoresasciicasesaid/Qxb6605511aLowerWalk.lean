import Derived.Test.Qxb6605511aLower
namespace Go.Proofs.Qxb6605511a.Ascii
open Go.RowKit

theorem ret_string {a b : ByteArray} (h : a = b) : Ending.returned (.string a) = .returned (.string b) := by rw [h]

set_option maxHeartbeats 1000000 in
theorem lower_any (s : ByteArray) (w : World) (hs : s.size ≤ 1048576) :
    Calls Try.prog 29 #[.string s] w fun e w' => e = .returned (.string (lower s)) ∧ Below w.heap.size w w' := by
  have hcv := fun w => run_bytes_of_string (P := Try.prog) w 9 25 5 s Try.underlying9 Try.underlying25 Try.underlying5
  go_enter Try.func29, Try.ntmps29
  go_wp2
  go_loop [3] (fun i => ∃ k : Nat, k ≤ s.size ∧ i = .int .i64 k ∧ ∀ q (hq : q < s.size), q < k → ¬ ((65 : Int) ≤ (s[q].toNat : Int) ∧ (s[q].toNat : Int) ≤ 90)) (fun i => s.size - (intOf i).toNat)
  case atStart => exact ⟨0, by omega, rfl, by omega⟩
  case round =>
    obtain ⟨k, hk, rfl, hno⟩ := hrel
    have HN : Hid (∀ q (hq : q < s.size), q < k → ¬ ((65 : Int) ≤ (s[q].toNat : Int) ∧ (s[q].toNat : Int) ≤ 90)) := hno
    clear hno
    by_cases hlt : k < s.size
    · by_cases h1 : (65 : Int) ≤ (s[k].toNat : Int)
      · by_cases h2 : (s[k].toNat : Int) ≤ 90
        · go_wp2_with fail
          have H0 := has_bytes w s (grownCap w s.size 0 5) k HN.out
          have hB : Below w.heap.size w (w.alloc (.cells (bytesRow s (grownCap w s.size 0 5)) 5 ((bytesRow s (grownCap w s.size 0 5)).size, (bytesRow s (grownCap w s.size 0 5)).size + 1))).drew :=
            ((Below.refl _ _).alloc (Nat.le_refl _) _).drew
          clear hcv h1 h2
          generalize grownCap w s.size 0 5 = cap at H0 hB ⊢
          go_loopw [5] (fun j wr => ∃ m : Nat, k ≤ m ∧ m ≤ s.size ∧ j = .int .i64 m ∧ Below w.heap.size w wr ∧ Has wr w.heap.size s.size (cellV s m)) (fun j _ => s.size - (intOf j).toNat)
          case atStart => exact ⟨k, by omega, by omega, rfl, hB, H0.drew⟩
          case round =>
            obtain ⟨m, hkm, hms, rfl, hbel, hhas⟩ := hrel
            have HH : Hid (Has wr w.heap.size s.size (cellV s m)) := hhas
            clear hhas
            by_cases hlt' : m < s.size
            · have hc : wr.cell? ⟨w.heap.size, m, none⟩ = some (.int .u8 (s[m].toNat : Int)) := by rw [(HH.out m hlt').1, cellV_raw s m hlt']
              have hf : wr.frozen? ⟨w.heap.size, m, none⟩ = false := (HH.out m hlt').2
              by_cases g1 : (65 : Int) ≤ (s[m].toNat : Int)
              · by_cases g2 : (s[m].toNat : Int) ≤ 90
                · go_wp2
                  go_roundw
                  case rel => exact ⟨m + 1, by omega, by omega, by go_num, hbel.setCell (Nat.le_refl _) _, HH.out.set m hlt' _ _ (by rw [cellV_low s m hlt', lowB_cap _ g1 g2]) (fun q _ h => cellV_same s m q h)⟩
                  case measure => simp [intOf]; omega
                · go_wp2
                  go_roundw
                  case rel => exact ⟨m + 1, by omega, by omega, by go_num, hbel, HH.out.congr (fun q _ => cellV_skip s m q hlt' (by omega))⟩
                  case measure => simp [intOf]; omega
              · go_wp2
                go_roundw
                case rel => exact ⟨m + 1, by omega, by omega, by go_num, hbel, HH.out.congr (fun q _ => cellV_skip s m q hlt' (by omega))⟩
                case measure => simp [intOf]; omega
            · obtain rfl : m = s.size := by omega
              have hb := back wr s w.heap.size cap HH.out
              go_wp2
              go_ret
              exact ⟨rfl, hbel⟩
        · go_wp2
          go_round
          case rel => exact ⟨k + 1, by omega, by go_num, fun q hq hqk => by
            by_cases e : q = k
            · subst e; omega
            · exact HN.out q hq (by omega)⟩
          case measure => simp [intOf]; omega
      · go_wp2
        go_round
        case rel => exact ⟨k + 1, by omega, by go_num, fun q hq hqk => by
          by_cases e : q = k
          · subst e; omega
          · exact HN.out q hq (by omega)⟩
        case measure => simp [intOf]; omega
    · go_wp2
      go_ret
      exact ⟨ret_string (lower_of_none s (fun q hq => HN.out q hq (by omega))).symm, Below.refl _ _⟩
end Go.Proofs.Qxb6605511a.Ascii

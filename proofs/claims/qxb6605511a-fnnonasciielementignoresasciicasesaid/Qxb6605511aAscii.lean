/- The plain mathematics of ASCII folding: no Go in sight. -/
namespace Go.Proofs.Qxb6605511a.Ascii

/-- A capital's small letter; every other byte itself. -/
def lowB (c : UInt8) : UInt8 := if 65 ≤ c ∧ c ≤ 90 then c + 32 else c
def upB (c : UInt8) : UInt8 := if 97 ≤ c ∧ c ≤ 122 then c - 32 else c
def letterB (c : UInt8) : Bool := lowB c != c || upB c != c

def lower (s : ByteArray) : ByteArray := ⟨s.data.map lowB⟩

theorem lower_size (s : ByteArray) : (lower s).size = s.size := by
  show (s.data.map lowB).size = s.data.size
  rw [Array.size_map]
theorem lower_get (s : ByteArray) (k : Nat) (h : k < s.size) (h' : k < (lower s).size) : (lower s)[k] = lowB s[k] := by
  exact Array.getElem_map lowB (xs := s.data) (i := k) (hi := by rw [Array.size_map]; exact h)

theorem all_bytes {p : UInt8 → Prop} (h : ∀ n : Fin 256, p (UInt8.ofNat n.val)) (c : UInt8) : p c := by
  have := h ⟨c.toNat, c.toNat_lt⟩
  simpa using this

theorem lowB_cap (c : UInt8) (h1 : (65 : Int) ≤ (c.toNat : Int)) (h2 : (c.toNat : Int) ≤ 90) : ((lowB c).toNat : Int) = (c.toNat : Int) + 32 := by
  have h3 : (65 : UInt8) ≤ c ∧ c ≤ 90 := by simp [UInt8.le_iff_toNat_le]; omega
  unfold lowB; rw [if_pos h3]; simp [UInt8.toNat_add]; omega
theorem lowB_not (c : UInt8) (h : ¬ ((65 : Int) ≤ (c.toNat : Int) ∧ (c.toNat : Int) ≤ 90)) : lowB c = c := by
  have h3 : ¬ ((65 : UInt8) ≤ c ∧ c ≤ 90) := by simp [UInt8.le_iff_toNat_le]; omega
  unfold lowB; rw [if_neg h3]
theorem upB_small (c : UInt8) (h1 : (97 : Int) ≤ (c.toNat : Int)) (h2 : (c.toNat : Int) ≤ 122) : ((upB c).toNat : Int) = (c.toNat : Int) - 32 := by
  have h3 : (97 : UInt8) ≤ c ∧ c ≤ 122 := by simp [UInt8.le_iff_toNat_le]; omega
  unfold upB; rw [if_pos h3, UInt8.toNat_sub_of_le _ _ (by simp [UInt8.le_iff_toNat_le]; omega)]; simp; omega
theorem upB_not (c : UInt8) (h : ¬ ((97 : Int) ≤ (c.toNat : Int) ∧ (c.toNat : Int) ≤ 122)) : upB c = c := by
  have h3 : ¬ ((97 : UInt8) ≤ c ∧ c ≤ 122) := by simp [UInt8.le_iff_toNat_le]; omega
  unfold upB; rw [if_neg h3]

/-- The whole list of facts on bytes, each by a look at all 256. -/
theorem low_low (c : UInt8) : lowB (lowB c) = lowB c := by
  revert c; apply all_bytes; decide +kernel
theorem low_up (c : UInt8) : lowB (upB c) = lowB c := by
  revert c; apply all_bytes; decide +kernel
theorem low_keeps (c : UInt8) (h : letterB c = false) : lowB c = c := by
  revert h; revert c; apply all_bytes; decide +kernel
theorem low_letter (c : UInt8) (h : letterB c = true) : letterB (lowB c) = true := by
  revert h; revert c; apply all_bytes; decide +kernel
theorem low_noCap (c : UInt8) : ¬ ((65 : Int) ≤ ((lowB c).toNat : Int) ∧ ((lowB c).toNat : Int) ≤ 90) := by
  revert c; apply all_bytes; decide +kernel
theorem low_high (c : UInt8) : (128 ≤ (lowB c).toNat) ↔ (128 ≤ c.toNat) := by
  revert c; apply all_bytes; decide +kernel

theorem lower_lower (s : ByteArray) : lower (lower s) = lower s := by
  unfold lower; simp [low_low]
def upper (s : ByteArray) : ByteArray := ⟨s.data.map upB⟩
theorem lower_upper (s : ByteArray) : lower (upper s) = lower s := by
  unfold lower upper; simp [low_up]
theorem upper_size (s : ByteArray) : (upper s).size = s.size := by
  show (s.data.map upB).size = s.data.size
  rw [Array.size_map]
theorem upper_get (s : ByteArray) (k : Nat) (h : k < s.size) (h' : k < (upper s).size) : (upper s)[k] = upB s[k] :=
  Array.getElem_map upB (xs := s.data) (i := k) (hi := by rw [Array.size_map]; exact h)

end Go.Proofs.Qxb6605511a.Ascii

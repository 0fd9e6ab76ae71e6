/- The proof of 'Rows.FnNonASCIIElementIgnoresASCIICaseSaid': the frame is the kit's template (howto 4), its arguments opened by hand: three strings, three pointers to strings, a slice of strings. -/
import Derived.Test.Qxb6605511aRows
import Derived.Test.Qxb6605511aCaseWalk
import Derived.WalkKit
import Derived.ProofKit
import Derived.OpenShut
import Derived.ShutString
import Derived.SliceStrings
namespace Go.Proofs.Qxb6605511a.fnNonASCIIElementIgnoresASCIICase
open Go.ChangeShapes Go.WideShapes Go.ChangeAt Go.RowKit
open Go.ChangeMaps (open_string shut_string)
open Go.Proofs.Qxb6605511a.Ascii
set_option linter.unusedVariables false

theorem own : ownKnob Try.prog.godebug = none := by kernel_rfl
theorem laidOut : laidOutB Try.prog = true := by kernel_rfl
theorem cells9 : Try.prog.cellsOf 9 = 1 := by kernel_rfl

section
variable {H : Type} {enc : TypeId × Value → H} {W : World} {base b0 : Nat} {spare : Nat → Bool} {held : Bool} {r : Reach} {v : Value} {d : DataW H} {ps : List MemPlace}

theorem ptr_of (hval : Value.okWide Try.prog W r b0 30 v) (hd : DataW.Trod enc Try.prog W base spare held 30 v d ps) : ∃ p o, v = .pointer p ∧ PtrAt W p o := by
  rcases open_ptr Try.underlying30 (by rw [cells9]; omega) hval hd with ⟨h, _⟩ | ⟨b, off, cs, y, fuel, h, _, _, hlen, hcell, hy⟩
  · exact ⟨none, none, h, .inl ⟨rfl, rfl⟩⟩
  · obtain ⟨s, hcs, _, hs⟩ := DataW.trod_string Try.underlying9 hy
    refine ⟨_, some s, h, .inr ⟨b, off, s, rfl, rfl, ?_, hs⟩⟩
    have := hcell 0 (by rw [cells9]; omega)
    rw [hcs] at this
    simpa using this

theorem row_of (hval : Value.okWide Try.prog W r b0 31 v) (hd : DataW.Trod enc Try.prog W base spare held 31 v d ps) : ∃ a n cap ss, v = .slice a n cap ∧ StrRow W a n ss := by
  obtain ⟨a, n, cap, rfl⟩ := okWide_slice Try.underlying31 hval
  obtain ⟨fuel, hf⟩ := hd
  rcases open_strings Try.underlying31 Try.underlying9 cells9 hf with ⟨hcs, _⟩ | ⟨x, l, c, ss, hcs, _, hl, hm, hz, _, hcell, hwz⟩
  · simp [Value.cells] at hcs
    obtain ⟨rfl, rfl, rfl⟩ := hcs
    exact ⟨none, 0, 0, fun _ => ByteArray.empty, rfl, Nat.zero_le _, fun i hi => by omega, .inl rfl⟩
  · simp [Value.cells] at hcs
    obtain ⟨rfl, rfl, rfl⟩ := hcs
    have hlen : n ≤ ss.length := by rw [hz]; split <;> omega
    refine ⟨some x, n, cap, fun i => ss.getD i ByteArray.empty, rfl, Nat.le_trans hl hm, fun i hi => ?_, ?_⟩
    · show (ss.getD i ByteArray.empty).size ≤ maxLen
      rw [List.getD_eq_getElem?_getD, List.getElem?_eq_getElem (by omega)]
      exact hwz _ (List.getElem_mem _)
    · by_cases h0 : n = 0
      · exact .inl h0
      · right
        obtain ⟨b, off, spot⟩ := x
        have hspot : spot = none := by simpa [Addr.add] using World.cell?_spot (hcell 0 (by omega))
        subst hspot
        exact ⟨b, off, rfl, fun i hi => by rw [← add_plain]; exact hcell i (by omega)⟩
end

/-! ### THE ROW's STEP -/
set_option maxRecDepth 100000 in
theorem lifted (os : Os) (started : os.Started) (H : Type) (enc : TypeId × Value → H) :
    ReturnsInHanded {} Try.checked os 8 .any (Rows.fnNonASCIIElementIgnoresASCIICaseSpec.pre6 enc Try.prog Try.f8 Rows.fnNonASCIIElementIgnoresASCIICaseRow.domain false) (Rows.fnNonASCIIElementIgnoresASCIICaseSpec.post enc Try.prog Try.f8 false true false false) := by
  refine returnsInHanded_of_change (C := Try.checked) own started (by kernel_rfl) Try.func8
    (ChangeSpec.witness6 (enc := enc) (C := Try.checked) false ⟨#[], #[.string ByteArray.empty, .pointer none, .slice none 0 0, .string ByteArray.empty, .pointer none, .pointer none, .string ByteArray.empty], []⟩ 8 (by kernel_rfl) (by kernel_rfl) (by kernel_rfl) (by kernel_rfl)) ?_
  intro W base args ds gs before hval0 hW hcnd _
  have hval : ∀ (j : Nat) t v, Try.f8.params[j]? = some t → args[j]? = some v → Value.okWide Try.prog W .any base t v := hval0
  have hW' := hW
  obtain ⟨p, q, hA0, hV, rfl, hfz, hnd⟩ := hW
  have hA : DataW.TrodAll enc Try.prog W 0 (fun _ => true) true Try.f8.params.toList args.toList ds p := hA0
  rw [Try.params8] at hA hval
  obtain ⟨v0, vs0, d0, ds0, p0, q0, hargs, rfl, rfl, h0, r0⟩ := trodAll_cons hA
  obtain ⟨v1, vs1, d1, ds1, p1, q1, rfl, rfl, rfl, h1, r1⟩ := trodAll_cons r0
  obtain ⟨v2, vs2, d2, ds2, p2, q2, rfl, rfl, rfl, h2, r2⟩ := trodAll_cons r1
  obtain ⟨v3, vs3, d3, ds3, p3, q3, rfl, rfl, rfl, h3, r3⟩ := trodAll_cons r2
  obtain ⟨v4, vs4, d4, ds4, p4, q4, rfl, rfl, rfl, h4, r4⟩ := trodAll_cons r3
  obtain ⟨v5, vs5, d5, ds5, p5, q5, rfl, rfl, rfl, h5, r5⟩ := trodAll_cons r4
  obtain ⟨v6, vs6, d6, ds6, p6, q6, rfl, rfl, rfl, h6, r6⟩ := trodAll_cons r5
  obtain ⟨rfl, rfl, rfl⟩ := trodAll_nil r6
  obtain rfl : args = #[v0, v1, v2, v3, v4, v5, v6] := by cases args; simp_all
  obtain ⟨rfl, rfl⟩ := trodVars_none hV
  obtain ⟨s0, rfl, rfl, rfl, w0⟩ := open_string Try.underlying9 (hval 0 9 v0 rfl rfl) h0
  obtain ⟨a1, o1, rfl, w1⟩ := ptr_of (hval 1 30 v1 rfl rfl) h1
  obtain ⟨a2, len2, cap2, ss, rfl, w2⟩ := row_of (hval 2 31 v2 rfl rfl) h2
  obtain ⟨s3, rfl, rfl, rfl, w3⟩ := open_string Try.underlying9 (hval 3 9 v3 rfl rfl) h3
  obtain ⟨a4, o4, rfl, w4⟩ := ptr_of (hval 4 30 v4 rfl rfl) h4
  obtain ⟨a5, o5, rfl, w5⟩ := ptr_of (hval 5 30 v5 rfl rfl) h5
  obtain ⟨s6, rfl, rfl, rfl, w6⟩ := open_string Try.underlying9 (hval 6 9 v6 rfl rfl) h6
  have lt1 : ∀ x ∈ p1, x.block < W.heap.size := by obtain ⟨m, hm⟩ := h1; exact DataW.trod_lt m _ _ _ hm
  have lt2 : ∀ x ∈ p2, x.block < W.heap.size := by obtain ⟨m, hm⟩ := h2; exact DataW.trod_lt m _ _ _ hm
  have lt4 : ∀ x ∈ p4, x.block < W.heap.size := by obtain ⟨m, hm⟩ := h4; exact DataW.trod_lt m _ _ _ hm
  have lt5 : ∀ x ∈ p5, x.block < W.heap.size := by obtain ⟨m, hm⟩ := h5; exact DataW.trod_lt m _ _ _ hm
  clear hA0 hval0
  refine (caseLaw_walk s0 s3 s6 a1 a4 a5 o1 o4 o5 a2 len2 cap2 ss W w0 w3 w6 w1 w4 w5 w2).mono fun e W' ⟨he, bel⟩ => ?_
  subst he
  exact ⟨_, rfl, _, _, _, [], _, [], hW', trodAll_mk1 (shut_bool Try.underlying4 _),
    (trodAll_cons_mk (shut_string Try.underlying9 w0) (trodAll_cons_mk (Below.trod laidOut (by kernel_rfl) (of_decide_eq_true (by kernel_rfl)) h1 bel lt1) (trodAll_cons_mk (Below.trod laidOut (by kernel_rfl) (of_decide_eq_true (by kernel_rfl)) h2 bel lt2)
      (trodAll_cons_mk (shut_string Try.underlying9 w3) (trodAll_cons_mk (Below.trod laidOut (by kernel_rfl) (of_decide_eq_true (by kernel_rfl)) h4 bel lt4) (trodAll_cons_mk (Below.trod laidOut (by kernel_rfl) (of_decide_eq_true (by kernel_rfl)) h5 bel lt5)
        (trodAll_cons_mk (shut_string Try.underlying9 w6) trodAll_mk0))))))), rfl, bel.frame _, fun h => by cases h⟩

theorem over : Rows.fnNonASCIIElementIgnoresASCIICaseRow.holds Try.pinned (OpenSpec.ofChange Rows.fnNonASCIIElementIgnoresASCIICaseSpec) :=
  OpenClaim.holds_of_wide 8 Try.f8 rfl rfl rfl rfl rfl rfl rfl ⟨rfl, rfl, rfl, rfl, rfl⟩ rfl rfl rfl rfl rfl (by kernel_rfl) Try.func8 (by kernel_rfl)
    (of_decide_eq_true (by kernel_rfl)) (by unfold Func.isWrapper; first | (rw [if_pos (by decide +kernel)]; kernel_rfl) | (rw [if_neg (by decide +kernel)]; exact ⟨rfl, rfl⟩))
    (fun os started H enc _ => lifted os started H enc)

/-- THE STATEMENT -/
theorem proved : Rows.FnNonASCIIElementIgnoresASCIICaseSaid := over
#print axioms proved
end Go.Proofs.Qxb6605511a.fnNonASCIIElementIgnoresASCIICase

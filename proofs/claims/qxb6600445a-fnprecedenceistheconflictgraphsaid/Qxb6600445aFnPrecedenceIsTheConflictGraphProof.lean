/- The row's step is the shell's own; the walk is in the texts that are imported. -/
import Derived.Test.Qxb6600445aRows
import Derived.WalkKit
import Derived.ProofKit
import Derived.OpenShut
import Derived.ShutString
import Derived.ChangeOld
import Derived.Below
import Derived.Test.Qxb6600445aOpen
import Derived.Test.Qxb6600445aPLaw
namespace Go.Proofs.Qxb6600445a.fnPrecedenceIsTheConflictGraph
open Go.ChangeShapes Go.WideShapes Go.ChangeAt Go.RowKit
open Go.ChangeMaps (open_string shut_string)
set_option linter.unusedVariables false

theorem own : ownKnob Try.prog.godebug = none := by kernel_rfl
theorem laidOut : laidOutB Try.prog = true := by kernel_rfl

/-! ### THE ROW's STEP: WRITTEN OUT: LEAVE IT -/
set_option maxRecDepth 100000 in
theorem lifted (os : Os) (started : os.Started) (H : Type) (enc : TypeId × Value → H) :
    ReturnsInHanded {} Try.checked os 6 .any (Rows.fnPrecedenceIsTheConflictGraphSpec.pre6 enc Try.prog Try.f6 Rows.fnPrecedenceIsTheConflictGraphRow.domain false) (Rows.fnPrecedenceIsTheConflictGraphSpec.post enc Try.prog Try.f6 false true false false) := by
  refine returnsInHanded_of_change (C := Try.checked) own started (by kernel_rfl) Try.func6
    (ChangeSpec.witness6 (enc := enc) (C := Try.checked) false ⟨#[], #[.slice none 0 0, .slice none 0 0, .slice none 0 0, .slice none 0 0], []⟩ 8 (by kernel_rfl) (by kernel_rfl) (by kernel_rfl) (by kernel_rfl)) ?_
  intro W base args ds gs before hval0 hW hcnd _
  have hval : ∀ (j : Nat) t v, Try.f6.params[j]? = some t → args[j]? = some v → Value.okWide Try.prog W .any base t v := hval0
  have hW' := hW
  obtain ⟨p, q, hA0, hV, rfl, hfz, hnd⟩ := hW
  have hA : DataW.TrodAll enc Try.prog W 0 (fun _ => true) true Try.f6.params.toList args.toList ds p := hA0
  rw [Try.params6] at hA hval
  obtain ⟨v0, vs0, d0, ds0, p0, q0, hargs, rfl, rfl, h0, r0⟩ := trodAll_cons hA
  obtain ⟨v1, vs1, d1, ds1, p1, q1, hargs1, rfl, rfl, h1, r1⟩ := trodAll_cons r0
  obtain ⟨v2, vs2, d2, ds2, p2, q2, hargs2, rfl, rfl, h2, r2⟩ := trodAll_cons r1
  obtain ⟨v3, vs3, d3, ds3, p3, q3, hargs3, rfl, rfl, h3, r3⟩ := trodAll_cons r2
  obtain ⟨rfl, rfl, rfl⟩ := trodAll_nil r3
  obtain rfl : args = #[v0, v1, v2, v3] := by cases args; simp_all
  obtain ⟨rfl, rfl⟩ := trodVars_none hV
  obtain ⟨a0, len0, cap0, rfl⟩ := okWide_slice Try.underlying22 (hval 0 22 v0 rfl rfl)
  obtain ⟨a1, len1, cap1, rfl⟩ := okWide_slice Try.underlying33 (hval 1 33 v1 rfl rfl)
  obtain ⟨a2, len2, cap2, rfl⟩ := okWide_slice Try.underlying34 (hval 2 34 v2 rfl rfl)
  obtain ⟨a3, len3, cap3, rfl⟩ := okWide_slice Try.underlying22 (hval 3 22 v3 rfl rfl)
  have k0 := h0
  have k1 := h1
  have k2 := h2
  have k3 := h3
  have lt0 : ∀ x ∈ p0, x.block < W.heap.size := by obtain ⟨m, hm⟩ := k0; exact DataW.trod_lt m _ _ _ hm
  have lt1 : ∀ x ∈ p1, x.block < W.heap.size := by obtain ⟨m, hm⟩ := k1; exact DataW.trod_lt m _ _ _ hm
  have lt2 : ∀ x ∈ p2, x.block < W.heap.size := by obtain ⟨m, hm⟩ := k2; exact DataW.trod_lt m _ _ _ hm
  have lt3 : ∀ x ∈ p3, x.block < W.heap.size := by obtain ⟨m, hm⟩ := k3; exact DataW.trod_lt m _ _ _ hm
  obtain ⟨b0, o0, tn, hs0, ht0, hm0⟩ : ∃ b off f, StrsAt W a0 len0 b off f ∧ (∀ j, (f j).size ≤ maxLen) ∧ len0 ≤ maxLen := by
    obtain ⟨fuel, hf⟩ := h0
    exact open_names (by simpa [Value.cells] using hf)
  obtain ⟨b1, o1, ix, hs1, ht1, hm1⟩ : ∃ b off f, WordsAt W a1 len1 b off f ∧ (∀ j, 0 ≤ f j ∧ f j ≤ 65535) ∧ len1 ≤ maxLen := by
    obtain ⟨fuel, hf⟩ := h1
    exact open_u16s (by simpa [Value.cells] using hf)
  obtain ⟨b2, o2, wb, hs2, hm2⟩ : ∃ b off f, BoolsAt W a2 len2 b off f ∧ len2 ≤ maxLen := by
    obtain ⟨fuel, hf⟩ := h2
    exact open_bools (by simpa [Value.cells] using hf)
  obtain ⟨b3, o3, it, hs3, ht3, hm3⟩ : ∃ b off f, StrsAt W a3 len3 b off f ∧ (∀ j, (f j).size ≤ maxLen) ∧ len3 ≤ maxLen := by
    obtain ⟨fuel, hf⟩ := h3
    exact open_names (by simpa [Value.cells] using hf)
  clear hA0 hval0
  refine (law_prec a0 a1 a2 a3 len0 len1 len2 len3 cap0 cap1 cap2 cap3 b0 o0 b1 o1 b2 o2 b3 o3 tn ix wb it W (by unfold maxLen at hm0; omega) (by unfold maxLen at hm1; omega) (by unfold maxLen at hm2; omega) (by unfold maxLen at hm3; omega) hs0 hs1 hs2 hs3 ht1 ht0 ht3).mono fun e W' ⟨he, bel⟩ => ?_
  subst he
  exact ⟨_, rfl, _, _, _, [], _, [], hW', trodAll_mk1 (shut_bool Try.underlying4 _), (trodAll_cons_mk (Below.trod laidOut (by kernel_rfl) (of_decide_eq_true (by kernel_rfl)) k0 bel lt0) (trodAll_cons_mk (Below.trod laidOut (by kernel_rfl) (of_decide_eq_true (by kernel_rfl)) k1 bel lt1) (trodAll_cons_mk (Below.trod laidOut (by kernel_rfl) (of_decide_eq_true (by kernel_rfl)) k2 bel lt2) (trodAll_cons_mk (Below.trod laidOut (by kernel_rfl) (of_decide_eq_true (by kernel_rfl)) k3 bel lt3) trodAll_mk0)))), rfl, bel.frame _, fun h => by cases h⟩

theorem over : Rows.fnPrecedenceIsTheConflictGraphRow.holds Try.pinned (OpenSpec.ofChange Rows.fnPrecedenceIsTheConflictGraphSpec) :=
  OpenClaim.holds_of_wide 6 Try.f6 rfl rfl rfl rfl rfl rfl rfl ⟨rfl, rfl, rfl, rfl, rfl⟩ rfl rfl rfl rfl rfl (by kernel_rfl) Try.func6 (by kernel_rfl)
    (of_decide_eq_true (by kernel_rfl)) (by unfold Func.isWrapper; first | (rw [if_pos (by decide +kernel)]; kernel_rfl) | (rw [if_neg (by decide +kernel)]; exact ⟨rfl, rfl⟩))
    (fun os started H enc _ => lifted os started H enc)

/-- ████ THE STATEMENT ████ -/
theorem proved : Rows.FnPrecedenceIsTheConflictGraphSaid := over
#print axioms proved
end Go.Proofs.Qxb6600445a.fnPrecedenceIsTheConflictGraph

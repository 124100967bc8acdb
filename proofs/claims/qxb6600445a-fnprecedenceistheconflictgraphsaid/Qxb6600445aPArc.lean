import Derived.Test.Qxb6600445aRecL
import Derived.DeepKeys4
namespace Go.Proofs.Qxb6600445a
open Go.RowKit
open Go.Maps (Keyed)
set_option linter.unusedVariables false

theorem laidOutT : laidOutB Try.prog = true := by kernel_rfl
theorem row83 : (83 : TypeId) < Try.prog.types.size := of_decide_eq_true (by kernel_rfl)
theorem wide83 : (match Try.prog.underlying 83 with | some (.array _ _) | some (.struct _) => true | _ => false) = true := by kernel_rfl
theorem law83 : Keyed Try.prog 83 := Keyed.of_law (deep_law_laid laidOutT (m := 2) (by omega) row83 (by kernel_rfl) wide83)
theorem law3 : Keyed Try.prog 3 := Go.Maps.int_keyed Try.underlying3

def arc (u v : Nat) : Value := .agg #[.int .i64 (u : Nat), .int .i64 (v : Nat)]
noncomputable def alit (u v : Nat) : Lit := (keyOf Try.prog 83 (arc u v)).getD (.bool false)

theorem wf64 {u : Nat} (h : u < 65536) : (Lit.int .i64 (u : Nat)).wf = true := by
  have e1 : IntKind.i64.min = -9223372036854775808 := rfl
  have e2 : IntKind.i64.max = 9223372036854775807 := rfl
  simp [Lit.wf]
  omega

theorem cells83 : Try.prog.cellsOf 83 = 2 := by kernel_rfl
theorem cells3 : Try.prog.cellsOf 3 = 1 := by kernel_rfl
theorem kt83 : Try.prog.keyType 83 = true := by kernel_rfl
theorem lit3 (d : Nat) {x : Nat} (hx : x < 65536) : Try.prog.keyLits (d + 1) 3 [.int .i64 (x : Nat)] = some [.int .i64 (x : Nat)] := by
  simp [Program.keyLits, Try.underlying3, wf64 hx]
theorem lit83 (d : Nat) {u v : Nat} (hu : u < 65536) (hv : v < 65536) : Try.prog.keyLits (d + 1 + 1) 83 [.int .i64 (u : Nat), .int .i64 (v : Nat)] = some [.int .i64 (u : Nat), .int .i64 (v : Nat)] := by
  unfold Program.keyLits
  rw [Try.underlying83]
  simp [cells83, cells3, lit3 d hu, lit3 d hv]

theorem key83 {u v : Nat} (hu : u < 65536) (hv : v < 65536) : keyOf Try.prog 83 (arc u v) = some (alit u v) := by
  have h : ∃ l, keyOf Try.prog 83 (arc u v) = some l := by
    have hf : (arc u v).formed Try.prog 83 = true := by simp [arc, Value.formed, Try.underlying83, cells83]
    obtain ⟨m, hm⟩ : ∃ m, Try.prog.types.size + 1 = m + 1 + 1 := ⟨Try.prog.types.size - 1, by have : (83 : Nat) < Try.prog.types.size := row83; omega⟩
    refine ⟨.string (keyBytes [.int .i64 (u : Nat), .int .i64 (v : Nat)]), ?_⟩
    have hc : (arc u v).cells.toList = [.int .i64 (u : Nat), .int .i64 (v : Nat)] := rfl
    unfold keyOf
    rw [Try.underlying83, kt83, hf, hm, hc, lit83 m hu hv]
    rfl
  obtain ⟨l, hl⟩ := h
  rw [alit, hl]; rfl

theorem alit_inj {u v u' v' : Nat} (hu : u < 65536) (hv : v < 65536) (hu' : u' < 65536) (hv' : v' < 65536) (h : alit u v = alit u' v') : u = u' ∧ v = v' := by
  have := law83.inj (key83 hu hv) (by rw [h]; exact key83 hu' hv')
  simp [arc] at this
  omega

theorem key3 {u : Nat} (hu : u < 65536) : keyOf Try.prog 3 (.int .i64 (u : Nat)) = some (.int .i64 (u : Nat)) := Go.Maps.keyOf_int_mk Try.underlying3 (wf64 hu)

open Classical in
/-- the set of arcs -/
noncomputable def arcF (S : Nat → Nat → Prop) : Lit → Option Value := fun l => if ∃ u v, u < 65536 ∧ v < 65536 ∧ l = alit u v ∧ S u v then some (.agg #[]) else none
theorem arcF_at {S : Nat → Nat → Prop} {u v : Nat} (hu : u < 65536) (hv : v < 65536) : (arcF S (alit u v)).isSome = true ↔ S u v := by
  unfold arcF
  split
  · rename_i h
    obtain ⟨u', v', h1, h2, h3, h4⟩ := h
    obtain ⟨rfl, rfl⟩ := alit_inj hu hv h1 h2 h3
    simp [h4]
  · rename_i h
    simp
    exact fun hs => h ⟨u, v, hu, hv, rfl, hs⟩
theorem arcF_put {S : Nat → Nat → Prop} {u v : Nat} (hu : u < 65536) (hv : v < 65536) : arcF (fun a b => S a b ∨ (a = u ∧ b = v)) (alit u v) = some (.agg #[]) ∧ ∀ x, x ≠ alit u v → arcF (fun a b => S a b ∨ (a = u ∧ b = v)) x = arcF S x := by
  constructor
  · unfold arcF
    rw [if_pos ⟨u, v, hu, hv, rfl, .inr ⟨rfl, rfl⟩⟩]
  · intro x hx
    unfold arcF
    congr 1
    apply propext
    constructor
    · rintro ⟨u', v', h1, h2, h3, h4 | ⟨rfl, rfl⟩⟩
      · exact ⟨u', v', h1, h2, h3, h4⟩
      · exact absurd h3 hx
    · rintro ⟨u', v', h1, h2, h3, h4⟩
      exact ⟨u', v', h1, h2, h3, .inl h4⟩
theorem arcF_val {S : Nat → Nat → Prop} (l : Lit) : (arcF S l).getD (.agg #[]) = .agg #[] := by
  unfold arcF
  split <;> rfl

/-- a map keyed by ints -/
def intF (f : Nat → Option Value) : Lit → Option Value
  | .int .i64 n => if 0 ≤ n then f n.toNat else none
  | _ => none
theorem intF_at (f : Nat → Option Value) (t : Nat) : intF f (.int .i64 (t : Nat)) = f t := by simp [intF]
theorem intF_ne (f g : Nat → Option Value) (t : Nat) (h : ∀ s, s ≠ t → g s = f s) : ∀ l, l ≠ Lit.int .i64 (t : Nat) → intF g l = intF f l := by
  intro l hl
  cases l with
  | int k z =>
    cases k with
    | i64 =>
      show (if 0 ≤ z then g z.toNat else none) = if 0 ≤ z then f z.toNat else none
      split
      · rename_i hz
        apply h
        intro e
        apply hl
        rw [← e, Int.toNat_of_nonneg hz]
      · rfl
    | _ => rfl
  | _ => rfl
theorem intF_none : intF (fun _ => none) = fun _ => none := by
  funext l
  cases l with
  | int k z =>
    cases k with
    | i64 => show (if 0 ≤ z then none else none) = none; split <;> rfl
    | _ => rfl
  | _ => rfl

theorem zero84 (w : World) : (zeroValue 84).run Try.prog w = .ok (.agg #[]) w := by kernel_rfl
theorem zero77 (w : World) : (zeroValue 77).run Try.prog w = .ok (.pointer none) w := by kernel_rfl
theorem zero73 (w : World) : (zeroValue 73).run Try.prog w = .ok (.pointer none) w := by kernel_rfl
theorem zero3 (w : World) : (zeroValue 3).run Try.prog w = .ok (.int .i64 0) w := by kernel_rfl
end Go.Proofs.Qxb6600445a

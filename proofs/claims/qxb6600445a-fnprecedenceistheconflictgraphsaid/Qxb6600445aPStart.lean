import Derived.Test.Qxb6600445aPSem
namespace Go.Proofs.Qxb6600445a
open Go.RowKit
set_option linter.unusedVariables false

/-- nothing done yet -/
def gh0 (m : Nat) (pf : ByteArray → Option Value) (kI kP kG kS kE : Nat) : Gh where
  m := m
  c := 0
  e := 0
  pf := pf
  kI := kI
  kP := kP
  kG := kG
  kS := kS
  kE := kE
  kB := none
  bx := .map #[] 0
  X := fun _ => none
  Bb := fun _ => 0
  A := fun _ _ => none
  Wl := fun _ => []
  Al := fun _ => []
  vW := fun _ => nilS
  vA := fun _ => nilS
  d0 := fun _ _ => 0
  d1 := fun _ _ => 0
  wo := fun _ _ => false
  sv := fun _ => nilS
  Sl := fun _ => []
  Es := fun _ _ => false

theorem hm_start {base m kI kP kG kS kE : Nat} {pf : ByteArray → Option Value} {w0 w : World} (h0 : base ≤ kI) (h1 : kI < kP) (h2 : kP < kS) (h3 : kS < kE) (h4 : kE < kG)
    (b1 : w.heap[kI]? = some (.map #[] 0)) (b2 : ∃ c, mapF w Try.prog 44 kP c (keyF pf)) (b3 : w.heap[kS]? = some (.cells (rowA m (fun _ => nilS)) 42 (0, 0))) (b4 : w.heap[kE]? = some (.map #[] 0)) (b5 : w.heap[kG]? = some (graphO kS m kE)) (hb : Below base w0 w) :
    HM base w0 w (gh0 m pf kI kP kG kS kE) := by
  have l5 := getElem_lt b5
  refine ⟨fun o b hob => ?_, fun o o' b hob hob' => ?_, fun x _ => ⟨rfl, rfl⟩, fun x _ => ⟨rfl, rfl⟩, fun x _ => ⟨rfl, rfl⟩, fun x => ⟨Nat.le_refl _, Nat.le_refl _⟩, fun u => Nat.le_refl _, by omega, hb⟩
  · cases o with
    | items =>
      have : kI = b := by simpa [bk, gh0] using hob
      subst this
      refine ⟨h0, by omega, 0, Nat.le_refl _, mapF_none (mapF_empty b1) (fun _ => rfl)⟩
    | place =>
      have : kP = b := by simpa [bk, gh0] using hob
      subst this
      exact ⟨by omega, by omega, b2⟩
    | graph =>
      have : kG = b := by simpa [bk, gh0] using hob
      subst this
      exact ⟨by omega, by omega, b5⟩
    | succ =>
      have : kS = b := by simpa [bk, gh0] using hob
      subst this
      exact ⟨by omega, by omega, b3⟩
    | edges =>
      have : kE = b := by simpa [bk, gh0] using hob
      subst this
      refine ⟨by omega, by omega, 0, Nat.le_refl _, ?_⟩
      have e : (arcF fun u v => (gh0 m pf kI kP kG kS kE).Es u v = true) = fun _ => none := by
        funext l
        unfold arcF
        rw [if_neg]
        rintro ⟨_, _, _, _, _, h⟩
        cases h
      rw [e]
      exact mapF_empty b4
    | box => cases hob
    | item x => cases hob
    | by_ x => cases hob
    | acc x t => cases hob
    | wr x => cases hob
    | ac x => cases hob
    | sl u => cases hob
  · cases o <;> simp only [bk, gh0, nilS, Value.ownBlock, Option.map_none, reduceCtorEq, Option.some.injEq] at hob <;> cases o' <;> simp only [bk, gh0, nilS, Value.ownBlock, Option.map_none, reduceCtorEq, Option.some.injEq] at hob' <;> first | rfl | omega

theorem sm_start (iv : Nat → Nat) (wb : Nat → Bool) (it : Nat → ByteArray) {m kI kP kG kS kE : Nat} {pf : ByteArray → Option Value} : Sm (mAs iv it 0) (mWs iv wb it 0) (conf iv wb it 0) (gh0 m pf kI kP kG kS kE) where
  mA := fun x t => ⟨fun h => (by cases h), fun ⟨i, h, _⟩ => by omega⟩
  mW := fun x t => ⟨fun h => (by cases h), fun ⟨i, h, _⟩ => by omega⟩
  acc := fun x t => ⟨fun h => (by cases h), fun ⟨i, h, _⟩ => by omega⟩
  wo := fun x t => ⟨fun h => (by cases h), fun ⟨i, h, _⟩ => by omega⟩
  sub := fun x t ⟨i, h, _⟩ => by omega
  d0 := fun x t => ⟨Nat.le_refl _, fun u h => by cases h⟩
  d1 := fun x t => ⟨Nat.le_refl _, fun u h => by cases h⟩
  dz := fun x t _ => ⟨rfl, rfl⟩
  ab := fun x _ => ⟨rfl, rfl, fun _ => rfl⟩
  es := fun u v => ⟨fun h => (by cases h), fun ⟨i, j, h1, h2, _⟩ => by omega⟩
  sl := fun u v => ⟨fun h => (by cases h), fun ⟨i, j, h1, h2, _⟩ => by omega⟩
  nd := fun u => List.nodup_nil

structure Fx (m : Nat) (pf : ByteArray → Option Value) (kI kP kG : Nat) (k : Nat) (G : Gh) : Prop where
  m : G.m = m
  pf : G.pf = pf
  kI : G.kI = kI
  kP : G.kP = kP
  kG : G.kG = kG
  c : G.c ≤ 4 * k
  e : G.e ≤ 40000 * k

theorem eq_nil73 (w : World) (v : Option Nat) : (eqGuard BinOp.eql 73 (.tmp 37) (.const (.pointer none)) ((v.map pt).getD (.pointer none)) (.pointer none)).run Try.prog w = .ok () w ∧ (binOp BinOp.eql 73 ((v.map pt).getD (.pointer none)) (.pointer none)).run Try.prog w = .ok (.bool v.isNone) w := by
  cases v with
  | none => exact ⟨by kernel_rfl, by kernel_rfl⟩
  | some b => exact ⟨by kernel_rfl, by kernel_rfl⟩
theorem eq_nil77 (w : World) (v : Option Nat) : (eqGuard BinOp.eql 77 (.tmp 52) (.const (.pointer none)) ((v.map pt).getD (.pointer none)) (.pointer none)).run Try.prog w = .ok () w ∧ (binOp BinOp.eql 77 ((v.map pt).getD (.pointer none)) (.pointer none)).run Try.prog w = .ok (.bool v.isNone) w := by
  cases v with
  | none => exact ⟨by kernel_rfl, by kernel_rfl⟩
  | some b => exact ⟨by kernel_rfl, by kernel_rfl⟩
end Go.Proofs.Qxb6600445a

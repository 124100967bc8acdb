import Derived.Test.Qxb6600448aPure
namespace Go.Proofs.Qxb6600448a
open Go.RowKit
set_option linter.unusedVariables false

/-- is there a first step ahead of j from c of kind κ? -/
def anyK (kind : Nat → Int) (cn : Nat → Nat) (cp : Nat → Option Nat) (c : Option Nat) (κ : Int) (j : Nat) : Bool :=
  (List.range j).any fun i => decide (cn i = i ∧ cp i = c ∧ kind i = κ)

theorem anyK_succ (kind : Nat → Int) (cn : Nat → Nat) (cp : Nat → Option Nat) (c : Option Nat) (κ : Int) (j : Nat) :
    anyK kind cn cp c κ (j + 1) = (anyK kind cn cp c κ j || decide (cn j = j ∧ cp j = c ∧ kind j = κ)) := by
  simp [anyK, List.range_succ]
theorem lits_succ (key : Nat → Int × List UInt8) (cn : Nat → Nat) (cp : Nat → Option Nat) (c : Option Nat) (j : Nat) :
    lits key cn cp c (j + 1) = lits key cn cp c j + if cn j = j ∧ cp j = c ∧ (key j).1 = 0 then 1 else 0 :=
  lits_upd c (fun _ _ => rfl) (fun _ _ => rfl)
theorem lits_le (key : Nat → Int × List UInt8) (cn : Nat → Nat) (cp : Nat → Option Nat) (c : Option Nat) (j : Nat) : lits key cn cp c j ≤ j := by
  unfold lits
  have := List.length_filter_le (fun i => decide (cn i = i ∧ cp i = c ∧ (key i).1 = 0)) (List.range j)
  simpa using this

theorem edge_any {st : Nat → St} {j R : Nat} {nd cn : Nat → Nat} {cp : Nat → Option Nat} {N : Nat → Prop} {ch : Ch} {cnt : Nat → Nat} (H : Inv (fun i => keyS (st i)) j R nd cn cp N ch cnt) {c : Option Nat} (hc : canonC cn j c) (κ : Int) (hκ : κ ≠ 0) :
    (ch (nodeOf R nd c) κ []).isSome = anyK (fun i => kd (st i).kind) cn cp c κ j := by
  have hk : ∀ i, keyS (st i) = (κ, []) ↔ kd (st i).kind = κ := fun i => by
    unfold keyS
    constructor
    · intro h; exact congrArg Prod.fst h
    · intro h; rw [h]; simp [nk, hκ]
  rw [Bool.eq_iff_iff]
  unfold anyK
  rw [List.any_eq_true, Option.isSome_iff_exists]
  constructor
  · rintro ⟨r, hr⟩
    obtain ⟨i, hi, h1, h2, h3⟩ := (H.edge c hc κ [] r).1 hr
    obtain ⟨e1, e2, e3⟩ := H.cnle i hi
    obtain ⟨s1, s2⟩ := H.same i hi
    refine ⟨cn i, List.mem_range.2 (by omega), ?_⟩
    simp only [decide_eq_true_eq]
    exact ⟨e2, s1.trans h1, (hk _).1 (s2.trans h2)⟩
  · rintro ⟨i, hi, h⟩
    simp only [decide_eq_true_eq] at h
    exact ⟨nd i, (H.edge c hc κ [] (nd i)).2 ⟨i, List.mem_range.1 hi, h.2.1, (hk i).2 h.2.2, rfl⟩⟩

theorem ptr_some (o : Option Nat) : (o.map fun b : Nat => (⟨b, 0, none⟩ : Addr)).isSome = o.isSome := by cases o <;> rfl

set_option maxHeartbeats 400000 in
theorem shape_any (b : Nat) (w : World) (base : Nat) (N : Nat → Prop) (ch : Ch) (cnt : Nat → Nat) (hT : Tree w base N ch cnt) (hN : N b) (m0 : Nat) :
    Calls Try.prog 13 #[.pointer (some ⟨b, 0, none⟩)] (w.drewN m0) fun e w' => e = .returned (.tuple #[.int .i64 (cnt b : Int), .bool (ch b 1 []).isSome, .bool (ch b 2 []).isSome, .int .i64 0]) ∧ ∃ m, w' = w.drewN m := by
  obtain ⟨mp, h1, h2, h3⟩ := hT
  obtain ⟨a1, a2, a3⟩ := h1 b hN
  obtain ⟨c0, c1, c2, c3, fr⟩ := node_cells a1
  have hlen : ∀ ty nq, (Builtin.len_ #[49] ty #[.map (mp b)]).run Try.prog (w.drewN nq) = .ok (.int .i64 (cnt b : Int)) (w.drewN nq) := fun ty nq => by
    cases hm : mp b with
    | none =>
      rw [(a2 hm).1]
      exact Go.Maps.len_nil Try.underlying49 ty
    | some mb => exact ((a3 mb hm).of_block (w' := w.drewN nq) rfl).len Try.underlying49 ty
  have e1 : ((ch b 1 []).map fun b : Nat => (⟨b, 0, none⟩ : Addr)).isSome = (ch b 1 []).isSome := ptr_some _
  have e2 : ((ch b 2 []).map fun b : Nat => (⟨b, 0, none⟩ : Addr)).isSome = (ch b 2 []).isSome := ptr_some _
  unfold ptr at c1 c2
  generalize (ch b 1 []).isSome = x1 at *
  generalize (ch b 2 []).isSome = x2 at *
  generalize ((ch b 1 []).map fun b : Nat => (⟨b, 0, none⟩ : Addr)) = p1 at *
  generalize ((ch b 2 []).map fun b : Nat => (⟨b, 0, none⟩ : Addr)) = p2 at *
  subst e1 e2
  clear a1 a2 a3 h1 h2 h3 fr
  generalize mp b = mv at *
  generalize cnt b = cv at *
  go_enter Try.func13, Try.ntmps13
  go_wp2
  go_quiet (fail)
  go_wp2
  exact bodyPost_ret (v := .tuple #[.int .i64 (cv : Int), .bool p1.isSome, .bool p2.isSome, .int .i64 0]) (by simp [results, Try.results13, go_sem]) rfl ⟨rfl, _, World.drewN_drewN _ _ _⟩
end Go.Proofs.Qxb6600448a

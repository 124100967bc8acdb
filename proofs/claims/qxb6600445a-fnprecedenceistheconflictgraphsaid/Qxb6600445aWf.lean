import Derived.Test.Qxb6600445aBase
namespace Go.Proofs.Qxb6600445a
open Go.RowKit
set_option linter.unusedVariables false

theorem sEq (a b : ByteArray) : (a.toList == b.toList) = decide (a = b) := by
  rw [ByteArray.toList_eq, ByteArray.toList_eq]
  by_cases e : a = b
  · subst e; simp
  · rw [decide_eq_false e, beq_eq_false_iff_ne]
    intro h
    apply e
    cases a; cases b
    simp at h
    rw [h]
theorem sEq_t {a b : ByteArray} (h : a = b) : (a.toList == b.toList) = true := by rw [sEq, decide_eq_true h]
theorem sEq_f {a b : ByteArray} (h : ¬ a = b) : (a.toList == b.toList) = false := by rw [sEq, decide_eq_false h]

theorem quiet_add {P : Program} {f : FuncId} {args : Array Value} {w : World} {m a : Nat} {v : Value}
    (h : Calls P f args (w.drewN (m + a)) fun e w' => e = .returned v ∧ w' = w.drewN (m + a)) : Calls P f args (w.drewN (m + a)) fun e w'' => e = .returned v ∧ ∃ n, w'' = w.drewN (m + n) :=
  h.mono fun _ _ ⟨he, hm⟩ => ⟨he, a, hm⟩

/-- nothing of a transaction behind its end -/
def WF (tx : Nat → ByteArray) (act : Nat → Int) (n : Nat) : Prop := ∀ i j, i < j → j < n → isEnd (act i) = true → tx j = tx i → isOp (act j) = false

set_option maxRecDepth 100000 in
set_option maxHeartbeats 1000000 in
theorem wf_any (a1 a2 : Option Addr) (n c1 c2 b1 o1 b2 o2 : Nat) (tx : Nat → ByteArray) (act : Nat → Int) (w : World) (hn : n ≤ 4096) (hs1 : StrsAt w a1 n b1 o1 tx) (hs2 : BytesAt w a2 n b2 o2 act) :
    Calls Try.prog 11 #[.slice a1 n c1, .slice a2 n c2] w fun e w' => RetB (WF tx act n) True e ∧ ∃ m, w' = w.drewN m := by
  have HS1 := hid hs1
  have HS2 := hid hs2
  clear hs1 hs2
  go_enter Try.func11, Try.ntmps11
  go_wp2
  go_loopg [6] n (fun g iv wr => ∃ i m, i ≤ n ∧ g = n - i ∧ iv = .int .i64 (i : Nat) ∧ wr = w.drewN m ∧ ∀ i' j, i' < i → i' < j → j < n → isEnd (act i') = true → tx j = tx i' → isOp (act j) = false)
  case atStart => exact ⟨0, 0, Nat.zero_le _, rfl, rfl, rfl, fun i' j h => by omega⟩
  case round =>
    obtain ⟨i, m, hi, hg, rfl, rfl, hall⟩ := hrel
    have HG := hid hg
    have HALL := hid hall
    clear hg hall
    by_cases hlt : i < n
    · have ha1 := HS1.out.1 (by omega)
      have ha2 := HS2.out.1 (by omega)
      subst ha1 ha2
      have i1 : (i : Int) < (n : Int) := by omega
      have d1 := HS1.out.2 i hlt
      have d2 := HS2.out.2 i hlt
      have KE := hid (isEnd_any (act i))
      by_cases he : isEnd (act i) = true
      · rw [he] at KE
        have HE := hid he
        clear he
        generalize hti : tx i = ti at *
        have HTI := hid hti
        clear hti
        generalize act i = ai at *
        go_wp2_with (go_at_call 29; refine (KE.out _).mono ?_; rintro e w' ⟨rfl, rfl⟩)
        go_loopg [7] (n - (i + 1)) (fun g jv wr => ∃ j m, i < j ∧ j ≤ n ∧ g = n - j ∧ jv = .int .i64 (j : Nat) ∧ wr = w.drewN m ∧ ∀ j', i < j' → j' < j → tx j' = ti → isOp (act j') = false)
        case atStart => exact ⟨i + 1, m, by omega, by omega, by omega, by go_num, rfl, fun j' h => by omega⟩
        case round =>
          obtain ⟨j, m2, hij, hjn, hg2, rfl, rfl, hall2⟩ := hrel
          have HG2 := hid hg2
          have HALL2 := hid hall2
          clear hg2 hall2
          by_cases hjlt : j < n
          · have j1 : (j : Int) < (n : Int) := by omega
            have e1 := HS1.out.2 j hjlt
            have e2 := HS2.out.2 j hjlt
            have KO := hid (fun W => (isOp_any (act j) W).mono (R' := fun e w' => e = .returned (.bool (isOp (act j))) ∧ w' = W) fun _ _ ⟨a, b⟩ => ⟨a, b.symm⟩)
            have HST := hid (show (tx j = ti → isOp (act j) = false) → ∀ j', i < j' → j' < j + 1 → tx j' = ti → isOp (act j') = false from fun h j' h1 h2 => by
              by_cases e : j' < j
              · exact HALL2.out j' h1 e
              · have : j' = j := by omega
                subst this; exact h)
            generalize hop : isOp (act j) = op at *
            generalize hw2 : act j = aj at *
            generalize tx j = tj at *
            clear hop hw2
            by_cases hs : tj = ti
            · have q := sEq_t hs
              cases op with
              | true =>
                have HH := hid hs
                clear hs HST
                go_wp2
                go_quiet ((go_at_call 30; exact quiet_add (KO.out _)))
                go_wp2
                go_ret
                exact ⟨.inr ⟨rfl, trivial⟩, _, World.drewN_drewN _ _ _⟩
              | false =>
                have HST2 := hid (HST.out (fun _ => rfl))
                clear hs HST
                go_wp2
                go_quiet ((go_at_call 30; exact quiet_add (KO.out _)))
                go_wp2
                go_roundg (n - (j + 1))
                case measure => have := HG2.out; omega
                case rel => exact ⟨j + 1, _, by omega, by omega, rfl, by go_num, rfl, HST2.out⟩
            · have q := sEq_f hs
              have HST2 := hid (HST.out (fun h => absurd h hs))
              clear hs HST
              go_wp2
              go_quiet (fail)
              go_wp2
              go_roundg (n - (j + 1))
              case measure => have := HG2.out; omega
              case rel => exact ⟨j + 1, _, by omega, by omega, rfl, by go_num, rfl, HST2.out⟩
          · have HN := hid (show ∀ i' j, i' < i + 1 → i' < j → j < n → isEnd (act i') = true → tx j = tx i' → isOp (act j) = false from fun i' j' h1 h2 h3 h4 h5 => by
              by_cases e : i' < i
              · exact HALL.out i' j' e h2 h3 h4 h5
              · have : i' = i := by omega
                subst this
                exact HALL2.out j' h2 (by omega) (h5.trans HTI.out))
            clear HALL2
            go_wp2
            go_roundg (n - (i + 1))
            case measure => have := HG.out; omega
            case rel => exact ⟨i + 1, m2, by omega, rfl, by go_num, rfl, HN.out⟩
      · have he2 : isEnd (act i) = false := by cases h : isEnd (act i); · rfl
                                               · exact absurd h he
        rw [he2] at KE
        have HN := hid (show ∀ i' j, i' < i + 1 → i' < j → j < n → isEnd (act i') = true → tx j = tx i' → isOp (act j) = false from fun i' j' h1 h2 h3 h4 h5 => by
          by_cases e : i' < i
          · exact HALL.out i' j' e h2 h3 h4 h5
          · have : i' = i := by omega
            subst this
            rw [he2] at h4; cases h4)
        clear he he2
        generalize act i = ai at *
        go_wp2_with (go_at_call 29; refine (KE.out _).mono ?_; rintro e w' ⟨rfl, rfl⟩)
        go_roundg (n - (i + 1))
        case measure => have := HG.out; omega
        case rel => exact ⟨i + 1, m, by omega, rfl, by go_num, rfl, HN.out⟩
    · have HF := hid (show WF tx act n from fun i' j h1 h2 h3 h4 => HALL.out i' j (by omega) h1 h2 h3 h4)
      go_wp2
      go_ret
      exact ⟨.inl ⟨rfl, HF.out⟩, _, rfl⟩
end Go.Proofs.Qxb6600445a

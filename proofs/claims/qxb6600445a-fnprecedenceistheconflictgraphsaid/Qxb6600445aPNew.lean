import Derived.Test.Qxb6600445aPAdd
namespace Go.Proofs.Qxb6600445a
open Go.RowKit
open Go.Maps (Keyed)
set_option linter.unusedVariables false

/-- the place of each of the first n names -/
def plf (tn : Nat → ByteArray) : Nat → ByteArray → Option Value
  | 0 => fun _ => none
  | n + 1 => up (plf tn n) (tn n) (some (.int .i64 (n : Nat)))
theorem plf_at (tn : Nat → ByteArray) (n : Nat) (hd : ∀ i j, j < i → i < n → tn i ≠ tn j) (i : Nat) (hi : i < n) : plf tn n (tn i) = some (.int .i64 (i : Nat)) := by
  induction n with
  | zero => omega
  | succ n ih =>
    unfold plf
    by_cases e : i = n
    · subst e; exact up_at _ _ _
    · rw [up_ne _ _ _ _ (fun h => hd n i (by omega) (by omega) h.symm)]
      exact ih (fun a b h1 h2 => hd a b h1 (by omega)) (by omega)

theorem mk70 (n : Nat) (w : World) : (Instr.makeMap 70 (some (.int .i64 (n : Nat)))).run Try.prog w = .ok (.map (some w.heap.size)) (w.alloc (.map #[] 0)) := by
  simp [Instr.makeMap, run_underlying Try.underlying70, asInt, asIntOf, Result.andThen]

set_option maxRecDepth 100000 in
set_option maxHeartbeats 1600000 in
theorem places_any (n bo : Nat) (tn : Nat → ByteArray) (w : World) (hn : n ≤ 4096) (hbo : bo < w.heap.size) (hN : NamesAt w bo n tn) (ht : ∀ j, (tn j).size ≤ maxLen) :
    Calls Try.prog 34 #[.slice (some ⟨bo, 0, none⟩) n n] w fun e w' => e = .returned (.map (some w.heap.size)) ∧ (∃ c, mapF w' Try.prog 44 w.heap.size c (keyF (plf tn n))) ∧ w.heap.size < w'.heap.size ∧ Below w.heap.size w w' := by
  have HN := hid hN
  have HT := hid ht
  clear hN ht
  have hmm := mk70 n w
  go_enter Try.func34, Try.ntmps34
  go_wp2
  clear hmm
  have ST := hid (show ∃ c, c ≤ 0 ∧ mapF (w.alloc (.map #[] 0)) Try.prog 44 w.heap.size c (keyF (plf tn 0)) from ⟨0, Nat.le_refl _, mapF_none (mapF_made w Try.prog 44) (fun _ => rfl)⟩)
  have BL := hid (alloc_below w (.map #[] 0))
  go_loopw [11] (fun i wr => ∃ k : Nat, k ≤ n ∧ i = .int .i64 k ∧ Below w.heap.size w wr ∧ ∃ c, c ≤ k ∧ mapF wr Try.prog 44 w.heap.size c (keyF (plf tn k))) (fun i _ => n - (intOf i).toNat)
  case atStart => exact ⟨0, Nat.zero_le _, rfl, BL.out, ST.out⟩
  case round =>
    obtain ⟨k, hk, rfl, hb, c, hc, hF⟩ := hrel
    have HB := hid hb
    have HF := hid hF
    clear ST BL hb hF
    by_cases hlt : k < n
    · have i1 : (k : Int) < (n : Int) := by omega
      have d1 := cell_later HB.out (HN.out k hlt)
      obtain ⟨w2, hr, h2, hT⟩ := HF.out.put law44 Try.underlying70 (by unfold maxLen; omega) (val := .int .i64 (k : Nat)) (key44 (HT.out k)) (keyF (plf tn (k + 1))) (keyF_up _ _ _).1 (keyF_up _ _ _).2
      have NB := hid (show Below w.heap.size w w2 from HB.out.grown hT.grown HB.out.size (fun k h => by cases h; exact Nat.le_refl _))
      have NF := hid (show ∃ c, c ≤ k + 1 ∧ mapF w2 Try.prog 44 w.heap.size c (keyF (plf tn (k + 1))) from ⟨_, by split <;> omega, h2⟩)
      clear h2 hT HF
      generalize tn k = t at *
      go_wp2
      go_roundw
      case rel => exact ⟨k + 1, by omega, by go_num, NB.out, NF.out⟩
      case measure => simp [intOf]; omega
    · have hkn : k = n := by omega
      have FI := hid (show ∃ c, mapF wr Try.prog 44 w.heap.size c (keyF (plf tn n)) from ⟨c, by rw [← hkn]; exact HF.out⟩)
      have FI2 := hid HF.out.lt
      clear hkn HF
      go_wp2
      go_ret
      exact ⟨rfl, FI.out, FI2.out, HB.out⟩

theorem inf42 : (Try.prog.info? 42).map (fun i => (i.zero, i.size, i.bytes)) = some (some (.slice none 0 0), 1, 24) := by kernel_rfl

set_option maxRecDepth 100000 in
set_option maxHeartbeats 1600000 in
theorem newg_any (n : Nat) (w : World) (hn : n ≤ 4096) :
    Calls Try.prog 35 #[.int .i64 (n : Nat)] w fun e w' => ∃ kE kG, e = .returned (.pointer (some ⟨kG, 0, none⟩)) ∧ w.heap.size < kE ∧ kE < kG ∧ w'.heap[w.heap.size]? = some (.cells (rowA n (fun _ => nilS)) 42 (0, 0)) ∧ w'.heap[kE]? = some (.map #[] 0) ∧ w'.heap[kG]? = some (graphO w.heap.size n kE) ∧ Below w.heap.size w w' := by
  obtain ⟨i0, hi, hz0, hz1, hz2⟩ := infoParts inf42
  have hmm := @run_makeMap Try.prog
  go_enter Try.func35, Try.ntmps35
  go_wp2_with (at_make; refine wpList_make_full _ rfl _ _ 36 rfl w.heap.size 42 i0 (.slice none 0 0) 1 Try.underlying36 hi hz0 hz1 _ _ _ _ n rfl rfl rfl rfl (by rw [hz2]; omega) (by unfold maxLen; omega) (Nat.le_refl _) ?_; intro w1 hown hgrow)
  have hlt := (hown.lt w.heap.size rfl).2
  have hb1 : Below w.heap.size w w1 := (Below.refl _ _).grown hgrow (Nat.le_refl _) (fun k h => by cases h)
  have row : w1.heap[w.heap.size]? = some (.cells (rowA n (fun _ => nilS)) 42 (0, 0)) := by
    rcases hown.2 with ⟨e, _⟩ | ⟨g, cap, cur, e, hbb, hg, hnc, hcm, hcs, htk⟩
    · simp at e
    · simp at e
      obtain ⟨rfl, rfl⟩ := e
      rw [hg]
      have e1 : (madeCells (Value.slice none 0 0).cells (n * 1)).toList = List.replicate n (Value.slice none 0 0) := by
        rw [Nat.mul_one]; exact toList_madeCells_one _ _
      rw [e1] at htk
      have e2 : cur = rowA n (fun _ => nilS) := by
        apply Array.ext'
        have : cur.toList.take (n * 1) = cur.toList := by
          apply List.take_of_length_le
          simp at hcs ⊢
          omega
        rw [this] at htk
        rw [htk]
        simp [rowA, nilS]
        rw [List.map_const', List.length_range]
      rw [e2]
  go_ret
  refine ⟨w1.heap.size, w1.heap.size + 1, rfl, hlt, Nat.lt_succ_self _, ?_, ?_, ?_, ((hb1.alloc (by omega) _).alloc (by simp; omega) _)⟩
  · rw [Below.heap_alloc _ _ _ (by simp; omega), Below.heap_alloc _ _ _ hlt]
    exact row
  · rw [Below.heap_alloc _ _ _ (by simp)]
    exact heap_alloc_new _ _
  · have : (w1.alloc (.map #[] 0)).heap.size = w1.heap.size + 1 := by simp
    rw [← this]
    exact heap_alloc_new _ _
end Go.Proofs.Qxb6600445a

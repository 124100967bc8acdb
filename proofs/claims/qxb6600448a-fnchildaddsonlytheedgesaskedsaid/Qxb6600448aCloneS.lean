import Derived.Test.Qxb6600448aSmall
namespace Go.Proofs.Qxb6600448a
open Go.RowKit
set_option linter.unusedVariables false

theorem info32 : (Try.prog.info? 32).map (fun i => (i.zero, i.size, i.bytes)) = some (some (.agg #[.int .i64 0, .int .i64 0, .string ⟨#[]⟩]), 3, 32) := by kernel_rfl
theorem nilq22 : ∀ (w : World) (a : Option Addr) (n c n' c' : Nat), (binOp .eql 22 (.slice a n c) (.slice none n' c')).run Try.prog w = .ok (.bool a.isNone) w :=
  fun w a n c n' c' => Lib.run_eql_slice_nil w _ _ a n c n' c' Try.underlying22

/-- the steps in memory -/
def StepsAt (w : World) (bs n : Nat) (st : Nat → St) : Prop :=
  ∀ j, j < n → w.cell? ⟨bs, j * 3, none⟩ = some (.int .i64 (st j).par) ∧ w.cell? ⟨bs, j * 3 + 1, none⟩ = some (.int .i64 (st j).kind) ∧ w.cell? ⟨bs, j * 3 + 2, none⟩ = some (.string (st j).text)

def Cur3 (cur : Array Value) (n k : Nat) (st : Nat → St) : Prop :=
  cur.size = n * 3 ∧ ∀ j, j < k → cur[j * 3]? = some (.int .i64 (st j).par) ∧ cur[j * 3 + 1]? = some (.int .i64 (st j).kind) ∧ cur[j * 3 + 2]? = some (.string (st j).text)

theorem cur3_step {cur : Array Value} {n k : Nat} {st : Nat → St} (h : Cur3 cur n k st) (hk : k < n) :
    Cur3 (((cur.setIfInBounds (k * 3) (.int .i64 (st k).par)).setIfInBounds (k * 3 + 1) (.int .i64 (st k).kind)).setIfInBounds (k * 3 + 2) (.string (st k).text)) n (k + 1) st := by
  obtain ⟨h1, h2⟩ := h
  refine ⟨by simpa using h1, fun j hj => ?_⟩
  simp only [Array.getElem?_setIfInBounds, Array.size_setIfInBounds, h1]
  by_cases e : j = k
  · subst e
    refine ⟨?_, ?_, ?_⟩
    · rw [if_neg (by omega), if_neg (by omega), if_pos rfl, if_pos (by omega)]
    · rw [if_neg (by omega), if_pos rfl, if_pos (by omega)]
    · rw [if_pos rfl, if_pos (by omega)]
  · have := h2 j (by omega)
    refine ⟨?_, ?_, ?_⟩
    · rw [if_neg (by omega), if_neg (by omega), if_neg (by omega)]; exact this.1
    · rw [if_neg (by omega), if_neg (by omega), if_neg (by omega)]; exact this.2.1
    · rw [if_neg (by omega), if_neg (by omega), if_neg (by omega)]; exact this.2.2

theorem cur3_at {w : World} {b : Nat} {cur : Array Value} {n k : Nat} {st : Nat → St} (h : Cur3 cur n k st) (hb : w.heap[b]? = some (.cells cur 32 (0, 0))) (i : Nat) (hi : i < n * 3) : ∃ v, w.cell? ⟨b, i, none⟩ = some v := by
  have : i < cur.size := by rw [h.1]; exact hi
  exact ⟨cur[i], by rw [cell_of_row w b i cur 32 _ hb]; simp [this]⟩

set_option maxHeartbeats 400000 in
theorem cloneS_some (x : Addr) (b off n c : Nat) (st : Nat → St) (w : World) (hn : n ≤ 4096) (hx : 0 < n → x = ⟨b, off, none⟩)
    (h0 : ∀ j, j < n → w.cell? ⟨b, off + j * 3, none⟩ = some (.int .i64 (st j).par) ∧ w.cell? ⟨b, off + j * 3 + 1, none⟩ = some (.int .i64 (st j).kind) ∧ w.cell? ⟨b, off + j * 3 + 2, none⟩ = some (.string (st j).text)) :
    Calls Try.prog 9 #[.slice (some x) n c] w fun e w' => e = .returned (.slice (some ⟨w.heap.size, 0, none⟩) n n) ∧ StepsAt w' w.heap.size n st ∧ w.heap.size < w'.heap.size ∧ Below w.heap.size w w' := by
  have q := nilq22
  obtain ⟨i0, hi, hz0, hz1, hz2⟩ := info_parts info32
  have H0 := hid h0
  have HX := hid hx
  clear h0 hx
  go_enter Try.func9, Try.ntmps9
  go_wp2_with (at_make; refine wpList_make_full _ rfl _ _ 22 rfl w.heap.size 32 i0 (.agg #[.int .i64 0, .int .i64 0, .string ⟨#[]⟩]) 3 Try.underlying22 hi hz0 hz1 _ _ _ _ n rfl rfl rfl rfl (by rw [hz2]; omega) (by unfold maxLen; omega) (Nat.le_refl _) ?_; intro w1 hown hgrow)
  have ST := hid (show ∃ cur, w1.heap[w.heap.size]? = some (.cells cur 32 (0, 0)) ∧ Cur3 cur n 0 st from by
    rcases hown.2 with ⟨e, _⟩ | ⟨g, cap, cur, e, hbb, hg, hnc, hcm, hcs, htk⟩
    · simp at e
    · simp at e
      obtain ⟨rfl, rfl⟩ := e
      exact ⟨cur, hg, hcs, fun j hj => by omega⟩)
  have BL := hid (show Below w.heap.size w w1 from (Below.refl _ _).grown hgrow (Nat.le_refl _) (fun k h => by cases h))
  clear hown hgrow hi hz0 hz1 hz2
  go_loopw [4] (fun i wr => ∃ k : Nat, k ≤ n ∧ i = .int .i64 k ∧ Below w.heap.size w wr ∧ ∃ cur, wr.heap[w.heap.size]? = some (.cells cur 32 (0, 0)) ∧ Cur3 cur n k st) (fun i _ => n - (intOf i).toNat)
  case atStart => exact ⟨0, Nat.zero_le _, rfl, BL.out, ST.out⟩
  case round =>
    obtain ⟨k, hk, rfl, hb, cur, hcur, h3⟩ := hrel
    clear ST BL
    by_cases hlt : k < n
    · have := HX.out (by omega)
      subst this
      obtain ⟨c1, c2, c3⟩ := H0.out k hlt
      have c1' := cell_later hb c1
      have c2' := cell_later hb c2
      have c3' := cell_later hb c3
      obtain ⟨v1, d1⟩ := cur3_at h3 hcur (k * 3) (by omega)
      obtain ⟨v2, d2⟩ := cur3_at h3 hcur (k * 3 + 1) (by omega)
      obtain ⟨v3, d3⟩ := cur3_at h3 hcur (k * 3 + 2) (by omega)
      have f1 : ∀ i, wr.frozen? ⟨w.heap.size, i, none⟩ = false := fun i => frozen_of_row wr _ i cur 32 hcur
      have NB := hid (((hb.setCell (p := ⟨w.heap.size, k * 3, none⟩) (Nat.le_refl _) (.int .i64 (st k).par)).setCell (p := ⟨w.heap.size, k * 3 + 1, none⟩) (Nat.le_refl _) (.int .i64 (st k).kind)).setCell (p := ⟨w.heap.size, k * 3 + 2, none⟩) (Nat.le_refl _) (.string (st k).text))
      have NC := hid (heap_setCell_same _ w.heap.size (k * 3 + 2) _ 32 (.string (st k).text) (heap_setCell_same _ w.heap.size (k * 3 + 1) _ 32 (.int .i64 (st k).kind) (heap_setCell_same wr w.heap.size (k * 3) cur 32 (.int .i64 (st k).par) hcur)))
      have NS := hid (cur3_step h3 hlt)
      clear c1 c2 c3 hcur h3 hb
      go_wp2
      go_roundw
      case rel => exact ⟨k + 1, by omega, by go_num, NB.out, _, NC.out, NS.out⟩
      case measure => simp [intOf]; omega
    · have hkn : k = n := by omega
      have FIN := hid (show StepsAt wr w.heap.size n st ∧ w.heap.size < wr.heap.size from ⟨fun j hj => by
        have := h3.2 j (by omega)
        rw [cell_of_row wr _ _ cur 32 _ hcur, cell_of_row wr _ _ cur 32 _ hcur, cell_of_row wr _ _ cur 32 _ hcur]
        exact this, (Array.getElem?_eq_some_iff.1 hcur).1⟩)
      have HBB := hid hb
      clear hkn hcur h3 hb
      go_wp2
      go_ret
      exact ⟨rfl, FIN.out.1, FIN.out.2, HBB.out⟩

theorem cloneS_nil (w : World) : Calls Try.prog 9 #[.slice none 0 0] w fun e w' => e = .returned (.slice none 0 0) ∧ w = w' := by
  have q := nilq22
  go_enter Try.func9, Try.ntmps9
  go_wp2
  go_ret
  exact ⟨rfl, rfl⟩

/-- the steps of an argument: nil, or its cells are there -/
def Steps (w : World) (a : Option Addr) (n c : Nat) (b off : Nat) (st : Nat → St) : Prop :=
  (a = none → n = 0 ∧ c = 0) ∧ (0 < n → a = some ⟨b, off, none⟩) ∧
  ∀ j, j < n → w.cell? ⟨b, off + j * 3, none⟩ = some (.int .i64 (st j).par) ∧ w.cell? ⟨b, off + j * 3 + 1, none⟩ = some (.int .i64 (st j).kind) ∧ w.cell? ⟨b, off + j * 3 + 2, none⟩ = some (.string (st j).text)

theorem cloneS (a : Option Addr) (b off n c : Nat) (st : Nat → St) (w : World) (hn : n ≤ 4096) (hs : Steps w a n c b off st) :
    Calls Try.prog 9 #[.slice a n c] w fun e w' => ∃ a' c' bs, e = .returned (.slice a' n c') ∧ (0 < n → a' = some ⟨bs, 0, none⟩) ∧ (0 < n → bs < w'.heap.size) ∧ StepsAt w' bs n st ∧ Below w.heap.size w w' := by
  obtain ⟨h1, h2, h3⟩ := hs
  cases a with
  | none =>
    obtain ⟨rfl, rfl⟩ := h1 rfl
    refine (cloneS_nil w).mono ?_
    rintro e w' ⟨rfl, rfl⟩
    exact ⟨none, 0, 0, rfl, fun h => by omega, fun h => by omega, fun j hj => by omega, Below.refl _ _⟩
  | some x =>
    refine (cloneS_some x b off n c st w hn (fun h => by have := h2 h; simpa using this) h3).mono ?_
    rintro e w' ⟨rfl, g1, g2, g3⟩
    exact ⟨_, _, _, rfl, fun _ => rfl, fun _ => g2, g1, g3⟩
end Go.Proofs.Qxb6600448a

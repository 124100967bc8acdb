import Derived.Test.Qxb6600445aWf
namespace Go.Proofs.Qxb6600445a
open Go.RowKit
set_option linter.unusedVariables false

theorem info47 : (Try.prog.info? 47).map (fun i => (i.zero, i.size, i.bytes)) = some (some (.agg #[.string ⟨#[]⟩, .int .u8 0, .string ⟨#[]⟩]), 3, 40) := by kernel_rfl

/-- the operations in memory -/
def OpsAt (w : World) (bo n : Nat) (tx : Nat → ByteArray) (act : Nat → Int) (it : Nat → ByteArray) : Prop :=
  ∀ j, j < n → w.cell? ⟨bo, j * 3, none⟩ = some (.string (tx j)) ∧ w.cell? ⟨bo, j * 3 + 1, none⟩ = some (.int .u8 (act j)) ∧ w.cell? ⟨bo, j * 3 + 2, none⟩ = some (.string (it j))

def Cur3 (cur : Array Value) (n k : Nat) (tx : Nat → ByteArray) (act : Nat → Int) (it : Nat → ByteArray) : Prop :=
  cur.size = n * 3 ∧ ∀ j, j < k → cur[j * 3]? = some (.string (tx j)) ∧ cur[j * 3 + 1]? = some (.int .u8 (act j)) ∧ cur[j * 3 + 2]? = some (.string (it j))

theorem cur3_step {cur : Array Value} {n k : Nat} {tx : Nat → ByteArray} {act : Nat → Int} {it : Nat → ByteArray} (h : Cur3 cur n k tx act it) (hk : k < n) :
    Cur3 (((cur.setIfInBounds (k * 3) (.string (tx k))).setIfInBounds (k * 3 + 1) (.int .u8 (act k))).setIfInBounds (k * 3 + 2) (.string (it k))) n (k + 1) tx act it := by
  obtain ⟨h1, h2⟩ := h
  refine ⟨by simpa using h1, fun j hj => ?_⟩
  simp only [Array.getElem?_setIfInBounds, Array.size_setIfInBounds, h1]
  by_cases e : j = k
  · subst e
    refine ⟨?_, ?_, ?_⟩
    · rw [if_neg (by omega), if_neg (by omega), if_pos rfl, if_pos (by omega)]
    · rw [if_neg (by omega), if_pos rfl, if_pos (by omega)]
    · rw [if_pos rfl, if_pos (by omega)]
  · have := h2 j (by omega)
    refine ⟨?_, ?_, ?_⟩
    · rw [if_neg (by omega), if_neg (by omega), if_neg (by omega)]; exact this.1
    · rw [if_neg (by omega), if_neg (by omega), if_neg (by omega)]; exact this.2.1
    · rw [if_neg (by omega), if_neg (by omega), if_neg (by omega)]; exact this.2.2

theorem cur3_at {w : World} {b : Nat} {cur : Array Value} {n k : Nat} {tx : Nat → ByteArray} {act : Nat → Int} {it : Nat → ByteArray} (h : Cur3 cur n k tx act it) (hb : w.heap[b]? = some (.cells cur 47 (0, 0))) (i : Nat) (hi : i < n * 3) : ∃ v, w.cell? ⟨b, i, none⟩ = some v := by
  have : i < cur.size := by rw [h.1]; exact hi
  exact ⟨cur[i], by rw [cell_of_row w b i cur 47 _ hb]; simp [this]⟩

set_option maxRecDepth 100000 in
set_option maxHeartbeats 800000 in
theorem ops_any (a1 a2 a3 : Option Addr) (n c1 c2 c3 b1 o1 b2 o2 b3 o3 : Nat) (tx : Nat → ByteArray) (act : Nat → Int) (it : Nat → ByteArray) (w : World) (hn : n ≤ 4096)
    (hs1 : StrsAt w a1 n b1 o1 tx) (hs2 : BytesAt w a2 n b2 o2 act) (hs3 : StrsAt w a3 n b3 o3 it) :
    Calls Try.prog 13 #[.slice a1 n c1, .slice a2 n c2, .slice a3 n c3] w fun e w' => e = .returned (.slice (some ⟨w.heap.size, 0, none⟩) n n) ∧ OpsAt w' w.heap.size n tx act it ∧ w.heap.size < w'.heap.size ∧ Below w.heap.size w w' := by
  obtain ⟨i0, hi, hz0, hz1, hz2⟩ := info_parts info47
  have HS1 := hid hs1
  have HS2 := hid hs2
  have HS3 := hid hs3
  clear hs1 hs2 hs3
  go_enter Try.func13, Try.ntmps13
  go_wp2_with (at_make; refine wpList_make_full _ rfl _ _ 29 rfl w.heap.size 47 i0 (.agg #[.string ⟨#[]⟩, .int .u8 0, .string ⟨#[]⟩]) 3 Try.underlying29 hi hz0 hz1 _ _ _ _ n rfl rfl rfl rfl (by rw [hz2]; omega) (by unfold maxLen; omega) (Nat.le_refl _) ?_; intro w1 hown hgrow)
  have ST := hid (show ∃ cur, w1.heap[w.heap.size]? = some (.cells cur 47 (0, 0)) ∧ Cur3 cur n 0 tx act it from by
    rcases hown.2 with ⟨e, _⟩ | ⟨g, cap, cur, e, hbb, hg, hnc, hcm, hcs, htk⟩
    · simp at e
    · simp at e
      obtain ⟨rfl, rfl⟩ := e
      exact ⟨cur, hg, hcs, fun j hj => by omega⟩)
  have BL := hid (show Below w.heap.size w w1 from (Below.refl _ _).grown hgrow (Nat.le_refl _) (fun k h => by cases h))
  clear hown hgrow hi hz0 hz1 hz2
  go_loopw [8] (fun i wr => ∃ k : Nat, k ≤ n ∧ i = .int .i64 k ∧ Below w.heap.size w wr ∧ ∃ cur, wr.heap[w.heap.size]? = some (.cells cur 47 (0, 0)) ∧ Cur3 cur n k tx act it) (fun i _ => n - (intOf i).toNat)
  case atStart => exact ⟨0, Nat.zero_le _, rfl, BL.out, ST.out⟩
  case round =>
    obtain ⟨k, hk, rfl, hb, cur, hcur, h3⟩ := hrel
    clear ST BL
    by_cases hlt : k < n
    · have ha1 := HS1.out.1 (by omega)
      have ha2 := HS2.out.1 (by omega)
      have ha3 := HS3.out.1 (by omega)
      subst ha1 ha2 ha3
      have i1 : (k : Int) < (n : Int) := by omega
      have d1 := HS1.out.2 k hlt
      have d2 := HS2.out.2 k hlt
      have d3 := HS3.out.2 k hlt
      have l1 := World.block_lt_of_cell? _ _ d1
      have l2 := World.block_lt_of_cell? _ _ d2
      have l3 := World.block_lt_of_cell? _ _ d3
      simp only at l1 l2 l3
      have n1 : ¬ b1 = w.heap.size := by omega
      have n2 : ¬ b2 = w.heap.size := by omega
      have n3 : ¬ b3 = w.heap.size := by omega
      have m1 : ¬ w.heap.size = b1 := by omega
      have m2 : ¬ w.heap.size = b2 := by omega
      have m3 : ¬ w.heap.size = b3 := by omega
      have c1' := cell_later hb d1
      have c2' := cell_later hb d2
      have c3' := cell_later hb d3
      obtain ⟨v1, e1⟩ := cur3_at h3 hcur (k * 3) (by omega)
      obtain ⟨v2, e2⟩ := cur3_at h3 hcur (k * 3 + 1) (by omega)
      obtain ⟨v3, e3⟩ := cur3_at h3 hcur (k * 3 + 2) (by omega)
      have f1 : ∀ i, wr.frozen? ⟨w.heap.size, i, none⟩ = false := fun i => frozen_of_row wr _ i cur 47 hcur
      have NB := hid (((hb.setCell (p := ⟨w.heap.size, k * 3, none⟩) (Nat.le_refl _) (.string (tx k))).setCell (p := ⟨w.heap.size, k * 3 + 1, none⟩) (Nat.le_refl _) (.int .u8 (act k))).setCell (p := ⟨w.heap.size, k * 3 + 2, none⟩) (Nat.le_refl _) (.string (it k)))
      have NC := hid (heap_setCell_same _ w.heap.size (k * 3 + 2) _ 47 (.string (it k)) (heap_setCell_same _ w.heap.size (k * 3 + 1) _ 47 (.int .u8 (act k)) (heap_setCell_same wr w.heap.size (k * 3) cur 47 (.string (tx k)) hcur)))
      have NS := hid (cur3_step h3 hlt)
      clear d1 d2 d3 hcur h3 hb l1 l2 l3
      generalize tx k = t at *
      generalize act k = ac at *
      generalize it k = x at *
      go_wp2
      go_region_held3 (fun w' => w'.cell? ⟨b1, o1 + k, none⟩ = some (.string t) ∧ w'.cell? ⟨b2, o2 + k, none⟩ = some (.int .u8 ac) ∧ w'.cell? ⟨b3, o3 + k, none⟩ = some (.string x)) (go_keep) (fail)
      go_wp2
      go_roundw
      case rel => exact ⟨k + 1, by omega, by go_num, NB.out.drew, _, NC.out, NS.out⟩
      case measure => simp [intOf]; omega
    · have hkn : k = n := by omega
      have FIN := hid (show OpsAt wr w.heap.size n tx act it ∧ w.heap.size < wr.heap.size from ⟨fun j hj => by
        have := h3.2 j (by omega)
        rw [cell_of_row wr _ _ cur 47 _ hcur, cell_of_row wr _ _ cur 47 _ hcur, cell_of_row wr _ _ cur 47 _ hcur]
        exact this, (Array.getElem?_eq_some_iff.1 hcur).1⟩)
      have HBB := hid hb
      clear hkn hcur h3 hb
      go_wp2
      go_ret
      exact ⟨rfl, FIN.out.1, FIN.out.2, HBB.out⟩
end Go.Proofs.Qxb6600445a

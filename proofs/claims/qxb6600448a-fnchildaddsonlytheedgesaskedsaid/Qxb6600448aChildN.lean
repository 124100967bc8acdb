import Derived.Test.Qxb6600448aChild
namespace Go.Proofs.Qxb6600448a
open Go.RowKit
open Go.Maps (Keyed)
set_option linter.unusedVariables false

theorem qmap : ∀ (w : World) (r : Option Nat), (binOp .eql 49 (.map r) (.map none)).run Try.prog w = .ok (.bool r.isNone) w := fun w r => run_eql_map_nil w 49 _ _ r Try.underlying49

theorem fin3 (w : World) (b j nq : Nat) (v : Value) (O1 O2 O3 : Obj) (cur : Array Value) (hb : w.heap[b]? = some (.cells cur 51 (0, 0))) :
    (((((w.alloc O1).drewN nq).setCell ⟨b, j, none⟩ v).alloc O2).alloc O3).heap[w.heap.size]? = some O1 ∧
    (((((w.alloc O1).drewN nq).setCell ⟨b, j, none⟩ v).alloc O2).alloc O3).heap[w.heap.size + 1]? = some O2 ∧
    (((((w.alloc O1).drewN nq).setCell ⟨b, j, none⟩ v).alloc O2).alloc O3).heap[w.heap.size + 1 + 1]? = some O3 ∧
    (((((w.alloc O1).drewN nq).setCell ⟨b, j, none⟩ v).alloc O2).alloc O3).heap[b]? = some (.cells (cur.setIfInBounds j v) 51 (0, 0)) ∧
    w.grownBy (((((w.alloc O1).drewN nq).setCell ⟨b, j, none⟩ v).alloc O2).alloc O3) (some b) := by
  have hlt := (Array.getElem?_eq_some_iff.1 hb).1
  have e1 : (((w.alloc O1).drewN nq).setCell ⟨b, j, none⟩ v).heap.size = w.heap.size + 1 := by simp
  have e2 : ((((w.alloc O1).drewN nq).setCell ⟨b, j, none⟩ v).alloc O2).heap.size = w.heap.size + 1 + 1 := by simp
  have e3 : ((w.alloc O1).drewN nq).heap[b]? = some (.cells cur 51 (0, 0)) := (Below.heap_alloc w O1 b hlt).trans hb
  have g1 : w.grownBy ((w.alloc O1).drewN nq) (some b) := ⟨rfl, rfl, rfl, by simp, fun k hk _ => Below.heap_alloc w O1 k hk⟩
  refine ⟨?_, ?_, ?_, ?_, ((g1.trans (grown_set _ b j v)).trans (World.grownBy_alloc _ _ _)).trans (World.grownBy_alloc _ _ _)⟩
  · rw [Below.heap_alloc _ _ _ (by rw [e2]; omega), Below.heap_alloc _ _ _ (by rw [e1]; omega), Below.heap_setCell _ _ _ _ (by simp; omega)]
    exact heap_alloc_new w O1
  · rw [Below.heap_alloc _ _ _ (by rw [e2]; omega), ← e1]
    exact heap_alloc_new _ O2
  · rw [← e2]
    exact heap_alloc_new _ O3
  · rw [Below.heap_alloc _ _ _ (by rw [e2]; omega), Below.heap_alloc _ _ _ (by rw [e1]; omega)]
    exact heap_setCell_same _ b j cur 51 v e3

theorem mapF_empty {w : World} {P : Program} {k : TypeId} {b : Nat} (h : w.heap[b]? = some (.map #[] 0)) : mapF w P k b 0 (fun _ => none) := by
  obtain ⟨D, ⟨es, clock, h1, h2⟩, h3⟩ := mapF_made w P k
  rw [show (w.alloc (.map #[] 0)).heap[w.heap.size]? = some (.map #[] 0) from heap_alloc_new w _] at h1
  exact ⟨D, ⟨es, clock, h.trans h1, h2⟩, h3⟩

/-- the first literal of a node -/
theorem lit_first (b : Nat) (wd dp : Value) (s : ByteArray) (w : World) (hb : w.heap[b]? = some (node (.map none) wd dp)) (hs : s.size ≤ maxLen) :
    Calls Try.prog 30 #[.pointer (some ⟨b, 0, none⟩), .agg #[.int .i64 0, .string s]] w fun e w' => ∃ r mb, w.heap.size ≤ r ∧ w.heap.size ≤ mb ∧ e = .returned (.pointer (some ⟨r, 0, none⟩)) ∧ w'.heap[r]? = some fresh ∧ w'.heap[b]? = some (node (.map (some mb)) wd dp) ∧
      mapF w' Try.prog 9 mb 1 (litF fun t => if t = s.data.toList then some r else none) ∧ w.grownBy w' (some b) := by
  obtain ⟨c0, c1, c2, c3, fr⟩ := node_cells hb
  have hlt := (Array.getElem?_eq_some_iff.1 hb).1
  have hlk : ∀ W, (Instr.lookup 49 (.map none) (.string s) false).run Try.prog W = .ok (.pointer none) W := fun W => Go.Maps.look_nil false law Try.underlying49 (zero25 _) (WideMaps.keyOf_string_mk Try.underlying9 hs)
  have HB := hid hb
  have q := qmap
  have hmm := @run_makeMap Try.prog
  clear hb
  go_enter Try.func30, Try.ntmps30
  go_wp2
  go_quiet (fail)
  go_wp2
  have F := fin3 w b 0 nq (.map (some (w.heap.size + 1))) (.cells #[.int .i64 0, .string s] 70) (.map #[] 0) (.cells #[.map none, .pointer none, .pointer none, .slice none 0 0] 51) _ HB.out
  generalize (((((w.alloc (.cells #[.int .i64 0, .string s] 70)).drewN nq).setCell ⟨b, 0, none⟩ (.map (some (w.heap.size + 1)))).alloc (.map #[] 0)).alloc (.cells #[.map none, .pointer none, .pointer none, .slice none 0 0] 51)) = W at *
  obtain ⟨f1, f2, f3, f4, f5⟩ := F
  have k1 : W.cell? ⟨b, 0, none⟩ = some (.map (some (w.heap.size + 1))) := (node_cells (m := .map (some (w.heap.size + 1))) f4).1
  have k2 : W.cell? ⟨w.heap.size, 1, none⟩ = some (.string s) := cell_of_row W w.heap.size 1 _ 70 _ f1
  obtain ⟨W1, hrun, hF1, hT⟩ := (mapF_empty (P := Try.prog) (k := 9) (w := W.drew) f2).put law Try.underlying49 (by unfold maxLen; omega) (val := .pointer (some ⟨w.heap.size + 1 + 1, 0, none⟩)) (WideMaps.keyOf_string_mk Try.underlying9 hs) (litF fun t => if t = s.data.toList then some (w.heap.size + 1 + 1) else none) (by simp [litF]) (fun x hx => by
    cases x <;> simp [litF] at hx ⊢
    exact hx)
  have P1 := hid hF1
  have P2 := hid hT
  have P3 := hid f3
  have P4 := hid f4
  have P5 := hid f5
  clear hF1 hT f1 f2 f3 f4 f5 c0 c1 c2 c3 fr
  go_region
  go_wp2
  go_ret
  have G := P2.out.grown
  have l3 := (Array.getElem?_eq_some_iff.1 P3.out).1
  have l4 := (Array.getElem?_eq_some_iff.1 P4.out).1
  refine ⟨w.heap.size + 1 + 1, w.heap.size + 1, by omega, by omega, rfl, ?_, ?_, P1.out, ?_⟩
  · rw [G.block _ l3 (by simp)]; exact P3.out
  · rw [G.block _ l4 (by simp; omega)]; exact P4.out
  · have p5 := P5.out
    exact ⟨G.os.trans p5.os, G.tape.trans p5.tape, G.output.trans p5.output, Nat.le_trans p5.size G.size, fun k hk hne => (G.block k (Nat.lt_of_lt_of_le hk p5.size) (by simp; omega)).trans (p5.block k hk hne)⟩

def addF (g : List UInt8 → Option Nat) (s : List UInt8) (r : Nat) : List UInt8 → Option Nat := fun t => if t = s then some r else g t

theorem litF_add (g : List UInt8 → Option Nat) (s : List UInt8) (r : Nat) : litF (addF g s r) (.string s) = some (.pointer (some ⟨r, 0, none⟩)) ∧ ∀ x, x ≠ .string s → litF (addF g s r) x = litF g x := by
  refine ⟨by simp [litF, addF], fun x hx => ?_⟩
  cases x <;> simp [litF, addF] at hx ⊢
  simp [hx]

theorem fin1 (w : World) (b nq : Nat) (O1 O2 : Obj) :
    ((((w.alloc O1).drewN nq).alloc O2)).heap[w.heap.size]? = some O1 ∧ ((((w.alloc O1).drewN nq).alloc O2)).heap[w.heap.size + 1]? = some O2 ∧ Below w.heap.size w (((w.alloc O1).drewN nq).alloc O2) := by
  have e1 : ((w.alloc O1).drewN nq).heap.size = w.heap.size + 1 := by simp
  refine ⟨?_, ?_, rfl, rfl, rfl, by simp; omega, fun k hk => ?_⟩
  · rw [Below.heap_alloc _ _ _ (by rw [e1]; omega)]; exact heap_alloc_new w O1
  · rw [← e1]; exact heap_alloc_new _ O2
  · rw [Below.heap_alloc _ _ _ (by rw [e1]; omega)]; exact Below.heap_alloc w O1 k hk

/-- a further literal of a node -/
theorem lit_more (b mb c : Nat) (wd dp : Value) (g : List UInt8 → Option Nat) (s : ByteArray) (w : World) (hb : w.heap[b]? = some (node (.map (some mb)) wd dp)) (hm : mapF w Try.prog 9 mb c (litF g)) (hs : s.size ≤ maxLen) (hg : g s.data.toList = none) (hc : c < maxLen) :
    Calls Try.prog 30 #[.pointer (some ⟨b, 0, none⟩), .agg #[.int .i64 0, .string s]] w fun e w' => ∃ r, w.heap.size ≤ r ∧ e = .returned (.pointer (some ⟨r, 0, none⟩)) ∧ w'.heap[r]? = some fresh ∧
      mapF w' Try.prog 9 mb (c + 1) (litF (addF g s.data.toList r)) ∧ w.grownBy w' (some mb) := by
  obtain ⟨c0, c1, c2, c3, fr⟩ := node_cells hb
  have hlt := (Array.getElem?_eq_some_iff.1 hb).1
  have hlk : ∀ nq, (Instr.lookup 49 (.map (some mb)) (.string s) false).run Try.prog ((w.alloc (.cells #[.int .i64 0, .string s] 70)).drewN nq) = .ok (.pointer none) ((w.alloc (.cells #[.int .i64 0, .string s] 70)).drewN nq) := fun nq => by
    have h1 : mapF ((w.alloc (.cells #[.int .i64 0, .string s] 70)).drewN nq) Try.prog 9 mb c (litF g) := hm.of_block (Below.heap_alloc w _ mb hm.lt)
    rw [h1.look law Try.underlying49 (zero25 _) (WideMaps.keyOf_string_mk Try.underlying9 hs)]
    simp [litF, hg]
  have HB := hid hb
  have HM := hid hm
  have HG := hid hg
  have q := qmap
  clear hb hm hg
  go_enter Try.func30, Try.ntmps30
  go_wp2
  go_quiet (fail)
  clear hlk
  go_wp2
  have F := fin1 w b nq (.cells #[.int .i64 0, .string s] 70) (.cells #[.map none, .pointer none, .pointer none, .slice none 0 0] 51)
  generalize (((w.alloc (.cells #[.int .i64 0, .string s] 70)).drewN nq).alloc (.cells #[.map none, .pointer none, .pointer none, .slice none 0 0] 51)) = W at *
  obtain ⟨f1, f3, f5⟩ := F
  have f4 := f5.block b hlt
  rw [HB.out] at f4
  have k1 : W.cell? ⟨b, 0, none⟩ = some (.map (some mb)) := (node_cells (m := .map (some mb)) f4).1
  have k2 : W.cell? ⟨w.heap.size, 1, none⟩ = some (.string s) := cell_of_row W w.heap.size 1 _ 70 _ f1
  have hM2 : mapF W.drew Try.prog 9 mb c (litF g) := HM.out.of_block (f5.block mb HM.out.lt)
  obtain ⟨W1, hrun, hF1, hT⟩ := hM2.put law Try.underlying49 hc (val := .pointer (some ⟨w.heap.size + 1, 0, none⟩)) (WideMaps.keyOf_string_mk Try.underlying9 hs) (litF (addF g s.data.toList (w.heap.size + 1))) (litF_add _ _ _).1 (litF_add _ _ _).2
  have hno : (litF g (.string s.data.toList)).isSome = false := by simp [litF, HG.out]
  rw [hno] at hF1
  have P1 := hid hF1
  have P2 := hid hT
  have P3 := hid f3
  have P5 := hid f5
  clear hF1 hT f1 f3 f4 f5 c0 c1 c2 c3 fr hno hM2
  go_region
  go_wp2
  go_ret
  have G := P2.out.grown
  have l3 := (Array.getElem?_eq_some_iff.1 P3.out).1
  have lm := HM.out.lt
  refine ⟨w.heap.size + 1, by omega, rfl, ?_, P1.out, ?_⟩
  · rw [G.block _ l3 (by simp; omega)]; exact P3.out
  · have p5 := P5.out
    exact ⟨G.os.trans p5.os, G.tape.trans p5.tape, G.output.trans p5.output, Nat.le_trans p5.size G.size, fun k hk hne => (G.block k (Nat.lt_of_lt_of_le hk p5.size) hne).trans (p5.block k hk)⟩
end Go.Proofs.Qxb6600448a

import Derived.Test.Qxb6600448aRows
import Derived.Test.Qxb6600448aMapF
import Derived.ProofKit
import Derived.Deep.QuietTactic
import Derived.BigQuiet
import Derived.Deep.RegionHeld3
import Derived.Deep.AppendLies
namespace Go.Proofs.Qxb6600448a
open Go.RowKit
open Go.Maps (Keyed)
set_option linter.unusedVariables false

theorem hid {p : Prop} (h : p) : Hid p := h

theorem law : Keyed Try.prog 9 := Go.Maps.string_keyed Try.underlying9
theorem zero25 (w : World) : (zeroValue 25).run Try.prog w = .ok (.pointer none) w := by kernel_rfl
theorem zero51 (w : World) : (zeroValue 51).run Try.prog w = .ok (.agg #[.map none, .pointer none, .pointer none, .slice none 0 0]) w := by kernel_rfl

/-- a node's block -/
def node (m wd dp : Value) : Obj := .cells #[m, wd, dp, .slice none 0 0] 51 (0, 0)
def fresh : Obj := node (.map none) (.pointer none) (.pointer none)

theorem node_cells {w : World} {b : Nat} {m wd dp : Value} (h : w.heap[b]? = some (node m wd dp)) :
    w.cell? ⟨b, 0, none⟩ = some m ∧ w.cell? ⟨b, 1, none⟩ = some wd ∧ w.cell? ⟨b, 2, none⟩ = some dp ∧ w.cell? ⟨b, 3, none⟩ = some (.slice none 0 0) ∧ ∀ j, w.frozen? ⟨b, j, none⟩ = false :=
  ⟨cell_of_row w b 0 _ 51 _ h, cell_of_row w b 1 _ 51 _ h, cell_of_row w b 2 _ 51 _ h, cell_of_row w b 3 _ 51 _ h, fun j => frozen_of_row w b j _ 51 h⟩

theorem grown_set (w : World) (b j : Nat) (v : Value) : w.grownBy (w.setCell ⟨b, j, none⟩ v) (some b) :=
  ⟨rfl, rfl, rfl, by simp, fun k hk hne => Below.heap_setCell w _ _ k (fun e => hne (by rw [e]))⟩

theorem fin2 (w : World) (b j : Nat) (v : Value) (O1 O2 : Obj) (cur : Array Value) (hb : w.heap[b]? = some (.cells cur 51 (0, 0))) :
    (((w.setCell ⟨b, j, none⟩ v).alloc O1).alloc O2).heap[w.heap.size + 1]? = some O2 ∧ (((w.setCell ⟨b, j, none⟩ v).alloc O1).alloc O2).heap[b]? = some (.cells (cur.setIfInBounds j v) 51 (0, 0)) ∧
    w.grownBy (((w.setCell ⟨b, j, none⟩ v).alloc O1).alloc O2) (some b) := by
  have hlt := (Array.getElem?_eq_some_iff.1 hb).1
  have e1 : ((w.setCell ⟨b, j, none⟩ v).alloc O1).heap.size = w.heap.size + 1 := by simp
  refine ⟨?_, ?_, ((grown_set w b j v).trans (World.grownBy_alloc _ _ _)).trans (World.grownBy_alloc _ _ _)⟩
  · rw [← e1]; exact heap_alloc_new _ _
  · rw [Below.heap_alloc _ _ _ (by rw [e1]; omega), Below.heap_alloc _ _ _ (by simp; omega)]
    exact heap_setCell_same w b j cur 51 v hb

theorem wild_hit (b : Nat) (m dp : Value) (r : Addr) (s : ByteArray) (w : World) (hb : w.heap[b]? = some (node m (.pointer (some r)) dp)) :
    Calls Try.prog 30 #[.pointer (some ⟨b, 0, none⟩), .agg #[.int .i64 1, .string s]] w fun e w' => e = .returned (.pointer (some r)) ∧ Below w.heap.size w w' := by
  obtain ⟨c0, c1, c2, c3, fr⟩ := node_cells hb
  have hlt := (Array.getElem?_eq_some_iff.1 hb).1
  clear hb
  go_enter Try.func30, Try.ntmps30
  go_wp2
  go_ret
  exact ⟨rfl, (Below.refl _ _).alloc (Nat.le_refl _) _⟩

theorem wild_new (b : Nat) (m dp : Value) (s : ByteArray) (w : World) (hb : w.heap[b]? = some (node m (.pointer none) dp)) :
    Calls Try.prog 30 #[.pointer (some ⟨b, 0, none⟩), .agg #[.int .i64 1, .string s]] w fun e w' => ∃ r, w.heap.size ≤ r ∧ e = .returned (.pointer (some ⟨r, 0, none⟩)) ∧ w'.heap[r]? = some fresh ∧ w'.heap[b]? = some (node m (.pointer (some ⟨r, 0, none⟩)) dp) ∧ w.grownBy w' (some b) := by
  obtain ⟨c0, c1, c2, c3, fr⟩ := node_cells hb
  have hlt := (Array.getElem?_eq_some_iff.1 hb).1
  have HB := hid hb
  clear hb
  go_enter Try.func30, Try.ntmps30
  go_wp2
  go_ret
  have F := fin2 w b 1 (.pointer (some ⟨w.heap.size + 1, 0, none⟩)) (.cells #[.int .i64 1, .string s] 70) fresh _ HB.out
  exact ⟨w.heap.size + 1, by omega, rfl, F.1, F.2.1, F.2.2⟩

theorem deep_hit (b : Nat) (m wd : Value) (r : Addr) (s : ByteArray) (w : World) (hb : w.heap[b]? = some (node m wd (.pointer (some r)))) :
    Calls Try.prog 30 #[.pointer (some ⟨b, 0, none⟩), .agg #[.int .i64 2, .string s]] w fun e w' => e = .returned (.pointer (some r)) ∧ Below w.heap.size w w' := by
  obtain ⟨c0, c1, c2, c3, fr⟩ := node_cells hb
  have hlt := (Array.getElem?_eq_some_iff.1 hb).1
  clear hb
  go_enter Try.func30, Try.ntmps30
  go_wp2
  go_ret
  exact ⟨rfl, (Below.refl _ _).alloc (Nat.le_refl _) _⟩

theorem deep_new (b : Nat) (m wd : Value) (s : ByteArray) (w : World) (hb : w.heap[b]? = some (node m wd (.pointer none))) :
    Calls Try.prog 30 #[.pointer (some ⟨b, 0, none⟩), .agg #[.int .i64 2, .string s]] w fun e w' => ∃ r, w.heap.size ≤ r ∧ e = .returned (.pointer (some ⟨r, 0, none⟩)) ∧ w'.heap[r]? = some fresh ∧ w'.heap[b]? = some (node m wd (.pointer (some ⟨r, 0, none⟩))) ∧ w.grownBy w' (some b) := by
  obtain ⟨c0, c1, c2, c3, fr⟩ := node_cells hb
  have hlt := (Array.getElem?_eq_some_iff.1 hb).1
  have HB := hid hb
  clear hb
  go_enter Try.func30, Try.ntmps30
  go_wp2
  go_ret
  have F := fin2 w b 2 (.pointer (some ⟨w.heap.size + 1, 0, none⟩)) (.cells #[.int .i64 2, .string s] 70) fresh _ HB.out
  exact ⟨w.heap.size + 1, by omega, rfl, F.1, F.2.1, F.2.2⟩

def litF (g : List UInt8 → Option Nat) : Lit → Option Value
  | .string s => (g s).map fun r => .pointer (some ⟨r, 0, none⟩)
  | _ => none

/-- a literal that is there -/
theorem lit_hit (b mb c : Nat) (wd dp : Value) (g : List UInt8 → Option Nat) (r : Nat) (s : ByteArray) (w : World) (hb : w.heap[b]? = some (node (.map (some mb)) wd dp)) (hm : mapF w Try.prog 9 mb c (litF g)) (hs : s.size ≤ maxLen) (hg : g s.data.toList = some r) :
    Calls Try.prog 30 #[.pointer (some ⟨b, 0, none⟩), .agg #[.int .i64 0, .string s]] w fun e w' => e = .returned (.pointer (some ⟨r, 0, none⟩)) ∧ Below w.heap.size w w' := by
  obtain ⟨c0, c1, c2, c3, fr⟩ := node_cells hb
  have hlt := (Array.getElem?_eq_some_iff.1 hb).1
  have hlk : ∀ nq, (Instr.lookup 49 (.map (some mb)) (.string s) false).run Try.prog ((w.alloc (.cells #[.int .i64 0, .string s] 70)).drewN nq) = .ok (.pointer (some ⟨r, 0, none⟩)) ((w.alloc (.cells #[.int .i64 0, .string s] 70)).drewN nq) := fun nq => by
    have h1 : mapF ((w.alloc (.cells #[.int .i64 0, .string s] 70)).drewN nq) Try.prog 9 mb c (litF g) := hm.of_block (Below.heap_alloc w _ mb hm.lt)
    rw [h1.look law Try.underlying49 (zero25 _) (WideMaps.keyOf_string_mk Try.underlying9 hs)]
    simp [litF, hg]
  clear hb hm hg
  go_enter Try.func30, Try.ntmps30
  go_wp2
  go_quiet (fail)
  go_wp2
  go_ret
  exact ⟨rfl, ⟨rfl, rfl, rfl, by simp, fun k hk => Below.heap_alloc w _ k hk⟩⟩
end Go.Proofs.Qxb6600448a

import Derived.Test.Qxb6600445aPStep
import Derived.Test.Qxb6600445aRecQ
import Derived.Deep.RegionLaw
namespace Go.Proofs.Qxb6600445a
open Go.RowKit
open Go.Maps (Keyed)
set_option linter.unusedVariables false

def AddTo (G G' : Gh) (u v : Nat) : Prop :=
  (G.Es u v = true ∧ G' = G) ∨ (G.Es u v = false ∧ ∃ val, G' = { G with Es := fun a b => G.Es a b || (a == u && b == v), Sl := upn G.Sl u (G.Sl u ++ [v]), sv := upn G.sv u val, e := G.e + 1 + 1 })

set_option maxRecDepth 100000 in
set_option maxHeartbeats 4000000 in
theorem add_any (base : Nat) (w0 w : World) (G : Gh) (H : HM base w0 w G) (u v : Nat) (hu : u < G.m) (hv : v < G.m) (hm : G.m ≤ 256) (he : G.e < 500000000000) :
    Calls Try.prog 36 #[.pointer (some ⟨G.kG, 0, none⟩), .int .i64 (u : Nat), .int .i64 (v : Nat)] w fun e w' => e = .returned (.tuple #[]) ∧ ∃ G', HM base w0 w' G' ∧ AddTo G G' u v := by
  have HH := hid H
  clear H
  go_enter Try.func36, Try.ntmps36
  go_wp2
  have b0 := alloc_below w (.cells #[.int .i64 (u : Nat), .int .i64 (v : Nat)] 83)
  have H1 := hid (HH.out.below b0)
  have p1 : (w.alloc (.cells #[.int .i64 (u : Nat), .int .i64 (v : Nat)] 83)).heap[w.heap.size]? = some (.cells #[.int .i64 (u : Nat), .int .i64 (v : Nat)] 83) := heap_alloc_new _ _
  clear HH b0
  generalize w.alloc (.cells #[.int .i64 (u : Nat), .int .i64 (v : Nat)] 83) = w1 at *
  generalize w.heap.size = pb at *
  have P1 := hid p1
  have lp := getElem_lt p1
  have q0 := cell_of_row w1 pb 0 _ 83 _ p1
  have q1 := cell_of_row w1 pb 1 _ 83 _ p1
  simp at q0 q1
  obtain ⟨g0, g1⟩ := H1.out.graphCells
  have lg := (H1.out.live .graph _ rfl).2.1
  have lk1 := (H1.out.below (below_drewN w1 1)).lookEdge (u := u) (v := v) (by omega) (by omega)
  have lk2 := ((H1.out.below (below_drewN w1 1)).below (alloc_below (w1.drewN 1) (.cells #[] 84))).lookEdge (u := u) (v := v) (by omega) (by omega)
  have e1 : w1.drewN 1 = w1.drew := rfl
  rw [e1] at lk1 lk2
  have e2 : (w1.drew.alloc (.cells #[] 84)) = (w1.alloc (.cells #[] 84)).drew := rfl
  rw [e2] at lk2
  unfold arc at lk1 lk2
  clear p1
  cases hE : G.Es u v with
  | true =>
    rw [hE] at lk1 lk2
    go_region
    have HF := hid (H1.out.below (show Below w1.heap.size w1 (w1.alloc (.cells #[] 84)).drew from (alloc_below w1 _).drew))
    go_wp2
    (try simp only [Exit.inBlock, Exit.then])
    refine bodyPost_ret (results_none rfl _ _ _) rfl ?_
    exact ⟨rfl, G, HF.out, .inl ⟨hE, rfl⟩⟩
  | false =>
    rw [hE] at lk1 lk2
    go_region
    have bF : Below w1.heap.size w1 (w1.alloc (.cells #[] 84)).drew := (alloc_below w1 _).drew
    have HF := hid (H1.out.below bF)
    have PF := (bF.block pb lp).trans P1.out
    clear lk1 lk2 e1 e2 g0 g1 q0 q1 lg H1 P1 lp
    go_wp2
    generalize (w1.alloc (.cells #[] 84)).drew = w3 at *
    have q0 := cell_of_row w3 pb 0 _ 83 _ PF
    have q1 := cell_of_row w3 pb 1 _ 83 _ PF
    simp at q0 q1
    obtain ⟨g0, g1⟩ := HF.out.graphCells
    obtain ⟨w4, hup, h4⟩ := (HF.out.below (below_drewN w3 1)).putEdge (u := u) (v := v) (by omega) (by omega) (by omega)
    have hup' : (Instr.mapUpdate 55 (.map (some G.kE)) (.agg #[.int .i64 (u : Nat), .int .i64 (v : Nat)]) (.agg #[])).run Try.prog w3.drew = .ok () w4 := hup
    have H4 := hid h4
    clear hup h4 HF bF PF
    go_region
    clear hup' q0 q1 g0 g1
    obtain ⟨g0, g1⟩ := H4.out.graphCells
    obtain ⟨s0, s1⟩ := H4.out.succCell (u := u) hu
    have l0 := (H4.out.live .graph _ rfl).2.1
    have l1 := (H4.out.live .succ _ rfl).2.1
    obtain ⟨g, cap, w5, hr, x1, x2, x3, h5⟩ := (H4.out.below (below_drewN w4 1)).pushS (u := u) hu v (by show G.e + 1 < _; omega)
    have hr' : (Builtin.append_ #[42, 42] 42 #[G.sv u, .slice (some ⟨w4.heap.size, 0, none⟩) 1 1]).run Try.prog (w4.alloc (.cells #[.int .i64 (v : Nat)] 3)).drew = .ok (.slice (some ⟨g, 0, none⟩) ((G.Sl u).length + 1) cap) w5 := hr
    have H5 := hid h5
    clear hr h5 H4
    simp only at g0 g1 s0 s1 l0 l1 x1 x2 x3
    have n1 : ¬ G.kG = w4.heap.size := by have : G.kG < w4.heap.size := l0; omega
    have n2 : ¬ w4.heap.size = G.kG := by have : G.kG < w4.heap.size := l0; omega
    have n3 : ¬ G.kS = w4.heap.size := by have : G.kS < w4.heap.size := l1; omega
    have n4 : ¬ w4.heap.size = G.kS := by have : G.kS < w4.heap.size := l1; omega
    have i1 : (u : Int) < (G.m : Int) := by omega
    go_wp2
    go_region_law (refine step_append_run _ (by rfl) _ _ 42 (by rfl) _ _ _ (by rfl) (by rfl) _ hr' ?_)
    all_goals
      go_wp2
      go_end0
      exact ⟨rfl, _, H5.out, .inr ⟨hE, _, rfl⟩⟩
end Go.Proofs.Qxb6600445a

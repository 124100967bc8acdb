import Derived.Test.Qxb6600445aOps
import Derived.Test.Qxb6600445aPDom
import Derived.Test.Qxb6600445aRow
import Derived.Test.Qxb6600445aRecP
namespace Go.Proofs.Qxb6600445a
open Go.RowKit
set_option linter.unusedVariables false

def actW (b : Bool) : Int := if b then 2 else 1

set_option maxRecDepth 100000 in
set_option maxHeartbeats 1600000 in
theorem pops_any (a1 a2 a3 a4 : Option Addr) (n1 n c1 c2 c3 c4 b1 o1 b2 o2 b3 o3 b4 o4 : Nat) (tn : Nat → ByteArray) (iv : Nat → Nat) (wb : Nat → Bool) (it : Nat → ByteArray) (w : World) (hn : n ≤ 4096) (hn1 : n1 ≤ 256)
    (hs1 : StrsAt w a1 n1 b1 o1 tn) (hs2 : WordsAt w a2 n b2 o2 (fun j => (iv j : Int))) (hs3 : BoolsAt w a3 n b3 o3 wb) (hs4 : StrsAt w a4 n b4 o4 it) (hiv : ∀ j, j < n → iv j < n1) :
    Calls Try.prog 20 #[.slice a1 n1 c1, .slice a2 n c2, .slice a3 n c3, .slice a4 n c4] w fun e w' => e = .returned (.slice (some ⟨w.heap.size, 0, none⟩) n n) ∧ OpsAt w' w.heap.size n (fun j => tn (iv j)) (fun j => actW (wb j)) it ∧ w.heap.size < w'.heap.size ∧ Below w.heap.size w w' := by
  obtain ⟨i0, hi, hz0, hz1, hz2⟩ := infoParts info47
  have HS1 := hid hs1
  have HS2 := hid hs2
  have HS3 := hid hs3
  have HS4 := hid hs4
  have HV := hid hiv
  clear hs1 hs2 hs3 hs4 hiv
  go_enter Try.func20, Try.ntmps20
  go_wp2_with (at_make; refine wpList_make_full _ rfl _ _ 29 rfl w.heap.size 47 i0 (.agg #[.string ⟨#[]⟩, .int .u8 0, .string ⟨#[]⟩]) 3 Try.underlying29 hi hz0 hz1 _ _ _ _ n rfl rfl rfl rfl (by rw [hz2]; omega) (by unfold maxLen; omega) (Nat.le_refl _) ?_; intro w1 hown hgrow)
  have ST := hid (show ∃ cur, w1.heap[w.heap.size]? = some (.cells cur 47 (0, 0)) ∧ Cur3 cur n 0 (fun j => tn (iv j)) (fun j => actW (wb j)) it from by
    rcases hown.2 with ⟨e, _⟩ | ⟨g, cap, cur, e, hbb, hg, hnc, hcm, hcs, htk⟩
    · simp at e
    · simp at e
      obtain ⟨rfl, rfl⟩ := e
      exact ⟨cur, hg, hcs, fun j hj => by omega⟩)
  have BL := hid (show Below w.heap.size w w1 from (Below.refl _ _).grown hgrow (Nat.le_refl _) (fun k h => by cases h))
  clear hown hgrow hi hz0 hz1 hz2
  go_loopw [10] (fun i wr => ∃ k : Nat, k ≤ n ∧ i = .int .i64 k ∧ Below w.heap.size w wr ∧ ∃ cur, wr.heap[w.heap.size]? = some (.cells cur 47 (0, 0)) ∧ Cur3 cur n k (fun j => tn (iv j)) (fun j => actW (wb j)) it) (fun i _ => n - (intOf i).toNat)
  case atStart => exact ⟨0, Nat.zero_le _, rfl, BL.out, ST.out⟩
  case round =>
    obtain ⟨k, hk, rfl, hb, cur, hcur, h3⟩ := hrel
    clear ST BL
    by_cases hlt : k < n
    · have hv := HV.out k hlt
      have ha1 := HS1.out.1 (by omega)
      have ha2 := HS2.out.1 (by omega)
      have ha3 := HS3.out.1 (by omega)
      have ha4 := HS4.out.1 (by omega)
      subst ha1 ha2 ha3 ha4
      have i1 : (k : Int) < (n : Int) := by omega
      have i2 : (iv k : Int) < (n1 : Int) := by omega
      have d1 := HS1.out.2 (iv k) hv
      have d2 : w.cell? ⟨b2, o2 + k, none⟩ = some (.int .u16 (iv k : Int)) := HS2.out.2 k hlt
      have d3 := HS3.out.2 k hlt
      have d4 := HS4.out.2 k hlt
      have l1 := World.block_lt_of_cell? _ _ d1
      have l2 := World.block_lt_of_cell? _ _ d2
      have l3 := World.block_lt_of_cell? _ _ d3
      have l4 := World.block_lt_of_cell? _ _ d4
      simp only at l1 l2 l3 l4
      have n1 : ¬ b1 = w.heap.size := by omega
      have n2 : ¬ b2 = w.heap.size := by omega
      have n3 : ¬ b3 = w.heap.size := by omega
      have n4 : ¬ b4 = w.heap.size := by omega
      have m1 : ¬ w.heap.size = b1 := by omega
      have m2 : ¬ w.heap.size = b2 := by omega
      have m3 : ¬ w.heap.size = b3 := by omega
      have m4 : ¬ w.heap.size = b4 := by omega
      have c1' := cell_later hb d1
      have c2' := cell_later hb d2
      have c3' := cell_later hb d3
      have c4' := cell_later hb d4
      obtain ⟨v1, e1⟩ := cur3_at h3 hcur (k * 3) (by omega)
      obtain ⟨v2, e2⟩ := cur3_at h3 hcur (k * 3 + 1) (by omega)
      obtain ⟨v3, e3⟩ := cur3_at h3 hcur (k * 3 + 2) (by omega)
      have f1 : ∀ i, wr.frozen? ⟨w.heap.size, i, none⟩ = false := fun i => frozen_of_row wr _ i cur 47 hcur
      have NB := hid (((hb.setCell (p := ⟨w.heap.size, k * 3, none⟩) (Nat.le_refl _) (.string (tn (iv k)))).setCell (p := ⟨w.heap.size, k * 3 + 1, none⟩) (Nat.le_refl _) (.int .u8 (actW (wb k)))).setCell (p := ⟨w.heap.size, k * 3 + 2, none⟩) (Nat.le_refl _) (.string (it k)))
      have NC := hid (heap_setCell_same _ w.heap.size (k * 3 + 2) _ 47 (.string (it k)) (heap_setCell_same _ w.heap.size (k * 3 + 1) _ 47 (.int .u8 (actW (wb k))) (heap_setCell_same wr w.heap.size (k * 3) cur 47 (.string (tn (iv k))) hcur)))
      have NS := hid (cur3_step h3 hlt)
      clear d1 d2 d3 d4 hcur h3 hb l1 l2 l3 l4
      generalize tn (iv k) = t at *
      generalize iv k = vk at *
      generalize it k = x at *
      cases hwb : wb k with
      | true =>
        rw [hwb] at c3' NB NC NS
        clear hwb
        have ea : actW true = 2 := rfl
        rw [ea] at NB NC NS
        go_wp2
        go_region_held3 (fun w' => w'.cell? ⟨b1, o1 + vk, none⟩ = some (.string t) ∧ w'.cell? ⟨b2, o2 + k, none⟩ = some (.int .u16 (vk : Int)) ∧ w'.cell? ⟨b4, o4 + k, none⟩ = some (.string x)) (go_keep) (fail)
        go_wp2
        go_roundw
        case rel => exact ⟨k + 1, by omega, by go_num, NB.out.drew, _, NC.out, NS.out⟩
        case measure => simp [intOf]; omega
      | false =>
        rw [hwb] at c3' NB NC NS
        clear hwb
        have ea : actW false = 1 := rfl
        rw [ea] at NB NC NS
        go_wp2
        go_region_held3 (fun w' => w'.cell? ⟨b1, o1 + vk, none⟩ = some (.string t) ∧ w'.cell? ⟨b2, o2 + k, none⟩ = some (.int .u16 (vk : Int)) ∧ w'.cell? ⟨b4, o4 + k, none⟩ = some (.string x)) (go_keep) (fail)
        go_wp2
        go_roundw
        case rel => exact ⟨k + 1, by omega, by go_num, NB.out.drew, _, NC.out, NS.out⟩
        case measure => simp [intOf]; omega
    · have hkn : k = n := by omega
      have FIN := hid (show OpsAt wr w.heap.size n (fun j => tn (iv j)) (fun j => actW (wb j)) it ∧ w.heap.size < wr.heap.size from ⟨fun j hj => by
        have := h3.2 j (by omega)
        rw [cell_of_row wr _ _ cur 47 _ hcur, cell_of_row wr _ _ cur 47 _ hcur, cell_of_row wr _ _ cur 47 _ hcur]
        exact this, (Array.getElem?_eq_some_iff.1 hcur).1⟩)
      have HBB := hid hb
      clear hkn hcur h3 hb
      go_wp2
      go_ret
      exact ⟨rfl, FIN.out.1, FIN.out.2, HBB.out⟩

theorem made_s (n : Nat) : (madeCells (Value.string ByteArray.empty).cells (n * 1)).toList = List.replicate n (Value.string ByteArray.empty) := by
  rw [Nat.mul_one]; exact toList_madeCells_one _ _

theorem inf44 : (Try.prog.info? 44).map (fun i => (i.zero, i.size, i.bytes)) = some (some (.string ByteArray.empty), 1, 16) := by kernel_rfl

/-- the names in memory -/
def NamesAt (w : World) (bo n : Nat) (tn : Nat → ByteArray) : Prop := ∀ j, j < n → w.cell? ⟨bo, j, none⟩ = some (.string (tn j))

set_option maxRecDepth 100000 in
set_option maxHeartbeats 1600000 in
theorem txl_any (a : Option Addr) (n c b o : Nat) (tn : Nat → ByteArray) (w : World) (hn : n ≤ 4096) (hs : StrsAt w a n b o tn) :
    Calls Try.prog 21 #[.slice a n c] w fun e w' => e = .returned (.slice (some ⟨w.heap.size, 0, none⟩) n n) ∧ NamesAt w' w.heap.size n tn ∧ w.heap.size < w'.heap.size ∧ Below w.heap.size w w' := by
  obtain ⟨i0, hi, hz0, hz1, hz2⟩ := infoParts inf44
  have HS := hid hs
  clear hs
  go_enter Try.func21, Try.ntmps21
  go_wp2_with (at_make; refine wpList_make_full _ rfl _ _ 39 rfl w.heap.size 44 i0 (.string ByteArray.empty) 1 Try.underlying39 hi hz0 hz1 _ _ _ _ n rfl rfl rfl rfl (by rw [hz2]; omega) (by unfold maxLen; omega) (Nat.le_refl _) ?_; intro w1 hown hgrow)
  rw [made_s, ← rwZero (fun j => .string (tn j))] at hown
  have ST := hid (show OwnR w1 w.heap.size w.heap.size n 44 (row (fun j => .string (tn j)) (.string ByteArray.empty) 0 n) from hown)
  have BL := hid (show Below w.heap.size w w1 from (Below.refl _ _).grown hgrow (Nat.le_refl _) (fun k h => by cases h))
  clear hown hgrow hi hz0 hz1 hz2
  go_loopw [4] (fun i wr => ∃ k : Nat, k ≤ n ∧ i = .int .i64 k ∧ Below w.heap.size w wr ∧ OwnR wr w.heap.size w.heap.size n 44 (row (fun j => .string (tn j)) (.string ByteArray.empty) k n)) (fun i _ => n - (intOf i).toNat)
  case atStart => exact ⟨0, Nat.zero_le _, rfl, BL.out, ST.out⟩
  case round =>
    obtain ⟨k, hk, rfl, hb, hown⟩ := hrel
    have HB := hid hb
    have HW := hid hown
    clear ST BL hb hown
    by_cases hlt : k < n
    · have ha := HS.out.1 (by omega)
      subst ha
      have i1 : (k : Int) < (n : Int) := by omega
      have d1 := HS.out.2 k hlt
      have l1 := World.block_lt_of_cell? _ _ d1
      simp only at l1
      have n1 : ¬ b = w.heap.size := by omega
      have m1 : ¬ w.heap.size = b := by omega
      have c1' := cell_later HB.out d1
      have e1 := HW.out.cell hlt
      have f1 := HW.out.frozen k
      have NB := hid (HB.out.setCell (p := ⟨w.heap.size, k, none⟩) (Nat.le_refl _) (.string (tn k)))
      have NO := hid (show OwnR (wr.setCell ⟨w.heap.size, k, none⟩ (.string (tn k))) w.heap.size w.heap.size n 44 (row (fun j => .string (tn j)) (.string ByteArray.empty) (k + 1) n) from by
        have := HW.out.set k (.string (tn k))
        rw [rwSet (fun j => .string (tn j)) (fun j => .string (tn j)) _ _ k n hlt rfl (fun _ _ => rfl)] at this
        exact this)
      clear d1 l1
      generalize tn k = t at *
      go_wp2
      go_roundw
      case rel => exact ⟨k + 1, by omega, by go_num, NB.out, NO.out⟩
      case measure => simp [intOf]; omega
    · have FIN := hid (show NamesAt wr w.heap.size n tn from fun j hj => by
        have := HW.out.cell hj
        rw [if_pos (by omega)] at this
        exact this)
      have FI2 := hid (show w.heap.size < wr.heap.size from by
        obtain ⟨_, cur, h⟩ := HW.out.block
        exact (Array.getElem?_eq_some_iff.1 h).1)
      go_wp2
      go_ret
      exact ⟨rfl, FIN.out, FI2.out, HB.out⟩
end Go.Proofs.Qxb6600445a

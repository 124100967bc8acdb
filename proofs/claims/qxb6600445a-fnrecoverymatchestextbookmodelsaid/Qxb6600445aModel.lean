import Derived.Test.Qxb6600445aRow
import Derived.OwnWalk
import Derived.Deep.CutRange
import Derived.Deep.CutBlock
namespace Go.Proofs.Qxb6600445a
open Go.RowKit
set_option linter.unusedVariables false


theorem made_i (n : Nat) : (madeCells (Value.int .i64 0).cells (n * 1)).toList = List.replicate n (Value.int .i64 0) := by
  rw [Nat.mul_one]; exact toList_madeCells_one _ _
theorem made_u (n : Nat) : (madeCells (Value.int .u8 0).cells (n * 1)).toList = List.replicate n (Value.int .u8 0) := by
  rw [Nat.mul_one]; exact toList_madeCells_one _ _

theorem lastW_lt {tx : Nat → ByteArray} {act : Nat → Int} {it : Nat → ByteArray} {n i k j : Nat} (h : lastW tx act it n i k = some j) : j < k := by
  induction k with
  | zero => cases h
  | succ k ih =>
    have e : lastW tx act it n i (k + 1) = if good tx act it n i k = true then some k else lastW tx act it n i k := rfl
    rw [e] at h
    split at h
    · cases h; omega
    · have := ih h; omega

structure TwoR (w0 w : World) (B Bc n : Nat) (tx : Nat → ByteArray) (act : Nat → Int) (k : Nat) : Prop where
  o1 : OwnR w B B n 3 (row (pE tx act n) (.int .i64 0) k n)
  o2 : OwnR w B Bc n 5 (row (pA tx act n) (.int .u8 0) k n)
  bel : Below B w0 w
  lt : B < Bc
  sz : Bc < w.heap.size

/-- cell k of both rows is written -/
theorem TwoR.next {w0 w : World} {B Bc n : Nat} {tx : Nat → ByteArray} {act : Nat → Int} {k : Nat} (H : TwoR w0 w B Bc n tx act k) (hk : k < n) (m : Nat) (x : Int) (y : Int) (e : Nat) (a : Int) (he : endP tx act (tx k) n = e) (ha : endA tx act n (tx k) = a) :
    TwoR w0 ((((((w.setCell ⟨B, k, none⟩ (.int .i64 x)).setCell ⟨Bc, k, none⟩ (.int .u8 y)).drewN m).setCell ⟨B, k, none⟩ (.int .i64 (e : Nat))).setCell ⟨Bc, k, none⟩ (.int .u8 a))) B Bc n tx act (k + 1) := by
  have hne : B ≠ Bc := by have := H.lt; omega
  have hsz := H.sz
  have r1 : (row (pE tx act n) (.int .i64 0) k n).set k (.int .i64 (e : Nat)) = row (pE tx act n) (.int .i64 0) (k + 1) n := rwSet (pE tx act n) (pE tx act n) _ _ k n hk (by simp [pE, he]) (fun i _ => rfl)
  have r2 : (row (pA tx act n) (.int .u8 0) k n).set k (.int .u8 a) = row (pA tx act n) (.int .u8 0) (k + 1) n := rwSet (pA tx act n) (pA tx act n) _ _ k n hk (by simp [pA, ha]) (fun i _ => rfl)
  refine ⟨?_, ?_, ?_, H.lt, by simpa using hsz⟩
  · have a1 := ((H.o1.set k (.int .i64 x)).setOther hne k (.int .u8 y)).of_block (w' := ((w.setCell ⟨B, k, none⟩ (.int .i64 x)).setCell ⟨Bc, k, none⟩ (.int .u8 y)).drewN m) rfl
    have a2 := (a1.set k (.int .i64 (e : Nat))).setOther hne k (.int .u8 a)
    rw [List.set_set, r1] at a2
    exact a2
  · have a1 := ((H.o2.setOther (Ne.symm hne) k (.int .i64 x)).set k (.int .u8 y)).of_block (w' := ((w.setCell ⟨B, k, none⟩ (.int .i64 x)).setCell ⟨Bc, k, none⟩ (.int .u8 y)).drewN m) rfl
    have a2 := (a1.setOther (Ne.symm hne) k (.int .i64 (e : Nat))).set k (.int .u8 a)
    rw [List.set_set, r2] at a2
    exact a2
  · have h1 := (H.bel.setCell (p := ⟨B, k, none⟩) (Nat.le_refl _) (.int .i64 x)).setCell (p := ⟨Bc, k, none⟩) (Nat.le_of_lt H.lt) (.int .u8 y)
    have h2 : Below B w0 (((w.setCell ⟨B, k, none⟩ (.int .i64 x)).setCell ⟨Bc, k, none⟩ (.int .u8 y)).drewN m) := ⟨h1.os, h1.tape, h1.output, h1.size, h1.block⟩
    exact (h2.setCell (p := ⟨B, k, none⟩) (Nat.le_refl _) _).setCell (p := ⟨Bc, k, none⟩) (Nat.le_of_lt H.lt) _
theorem TwoR.next0 {w0 w : World} {B Bc n : Nat} {tx : Nat → ByteArray} {act : Nat → Int} {k : Nat} (H : TwoR w0 w B Bc n tx act k) (hk : k < n) (m : Nat) (e : Nat) (a : Int) (he : endP tx act (tx k) n = e) (ha : endA tx act n (tx k) = a) :
    TwoR w0 (((w.setCell ⟨B, k, none⟩ (.int .i64 (e : Nat))).setCell ⟨Bc, k, none⟩ (.int .u8 a)).drewN m) B Bc n tx act (k + 1) := by
  have hne : B ≠ Bc := by have := H.lt; omega
  have hsz := H.sz
  have r1 : (row (pE tx act n) (.int .i64 0) k n).set k (.int .i64 (e : Nat)) = row (pE tx act n) (.int .i64 0) (k + 1) n := rwSet (pE tx act n) (pE tx act n) _ _ k n hk (by simp [pE, he]) (fun i _ => rfl)
  have r2 : (row (pA tx act n) (.int .u8 0) k n).set k (.int .u8 a) = row (pA tx act n) (.int .u8 0) (k + 1) n := rwSet (pA tx act n) (pA tx act n) _ _ k n hk (by simp [pA, ha]) (fun i _ => rfl)
  refine ⟨?_, ?_, ?_, H.lt, by simpa using hsz⟩
  · have a2 := ((H.o1.set k (.int .i64 (e : Nat))).setOther hne k (.int .u8 a)).of_block (w' := ((w.setCell ⟨B, k, none⟩ (.int .i64 (e : Nat))).setCell ⟨Bc, k, none⟩ (.int .u8 a)).drewN m) rfl
    rw [r1] at a2
    exact a2
  · have a2 := ((H.o2.setOther (Ne.symm hne) k (.int .i64 (e : Nat))).set k (.int .u8 a)).of_block (w' := ((w.setCell ⟨B, k, none⟩ (.int .i64 (e : Nat))).setCell ⟨Bc, k, none⟩ (.int .u8 a)).drewN m) rfl
    rw [r2] at a2
    exact a2
  · have h1 := (H.bel.setCell (p := ⟨B, k, none⟩) (Nat.le_refl _) (.int .i64 (e : Nat))).setCell (p := ⟨Bc, k, none⟩) (Nat.le_of_lt H.lt) (.int .u8 a)
    exact ⟨h1.os, h1.tape, h1.output, h1.size, h1.block⟩

set_option maxRecDepth 100000 in
set_option maxHeartbeats 40000000 in
theorem model_any (a1 a2 a3 : Option Addr) (n c1 c2 c3 b1 o1 b2 o2 b3 o3 : Nat) (tx : Nat → ByteArray) (act : Nat → Int) (it : Nat → ByteArray) (w : World) (hn : n ≤ 4096) (hs1 : StrsAt w a1 n b1 o1 tx) (hs2 : BytesAt w a2 n b2 o2 act) (hs3 : StrsAt w a3 n b3 o3 it) :
    Calls Try.prog 14 #[.slice a1 n c1, .slice a2 n c2, .slice a3 n c3] w fun e w' => e = .returned (.tuple #[.bool (allTo (mR tx act it n) n), .bool (allTo (mC tx act it n) n), .bool (allTo (mS tx act it n) n)]) ∧ Below w.heap.size w w' := by
  obtain ⟨i0, hi, hz0, hz1, hz2⟩ := infoParts info3
  obtain ⟨j0, hj, hy0, hy1, hy2⟩ := infoParts info5
  have HS1 := hid hs1
  have HS2 := hid hs2
  have HS3 := hid hs3
  clear hs1 hs2 hs3
  go_enter Try.func14, Try.ntmps14
  go_wp2_with (first | (at_make; refine wpList_make_full _ rfl (.tmp 21) (.tmp 21) 42 rfl w.heap.size 3 i0 (.int .i64 0) 1 Try.underlying42 hi hz0 hz1 _ _ _ _ n rfl rfl rfl rfl (by rw [hz2]; omega) (by unfold maxLen; omega) (by omega) ?_; intro w2 own2 grow2) | (at_make; refine wpList_make_full _ rfl (.tmp 23) (.tmp 23) 23 rfl w.heap.size 5 j0 (.int .u8 0) 1 Try.underlying23 hj hy0 hy1 _ _ _ _ n rfl rfl rfl rfl (by rw [hy2]; omega) (by unfold maxLen; omega) (by have := grow2.size; omega) ?_; intro w3 own3 grow3))
  rw [made_i] at own2
  rw [made_u] at own3
  have lt2 : w.heap.size < w2.heap.size := (own2.lt w.heap.size rfl).2
  have lt3 : w2.heap.size < w3.heap.size := (own3.lt w2.heap.size rfl).2
  have START := hid (show TwoR w w3 w.heap.size w2.heap.size n tx act 0 from by
    refine ⟨?_, ?_, ?_, lt2, lt3⟩
    · show w3.ownsRow _ _ _ _ _ _
      rw [rwZero]
      exact own_of_block own2 (fun g hg => by
        simp [Value.ownBlock] at hg
        subst hg
        exact grow3.block _ lt2 (by simp))
    · show w3.ownsRow _ _ _ _ _ _
      rw [rwZero]; exact own3
    · have g : w.grownBy w3 none := grow2.trans grow3
      exact ⟨g.os, g.tape, g.output, g.size, fun k hk => g.block k hk (by simp)⟩)
  clear own2 own3 grow2 grow3 hi hz0 hz1 hz2 hj hy0 hy1 hy2 lt3
  generalize w2.heap.size = Bc at *
  clear w2
  have KE := hid (fun (a : Int) (W : World) => (isEnd_any a W).mono (R' := fun e w' => e = .returned (.bool (isEnd a)) ∧ w' = W) fun _ _ ⟨a, b⟩ => ⟨a, b.symm⟩)
  go_loopg [12] n (fun g iv wr => ∃ i, i ≤ n ∧ g = n - i ∧ iv = .int .i64 (i : Nat) ∧ TwoR w wr w.heap.size Bc n tx act i)
  case atStart => exact ⟨0, Nat.zero_le _, rfl, rfl, START.out⟩
  case round =>
    obtain ⟨i, hin, hg, rfl, hrel⟩ := hrel
    have HG := hid hg
    have HR := hid hrel
    clear hg hrel START
    by_cases hlt : i < n
    · have ha1 := HS1.out.1 (by omega)
      have ha2 := HS2.out.1 (by omega)
      subst ha1 ha2
      have i1 : (i : Int) < (n : Int) := by omega
      have p1 := HR.out.o1.cell hlt
      have p2 := HR.out.o2.cell hlt
      rw [if_neg (Nat.lt_irrefl _)] at p1 p2
      have f1 := HR.out.o1.frozen
      have f2 := HR.out.o2.frozen
      have n1 : ¬ w.heap.size = Bc := by omega
      have n2 : ¬ Bc = w.heap.size := by omega
      have d1 := HS1.out.2 i hlt
      have l1 := World.block_lt_of_cell? _ _ d1
      simp only at l1
      have hb := ((HR.out.bel.setCell (p := ⟨w.heap.size, i, none⟩) (Nat.le_refl _) (.int .i64 (n : Nat))).setCell (p := ⟨Bc, i, none⟩) (Nat.le_of_lt lt2) (.int .u8 0))
      have HB := hid hb
      have NX := hid HR.out.next
      have NX0 := hid HR.out.next0
      have e1 := cell_later hb d1
      have q1 : ((wr.setCell ⟨w.heap.size, i, none⟩ (.int .i64 (n : Nat))).setCell ⟨Bc, i, none⟩ (.int .u8 0)).cell? ⟨w.heap.size, i, none⟩ = some (.int .i64 (n : Nat)) := by
        have := (((HR.out.o1.set i (.int .i64 (n : Nat))).setOther (by omega) i (.int .u8 0)) : OwnR _ _ _ _ _ _)
        have h2 := World.ownsRow.cellAt this i (by omega)
        rw [h2, List.getElem?_set]
        simp [rwLen, hlt]
      have q2 : ((wr.setCell ⟨w.heap.size, i, none⟩ (.int .i64 (n : Nat))).setCell ⟨Bc, i, none⟩ (.int .u8 0)).cell? ⟨Bc, i, none⟩ = some (.int .u8 0) := by
        have := (((HR.out.o2.setOther (g' := w.heap.size) (by omega) i (.int .i64 (n : Nat))).set i (.int .u8 0)) : OwnR _ _ _ _ _ _)
        have h2 := World.ownsRow.cellAt this i (by omega)
        rw [h2, List.getElem?_set]
        simp [rwLen, hlt]
      have q3 := ((HR.out.o1.set i (.int .i64 (n : Nat))).setOther (g' := Bc) (by omega) i (.int .u8 0)).frozen
      have q4 := ((HR.out.o2.setOther (g' := w.heap.size) (by omega) i (.int .i64 (n : Nat))).set i (.int .u8 0)).frozen
      clear hb d1
      go_wp2
      clear p1 p2 f1 f2
      generalize hti : tx i = ti at *
      have HTI := hid hti
      clear hti
      generalize hWS : (wr.setCell ⟨w.heap.size, i, none⟩ (.int .i64 (n : Nat))).setCell ⟨Bc, i, none⟩ (.int .u8 0) = WS at *
      have HWS := hid hWS
      clear hWS
      go_loopg [13] n (fun g jv wx => ∃ j m, j ≤ n ∧ g = n - j ∧ jv = .int .i64 (j : Nat) ∧ wx = WS.drewN m ∧ ∀ j', j' < j → hit tx act ti j' = false)
      case atStart => exact ⟨0, 0, Nat.zero_le _, rfl, rfl, rfl, fun j' h => by omega⟩
      case round =>
        obtain ⟨j, m, hjn, hg2, rfl, rfl, hall⟩ := hrel
        have HG2 := hid hg2
        have HALL := hid hall
        clear hg2 hall
        by_cases hjl : j < n
        · have j1 : (j : Int) < (n : Int) := by omega
          have d1 := HS1.out.2 j hjl
          have d2 := HS2.out.2 j hjl
          have l2 := World.block_lt_of_cell? _ _ d2
          simp only at l2
          have e3 := cell_later HB.out d1
          have e4 := cell_later HB.out d2
          have n3 : ¬ b2 = w.heap.size := by omega
          have n4 : ¬ w.heap.size = b2 := by omega
          clear d1 d2
          have HHIT := hid (show hit tx act ti j = (isEnd (act j) && decide (tx j = ti)) from rfl)
          have HAJ := hid (show ∀ (h : hit tx act ti j = true), endP tx act ti n = j ∧ endA tx act n ti = act j from fun h => by
            have e := endP_found hjl h HALL.out
            exact ⟨e, by unfold endA; rw [e, if_pos hjl]⟩)
          have HST := hid (show hit tx act ti j = false → ∀ j', j' < j + 1 → hit tx act ti j' = false from fun h j' hj' => by
            by_cases e : j' = j
            · rw [e]; exact h
            · exact HALL.out j' (by omega))
          have KJ := hid (fun W => KE.out (act j) W)
          generalize hit tx act ti j = hh at *
          generalize act j = aj at *
          generalize tx j = tj at *
          generalize isEnd aj = ie at *
          by_cases hs : tj = ti
          · have q := sEq_t hs
            have HH := hid (show hh = ie from by have := HHIT.out; simp [hs] at this; exact this)
            clear hs
            cases ie with
            | true =>
              obtain ⟨x1, x2⟩ := HAJ.out HH.out
              have X1 := hid x1
              have X2 := hid x2
              clear x1 x2
              go_wp2
              go_quiet ((go_at_call 29; exact quiet_add (KJ.out _)))
              go_wp2
              go_roundg (n - (i + 1))
              case measure => have := HG.out; omega
              case rel => exact ⟨i + 1, by omega, rfl, by go_num, by rw [← HWS.out]; exact NX.out hlt _ _ _ _ _ X1.out X2.out⟩
            | false =>
              have HST2 := hid (HST.out HH.out)
              go_wp2
              go_quiet ((go_at_call 29; exact quiet_add (KJ.out _)))
              go_wp2
              go_roundg (n - (j + 1))
              case measure => have := HG2.out; omega
              case rel => exact ⟨j + 1, _, by omega, rfl, by go_num, rfl, HST2.out⟩
          · have q := sEq_f hs
            have HH := hid (show hh = false from by have := HHIT.out; simp [hs] at this; exact this)
            have HST2 := hid (HST.out HH.out)
            clear hs
            cases ie with
            | true =>
              go_wp2
              go_quiet ((go_at_call 29; exact quiet_add (KJ.out _)))
              go_wp2
              go_roundg (n - (j + 1))
              case measure => have := HG2.out; omega
              case rel => exact ⟨j + 1, _, by omega, rfl, by go_num, rfl, HST2.out⟩
            | false =>
              go_wp2
              go_quiet ((go_at_call 29; exact quiet_add (KJ.out _)))
              go_wp2
              go_roundg (n - (j + 1))
              case measure => have := HG2.out; omega
              case rel => exact ⟨j + 1, _, by omega, rfl, by go_num, rfl, HST2.out⟩
        · have e : j = n := by omega
          subst e
          have X1 := hid (endP_none HALL.out)
          go_wp2
          go_roundg (j - (i + 1))
          case measure => have := HG.out; omega
          case rel => exact ⟨i + 1, by omega, rfl, by go_num, by rw [← HWS.out]; exact NX0.out hlt m _ _ X1.out (by unfold endA; rw [X1.out, if_neg (Nat.lt_irrefl _)])⟩
    · have e : n = i := by omega
      subst e
      have HE := hid (show ∀ j, j < n → wr.cell? ⟨w.heap.size, j, none⟩ = some (.int .i64 (endP tx act (tx j) n : Nat)) from fun j hj => by
        have := HR.out.o1.cell hj
        rw [if_pos hj] at this
        exact this)
      have HA := hid (show ∀ j, j < n → wr.cell? ⟨Bc, j, none⟩ = some (.int .u8 (endA tx act n (tx j))) from fun j hj => by
        have := HR.out.o2.cell hj
        rw [if_pos hj] at this
        exact this)
      have HT1 := hid (fun j (hj : j < n) => cell_later HR.out.bel (HS1.out.2 j hj))
      have HT2 := hid (fun j (hj : j < n) => cell_later HR.out.bel (HS2.out.2 j hj))
      have HT3 := hid (fun j (hj : j < n) => cell_later HR.out.bel (HS3.out.2 j hj))
      have BEL := hid HR.out.bel
      have HL1 := hid HS1.out.1
      have HL2 := hid HS2.out.1
      have HL3 := hid HS3.out.1
      clear HR HS1 HS2 HS3 KE HG
      go_wp2
      go_loopg [6, 7, 8, 14] n (fun g rv cv sv iv wx => ∃ i m, i ≤ n ∧ g = n - i ∧ iv = .int .i64 (i : Nat) ∧ rv = .bool (allTo (mR tx act it n) i) ∧ cv = .bool (allTo (mC tx act it n) i) ∧ sv = .bool (allTo (mS tx act it n) i) ∧ wx = wr.drewN m)
      case atStart => exact ⟨0, 0, Nat.zero_le _, rfl, rfl, rfl, rfl, rfl, rfl⟩
      case round =>
        obtain ⟨i, m, hi, hg, rfl, rfl, rfl, rfl, rfl⟩ := hrel
        have HG := hid hg
        clear hg
        by_cases hlt : i < n
        · have ha1 := HL1.out (by omega)
          have ha2 := HL2.out (by omega)
          have ha3 := HL3.out (by omega)
          subst ha1 ha2 ha3
          have i1 : (i : Int) < (n : Int) := by omega
          have t1 := HT1.out i hlt
          have t2 := HT2.out i hlt
          have t3 := HT3.out i hlt
          by_cases hrw : act i = 1 ∨ act i = 2
          · have HRW := hid hrw
            have HMS := hid (show mS tx act it n i = allTo (fun j => !sBad tx act it n i j) i from by unfold mS; rw [if_pos hrw])
            go_upto_region 21 with fail
            go_cut [85] from 74 to 84 (fun s wx => s = .bool false ∧ wx = wr.drewN m)
            case first =>
              clear t1 t3
              generalize act i = ai at *
              rcases hrw with rfl | rfl
              · go_wp2
                go_meet
                exact ⟨rfl, rfl⟩
              · go_wp2
                go_meet
                exact ⟨rfl, rfl⟩
            case rest =>
              obtain ⟨rfl, rfl⟩ := hcut
              clear hrw
              go_wp2
              go_loopg [8, 15] i (fun g sv jv wx => ∃ j m', j ≤ i ∧ g = i - j ∧ jv = .int .i64 (j : Nat) ∧ sv = .bool (allTo (mS tx act it n) i && allTo (fun j => !sBad tx act it n i j) j) ∧ wx = wr.drewN m')
              case atStart => exact ⟨0, m, Nat.zero_le _, rfl, rfl, by simp [allTo], rfl⟩
              case round =>
                obtain ⟨j, m', hji, hg2, rfl, rfl, rfl⟩ := hrel
                have HG2 := hid hg2
                clear hg2
                by_cases hjl : j < i
                · as_aux_lemma =>
                    have j1 : (j : Int) < (i : Int) := by omega
                    have j2 : (j : Int) < (n : Int) := by omega
                    have u1 := HT1.out j (by omega)
                    have u2 := HT2.out j (by omega)
                    have u3 := HT3.out j (by omega)
                    have u4 := HE.out j (by omega)
                    have HST := hid (show allTo (fun j => !sBad tx act it n i j) (j + 1) = (allTo (fun j => !sBad tx act it n i j) j && !sBad tx act it n i j) from rfl)
                    have HSB := hid (show sBad tx act it n i j = (decide (act j = 2) && decide (it j = it i) && !decide (tx j = tx i) && decide (i < endP tx act (tx j) n)) from rfl)
                    generalize sBad tx act it n i j = sb at *
                    generalize allTo (fun j => !sBad tx act it n i j) j = av at *
                    generalize hav2 : allTo (fun j => !sBad tx act it n i j) (j + 1) = av2 at *
                    have HAV := hid hav2
                    clear hav2
                    generalize endP tx act (tx j) n = ep at *
                    have be : (ep : Int) = (ep : Int) := rfl
                    clear be
                    generalize act j = aj at *
                    generalize it j = ij at *
                    generalize tx j = tj at *
                    generalize act i = ai at *
                    generalize it i = ii at *
                    generalize tx i = ti at *
                    by_cases h2 : aj = 2
                    · subst h2
                      by_cases h3 : ij = ii
                      · have s3 := sEq_t h3
                        by_cases h4 : tj = ti
                        · have s4 := sEq_t h4
                          have EV := hid (show av2 = av from by rw [HST.out, HSB.out]; simp [h4])
                          clear h3 h4
                          go_wp2
                          go_quiet (fail)
                          go_wp2
                          go_roundg (i - (j + 1))
                          case measure => have := HG2.out; omega
                          case rel => exact ⟨j + 1, _, by omega, rfl, by go_num, by rw [HAV.out, EV.out], rfl⟩
                        · have s4 := sEq_f h4
                          by_cases h5 : i < ep
                          · have i5 : (i : Int) < (ep : Int) := by omega
                            have EV := hid (show av2 = false from by rw [HST.out, HSB.out]; simp [h3, h4, h5])
                            clear h3 h4
                            go_wp2
                            go_quiet (fail)
                            go_wp2
                            go_roundg (i - (j + 1))
                            case measure => have := HG2.out; omega
                            case rel => exact ⟨j + 1, _, by omega, rfl, by go_num, by rw [HAV.out, EV.out, Bool.and_false], rfl⟩
                          · have i5 : ¬ (i : Int) < (ep : Int) := by omega
                            have EV := hid (show av2 = av from by rw [HST.out, HSB.out]; simp [h5])
                            clear h3 h4
                            go_wp2
                            go_quiet (fail)
                            go_wp2
                            go_roundg (i - (j + 1))
                            case measure => have := HG2.out; omega
                            case rel => exact ⟨j + 1, _, by omega, rfl, by go_num, by rw [HAV.out, EV.out], rfl⟩
                      · have s3 := sEq_f h3
                        have EV := hid (show av2 = av from by rw [HST.out, HSB.out]; simp [h3])
                        clear h3
                        go_wp2
                        go_quiet (fail)
                        go_wp2
                        go_roundg (i - (j + 1))
                        case measure => have := HG2.out; omega
                        case rel => exact ⟨j + 1, _, by omega, rfl, by go_num, by rw [HAV.out, EV.out], rfl⟩
                    · have q2 : (aj == 2) = false := by simp; exact h2
                      have EV := hid (show av2 = av from by rw [HST.out, HSB.out]; simp [h2])
                      go_wp2
                      go_quiet (fail)
                      go_wp2
                      go_roundg (i - (j + 1))
                      case measure => have := HG2.out; omega
                      case rel => exact ⟨j + 1, _, by omega, rfl, by go_num, by rw [HAV.out, EV.out], rfl⟩
                · have e : i = j := by omega
                  subst e
                  have HSV := hid (show allTo (mS tx act it n) (i + 1) = (allTo (mS tx act it n) i && allTo (fun j => !sBad tx act it n i j) i) from by rw [← HMS.out]; rfl)
                  rw [← HSV.out]
                  clear HSV
                  by_cases h1 : act i = 1
                  · as_aux_lemma =>
                      have HR0 := hid (show mC tx act it n i = (match lastW tx act it n i i with | some w => decide (tx w = tx i) || cmt tx act n w i | none => true) from by unfold mC; rw [if_pos h1]; cases lastW tx act it n i i <;> rfl)
                      have HR1 := hid (show mR tx act it n i = (match lastW tx act it n i i with | some w => decide (tx w = tx i) || !(decide (endA tx act n (tx i) = 3) && !cmt tx act n w (endP tx act (tx i) n)) | none => true) from by unfold mR; rw [if_pos h1]; cases lastW tx act it n i i <;> rfl)
                      have t4 := HA.out i hlt
                      have t5 := HE.out i hlt
                      generalize hai : act i = ai at *
                      subst h1
                      have HAI := hid hai
                      clear hai
                      go_upto_block 8 with fail
                      go_cut [16, 17] from 133 to 169 (fun wv jv wx => wv = .int .i64 (opI (lastW tx act it n i i)) ∧ ∃ m', wx = wr.drewN m')
                      case first => as_aux_lemma =>
                        clear t4 t5 HR0 HR1
                        go_wp2_with fail
                        go_loopg [16, 17] i (fun g wv jv wx => ∃ (jj : Nat) (m' : Nat), jj ≤ i ∧ g = jj ∧ jv = .int .i64 ((jj : Int) - 1) ∧ wv = .int .i64 (-1) ∧ lastW tx act it n i i = lastW tx act it n i jj ∧ wx = wr.drewN m')
                        case atStart => exact ⟨i, m', Nat.le_refl _, rfl, by first | rfl | go_num, rfl, rfl, rfl⟩
                        case round =>
                          obtain ⟨jj, m2, hjj, hg2, rfl, rfl, hlw, rfl⟩ := hrel
                          have HG2 := hid hg2
                          have HLW := hid hlw
                          clear hg2 hlw
                          cases jj with
                          | zero =>
                            go_wp2
                            go_meet
                            exact ⟨by rw [HLW.out]; rfl, _, rfl⟩
                          | succ j =>
                            have j2 : (j : Int) < (n : Int) := by omega
                            have j3 : ((j + 1 : Nat) : Int) - 1 = (j : Int) := by omega
                            rw [j3]
                            clear j3
                            have u2 := HT2.out j (by omega)
                            have u3 := HT3.out j (by omega)
                            have u4 := HE.out j (by omega)
                            have u5 := HA.out j (by omega)
                            have HST := hid (show lastW tx act it n i (j + 1) = if good tx act it n i j = true then some j else lastW tx act it n i j from rfl)
                            have HGD := hid (show good tx act it n i j = (decide (act j = 2) && decide (it j = it i) && !(decide (endA tx act n (tx j) = 4) && decide (endP tx act (tx j) n < i))) from rfl)
                            generalize good tx act it n i j = gd at *
                            generalize endP tx act (tx j) n = ep at *
                            generalize endA tx act n (tx j) = ea at *
                            generalize act j = aj at *
                            generalize it j = ij at *
                            generalize it i = ii at *
                            by_cases h2 : aj = 2
                            · subst h2
                              by_cases h3 : ij = ii
                              · have s3 := sEq_t h3
                                by_cases h4 : ea = 4
                                · subst h4
                                  by_cases h5 : ep < i
                                  · have i5 : (ep : Int) < (i : Int) := by omega
                                    have EG := hid (show gd = false from by rw [HGD.out]; simp [h3, h5])
                                    clear h3
                                    go_wp2
                                    go_quiet (fail)
                                    go_wp2
                                    go_roundg j
                                    case measure => have := HG2.out; omega
                                    case rel => exact ⟨j, _, by omega, rfl, by first | rfl | go_num, rfl, by rw [HLW.out, HST.out, EG.out]; rfl, rfl⟩
                                  · have i5 : ¬ (ep : Int) < (i : Int) := by omega
                                    have EG := hid (show gd = true from by rw [HGD.out]; simp [h3, h5])
                                    clear h3
                                    go_wp2
                                    go_quiet (fail)
                                    go_wp2_with fail
                                    go_meet
                                    exact ⟨by rw [HLW.out, HST.out, EG.out]; rfl, _, by first | rfl | exact World.drewN_drewN _ _ _⟩
                                · have q4 : (ea == 4) = false := by simp; exact h4
                                  have EG := hid (show gd = true from by rw [HGD.out]; simp [h3, h4])
                                  clear h3
                                  go_wp2
                                  go_quiet (fail)
                                  go_wp2_with fail
                                  go_meet
                                  exact ⟨by rw [HLW.out, HST.out, EG.out]; rfl, _, by first | rfl | exact World.drewN_drewN _ _ _⟩
                              · have s3 := sEq_f h3
                                have EG := hid (show gd = false from by rw [HGD.out]; simp [h3])
                                clear h3
                                go_wp2
                                go_quiet (fail)
                                go_wp2
                                go_roundg j
                                case measure => have := HG2.out; omega
                                case rel => exact ⟨j, _, by omega, rfl, by first | rfl | go_num, rfl, by rw [HLW.out, HST.out, EG.out]; rfl, rfl⟩
                            · have q2 : (aj == 2) = false := by simp; exact h2
                              have EG := hid (show gd = false from by rw [HGD.out]; simp [h2])
                              go_wp2
                              go_quiet (fail)
                              go_wp2
                              go_roundg j
                              case measure => have := HG2.out; omega
                              case rel => exact ⟨j, _, by omega, rfl, by first | rfl | go_num, rfl, by rw [HLW.out, HST.out, EG.out]; rfl, rfl⟩
                      case rest =>
                        obtain ⟨rfl, m3, rfl⟩ := hcut
                        cases hW : lastW tx act it n i i with
                        | none =>
                          have HF := hid (show mR tx act it n i = true ∧ mC tx act it n i = true from ⟨by rw [HR1.out, hW], by rw [HR0.out, hW]⟩)
                          have hop : opI none = -1 := rfl
                          rw [hop]
                          clear hop hW t4 t5 HR0 HR1
                          go_wp2
                          go_quiet (fail)
                          go_wp2
                          go_roundg (n - (i + 1))
                          case measure => have := HG.out; omega
                          case rel =>
                            refine ⟨i + 1, _, by omega, rfl, by go_num, ?_, ?_, rfl, rfl⟩
                            · show _ = Value.bool (_ && mR tx act it n i); rw [HF.out.1]; simp
                            · show _ = Value.bool (_ && mC tx act it n i); rw [HF.out.2]; simp
                        | some w0 =>
                          have hwi := lastW_lt hW
                          have hop : opI (some w0) = (w0 : Int) := rfl
                          rw [hop]
                          have HR2 := HR0.out
                          have HR3 := HR1.out
                          rw [hW] at HR2 HR3
                          simp only at HR2 HR3
                          have HRC := hid HR2
                          have HRR := hid HR3
                          clear HR2 HR3 HR0 HR1 hop hW
                          have v1 := HT1.out w0 (by omega)
                          have v4 := HE.out w0 (by omega)
                          have v5 := HA.out w0 (by omega)
                          have z1 : (w0 : Int) < (n : Int) := by omega
                          have z2 : ¬ (w0 : Int) < 0 := by omega
                          by_cases h4 : tx w0 = tx i
                          · have HF := hid (show mR tx act it n i = true ∧ mC tx act it n i = true from ⟨by rw [HRR.out]; simp [h4], by rw [HRC.out]; simp [h4]⟩)
                            clear v4 v5 t4 t5 HRC HRR
                            generalize tx w0 = tw at *
                            generalize tx i = ti at *
                            have s4 := sEq_t h4
                            clear h4
                            go_wp2
                            go_quiet (fail)
                            go_wp2
                            go_roundg (n - (i + 1))
                            case measure => have := HG.out; omega
                            case rel =>
                              refine ⟨i + 1, _, by omega, rfl, by go_num, ?_, ?_, rfl, rfl⟩
                              · show _ = Value.bool (_ && mR tx act it n i); rw [HF.out.1]; simp
                              · show _ = Value.bool (_ && mC tx act it n i); rw [HF.out.2]; simp
                          · have s4 := sEq_f h4
                            have HC := hid (show mC tx act it n i = (decide (endA tx act n (tx w0) = 3) && decide (endP tx act (tx w0) n < i)) from by rw [HRC.out]; simp [h4, cmt])
                            have HM := hid (show mR tx act it n i = !(decide (endA tx act n (tx i) = 3) && !(decide (endA tx act n (tx w0) = 3) && decide (endP tx act (tx w0) n < endP tx act (tx i) n))) from by rw [HRR.out]; simp [h4, cmt])
                            clear h4 HRC HRR
                            generalize endA tx act n (tx w0) = ew at *
                            generalize endP tx act (tx w0) n = pw at *
                            generalize endA tx act n (tx i) = ei at *
                            generalize endP tx act (tx i) n = pi at *
                            generalize tx w0 = tw at *
                            generalize tx i = ti at *
                            by_cases hc : ew = 3
                            · subst hc
                              by_cases h6 : pw < i
                              · have i6 : (pw : Int) < (i : Int) := by omega
                                by_cases h7 : ei = 3
                                · subst h7
                                  by_cases h8 : pw < pi
                                  · as_aux_lemma =>
                                      have i8 : (pw : Int) < (pi : Int) := by omega
                                      have HF := hid (show mR tx act it n i = true ∧ mC tx act it n i = true from ⟨by rw [HM.out]; simp [h8], by rw [HC.out]; simp [h6]⟩)
                                      go_wp2
                                      go_quiet (fail)
                                      go_wp2
                                      go_quiet (fail)
                                      go_wp2
                                      go_roundg (n - (i + 1))
                                      case measure => have := HG.out; omega
                                      case rel =>
                                        refine ⟨i + 1, _, by omega, rfl, by go_num, ?_, ?_, rfl, rfl⟩
                                        · show _ = Value.bool (_ && mR tx act it n i); rw [HF.out.1]; simp
                                        · show _ = Value.bool (_ && mC tx act it n i); rw [HF.out.2]; simp
                                  · as_aux_lemma =>
                                      have i8 : ¬ (pw : Int) < (pi : Int) := by omega
                                      have HF := hid (show mR tx act it n i = false ∧ mC tx act it n i = true from ⟨by rw [HM.out]; simp [h8], by rw [HC.out]; simp [h6]⟩)
                                      go_wp2
                                      go_quiet (fail)
                                      go_wp2
                                      go_quiet (fail)
                                      go_wp2
                                      go_roundg (n - (i + 1))
                                      case measure => have := HG.out; omega
                                      case rel =>
                                        refine ⟨i + 1, _, by omega, rfl, by go_num, ?_, ?_, rfl, rfl⟩
                                        · show _ = Value.bool (_ && mR tx act it n i); rw [HF.out.1]; simp
                                        · show _ = Value.bool (_ && mC tx act it n i); rw [HF.out.2]; simp
                                · as_aux_lemma =>
                                    have q7 : (ei == 3) = false := by simp; exact h7
                                    have HF := hid (show mR tx act it n i = true ∧ mC tx act it n i = true from ⟨by rw [HM.out]; simp [h7], by rw [HC.out]; simp [h6]⟩)
                                    go_wp2
                                    go_quiet (fail)
                                    go_wp2
                                    go_quiet (fail)
                                    go_wp2
                                    go_roundg (n - (i + 1))
                                    case measure => have := HG.out; omega
                                    case rel =>
                                      refine ⟨i + 1, _, by omega, rfl, by go_num, ?_, ?_, rfl, rfl⟩
                                      · show _ = Value.bool (_ && mR tx act it n i); rw [HF.out.1]; simp
                                      · show _ = Value.bool (_ && mC tx act it n i); rw [HF.out.2]; simp
                              · have i6 : ¬ (pw : Int) < (i : Int) := by omega
                                by_cases h7 : ei = 3
                                · subst h7
                                  by_cases h8 : pw < pi
                                  · as_aux_lemma =>
                                      have i8 : (pw : Int) < (pi : Int) := by omega
                                      have HF := hid (show mR tx act it n i = true ∧ mC tx act it n i = false from ⟨by rw [HM.out]; simp [h8], by rw [HC.out]; simp [h6]⟩)
                                      go_wp2
                                      go_quiet (fail)
                                      go_wp2
                                      go_quiet (fail)
                                      go_wp2
                                      go_roundg (n - (i + 1))
                                      case measure => have := HG.out; omega
                                      case rel =>
                                        refine ⟨i + 1, _, by omega, rfl, by go_num, ?_, ?_, rfl, rfl⟩
                                        · show _ = Value.bool (_ && mR tx act it n i); rw [HF.out.1]; simp
                                        · show _ = Value.bool (_ && mC tx act it n i); rw [HF.out.2]; simp
                                  · as_aux_lemma =>
                                      have i8 : ¬ (pw : Int) < (pi : Int) := by omega
                                      have HF := hid (show mR tx act it n i = false ∧ mC tx act it n i = false from ⟨by rw [HM.out]; simp [h8], by rw [HC.out]; simp [h6]⟩)
                                      go_wp2
                                      go_quiet (fail)
                                      go_wp2
                                      go_quiet (fail)
                                      go_wp2
                                      go_roundg (n - (i + 1))
                                      case measure => have := HG.out; omega
                                      case rel =>
                                        refine ⟨i + 1, _, by omega, rfl, by go_num, ?_, ?_, rfl, rfl⟩
                                        · show _ = Value.bool (_ && mR tx act it n i); rw [HF.out.1]; simp
                                        · show _ = Value.bool (_ && mC tx act it n i); rw [HF.out.2]; simp
                                · as_aux_lemma =>
                                    have q7 : (ei == 3) = false := by simp; exact h7
                                    have HF := hid (show mR tx act it n i = true ∧ mC tx act it n i = false from ⟨by rw [HM.out]; simp [h7], by rw [HC.out]; simp [h6]⟩)
                                    go_wp2
                                    go_quiet (fail)
                                    go_wp2
                                    go_quiet (fail)
                                    go_wp2
                                    go_roundg (n - (i + 1))
                                    case measure => have := HG.out; omega
                                    case rel =>
                                      refine ⟨i + 1, _, by omega, rfl, by go_num, ?_, ?_, rfl, rfl⟩
                                      · show _ = Value.bool (_ && mR tx act it n i); rw [HF.out.1]; simp
                                      · show _ = Value.bool (_ && mC tx act it n i); rw [HF.out.2]; simp
                            · have q3 : (ew == 3) = false := by simp; exact hc
                              by_cases h6 : pw < i
                              · have i6 : (pw : Int) < (i : Int) := by omega
                                by_cases h7 : ei = 3
                                · subst h7
                                  by_cases h8 : pw < pi
                                  · as_aux_lemma =>
                                      have i8 : (pw : Int) < (pi : Int) := by omega
                                      have HF := hid (show mR tx act it n i = false ∧ mC tx act it n i = false from ⟨by rw [HM.out]; simp [hc], by rw [HC.out]; simp [hc]⟩)
                                      go_wp2
                                      go_quiet (fail)
                                      go_wp2
                                      go_quiet (fail)
                                      go_wp2
                                      go_roundg (n - (i + 1))
                                      case measure => have := HG.out; omega
                                      case rel =>
                                        refine ⟨i + 1, _, by omega, rfl, by go_num, ?_, ?_, rfl, rfl⟩
                                        · show _ = Value.bool (_ && mR tx act it n i); rw [HF.out.1]; simp
                                        · show _ = Value.bool (_ && mC tx act it n i); rw [HF.out.2]; simp
                                  · as_aux_lemma =>
                                      have i8 : ¬ (pw : Int) < (pi : Int) := by omega
                                      have HF := hid (show mR tx act it n i = false ∧ mC tx act it n i = false from ⟨by rw [HM.out]; simp [hc], by rw [HC.out]; simp [hc]⟩)
                                      go_wp2
                                      go_quiet (fail)
                                      go_wp2
                                      go_quiet (fail)
                                      go_wp2
                                      go_roundg (n - (i + 1))
                                      case measure => have := HG.out; omega
                                      case rel =>
                                        refine ⟨i + 1, _, by omega, rfl, by go_num, ?_, ?_, rfl, rfl⟩
                                        · show _ = Value.bool (_ && mR tx act it n i); rw [HF.out.1]; simp
                                        · show _ = Value.bool (_ && mC tx act it n i); rw [HF.out.2]; simp
                                · as_aux_lemma =>
                                    have q7 : (ei == 3) = false := by simp; exact h7
                                    have HF := hid (show mR tx act it n i = true ∧ mC tx act it n i = false from ⟨by rw [HM.out]; simp [h7], by rw [HC.out]; simp [hc]⟩)
                                    go_wp2
                                    go_quiet (fail)
                                    go_wp2
                                    go_quiet (fail)
                                    go_wp2
                                    go_roundg (n - (i + 1))
                                    case measure => have := HG.out; omega
                                    case rel =>
                                      refine ⟨i + 1, _, by omega, rfl, by go_num, ?_, ?_, rfl, rfl⟩
                                      · show _ = Value.bool (_ && mR tx act it n i); rw [HF.out.1]; simp
                                      · show _ = Value.bool (_ && mC tx act it n i); rw [HF.out.2]; simp
                              · have i6 : ¬ (pw : Int) < (i : Int) := by omega
                                by_cases h7 : ei = 3
                                · subst h7
                                  by_cases h8 : pw < pi
                                  · as_aux_lemma =>
                                      have i8 : (pw : Int) < (pi : Int) := by omega
                                      have HF := hid (show mR tx act it n i = false ∧ mC tx act it n i = false from ⟨by rw [HM.out]; simp [hc], by rw [HC.out]; simp [hc]⟩)
                                      go_wp2
                                      go_quiet (fail)
                                      go_wp2
                                      go_quiet (fail)
                                      go_wp2
                                      go_roundg (n - (i + 1))
                                      case measure => have := HG.out; omega
                                      case rel =>
                                        refine ⟨i + 1, _, by omega, rfl, by go_num, ?_, ?_, rfl, rfl⟩
                                        · show _ = Value.bool (_ && mR tx act it n i); rw [HF.out.1]; simp
                                        · show _ = Value.bool (_ && mC tx act it n i); rw [HF.out.2]; simp
                                  · as_aux_lemma =>
                                      have i8 : ¬ (pw : Int) < (pi : Int) := by omega
                                      have HF := hid (show mR tx act it n i = false ∧ mC tx act it n i = false from ⟨by rw [HM.out]; simp [hc], by rw [HC.out]; simp [hc]⟩)
                                      go_wp2
                                      go_quiet (fail)
                                      go_wp2
                                      go_quiet (fail)
                                      go_wp2
                                      go_roundg (n - (i + 1))
                                      case measure => have := HG.out; omega
                                      case rel =>
                                        refine ⟨i + 1, _, by omega, rfl, by go_num, ?_, ?_, rfl, rfl⟩
                                        · show _ = Value.bool (_ && mR tx act it n i); rw [HF.out.1]; simp
                                        · show _ = Value.bool (_ && mC tx act it n i); rw [HF.out.2]; simp
                                · as_aux_lemma =>
                                    have q7 : (ei == 3) = false := by simp; exact h7
                                    have HF := hid (show mR tx act it n i = true ∧ mC tx act it n i = false from ⟨by rw [HM.out]; simp [h7], by rw [HC.out]; simp [hc]⟩)
                                    go_wp2
                                    go_quiet (fail)
                                    go_wp2
                                    go_quiet (fail)
                                    go_wp2
                                    go_roundg (n - (i + 1))
                                    case measure => have := HG.out; omega
                                    case rel =>
                                      refine ⟨i + 1, _, by omega, rfl, by go_num, ?_, ?_, rfl, rfl⟩
                                      · show _ = Value.bool (_ && mR tx act it n i); rw [HF.out.1]; simp
                                      · show _ = Value.bool (_ && mC tx act it n i); rw [HF.out.2]; simp
                  · have HF := hid (show mR tx act it n i = true ∧ mC tx act it n i = true from by
                      refine ⟨?_, ?_⟩
                      · unfold mR; rw [if_neg h1]
                      · unfold mC; rw [if_neg h1])
                    have h2 : act i = 2 := by have := HRW.out; omega
                    generalize act i = ai at *
                    subst h2
                    clear h1 t1 t3
                    go_wp2
                    go_roundg (n - (i + 1))
                    case measure => have := HG.out; omega
                    case rel =>
                      refine ⟨i + 1, _, by omega, rfl, by go_num, ?_, ?_, rfl, rfl⟩
                      · show _ = Value.bool (_ && mR tx act it n i); rw [HF.out.1, Bool.and_true]
                      · show _ = Value.bool (_ && mC tx act it n i); rw [HF.out.2, Bool.and_true]
          · have HF := hid (show mR tx act it n i = true ∧ mC tx act it n i = true ∧ mS tx act it n i = true from by
              refine ⟨?_, ?_, ?_⟩
              · unfold mR; rw [if_neg (fun h => hrw (.inl h))]
              · unfold mC; rw [if_neg (fun h => hrw (.inl h))]
              · unfold mS; rw [if_neg hrw])
            have q1 : (act i == 1) = false := by simp; exact fun h => hrw (.inl h)
            have q2 : (act i == 2) = false := by simp; exact fun h => hrw (.inr h)
            have q3 : ¬ act i = 1 := fun h => hrw (.inl h)
            have q4 : ¬ act i = 2 := fun h => hrw (.inr h)
            have q5 : (act i != 1) = true := by simp; exact q3
            have q6 : (act i != 2) = true := by simp; exact q4
            generalize act i = ai at *
            clear hrw t1 t3
            go_wp2
            go_roundg (n - (i + 1))
            case measure => have := HG.out; omega
            case rel =>
              refine ⟨i + 1, m, by omega, rfl, by go_num, ?_, ?_, ?_, rfl⟩
              · show _ = Value.bool (_ && mR tx act it n i); rw [HF.out.1, Bool.and_true]
              · show _ = Value.bool (_ && mC tx act it n i); rw [HF.out.2.1, Bool.and_true]
              · show _ = Value.bool (_ && mS tx act it n i); rw [HF.out.2.2, Bool.and_true]
        · have e : n = i := by omega
          subst e
          go_wp2
          go_ret3
          exact ⟨rfl, BEL.out.os, BEL.out.tape, BEL.out.output, BEL.out.size, BEL.out.block⟩
end Go.Proofs.Qxb6600445a

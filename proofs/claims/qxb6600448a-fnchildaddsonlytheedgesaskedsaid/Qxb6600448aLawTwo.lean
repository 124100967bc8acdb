import Derived.Test.Qxb6600448aLawOne
import Derived.Test.Qxb6600448aShape
import Derived.Deep.DeepCutAuto
import Derived.Deep.LoopGhost
namespace Go.Proofs.Qxb6600448a
open Go.RowKit
set_option linter.unusedVariables false

set_option maxRecDepth 100000 in
set_option maxHeartbeats 3000000 in
theorem law_two (a : Option Addr) (b off n c : Nat) (st : Nat → St) (w : World) (hn : n ≤ 9223372036854775807) (ht : ∀ j, (st j).text.size ≤ maxLen) (hs : Steps w a n c b off st) :
    Calls Try.prog 4 #[.slice a n c] w fun e w' => e = .returned (.bool true) ∧ Below w.heap.size w w' := by
  have HS := hid hs
  have HT := hid ht
  clear hs ht
  have HT2 := hid (show ∀ j, (st j).text.size ≤ 9223372036854775807 from fun j => by have := HT.out j; unfold maxLen at this; omega)
  go_enter Try.func4, Try.ntmps4
  go_wp2_with fail
  refine (zz11 a b off n c st w hn HS.out.2.1 HT2.out (fun j hj => (HS.out.2.2 j hj).2.2)).mono ?_
  rintro e w' ⟨hr, rfl⟩
  rcases hr with ⟨rfl, hn1, ht1⟩ | ⟨rfl, _⟩
  · have HT1 := hid ht1
    clear ht1
    go_wp2_with fail
    refine (zz8 a b off n c st w hn1 HS.out.2.1 HT1.out (fun j hj => (HS.out.2.2 j hj).2.2)).mono ?_
    rintro e w' ⟨hr, rfl⟩
    rcases hr with ⟨rfl, _⟩ | ⟨rfl, hn2⟩
    · go_wp2
      go_ret
      exact ⟨rfl, Below.refl _ _⟩
    · go_wp2_with fail
      refine (cloneS a b off n c st w hn2 HS.out).mono ?_
      rintro e wA ⟨a', c', bs, rfl, hA1, hA2, hA3, hbA⟩
      have HA1 := hid hA1
      have HA2 := hid hA2
      have HA3 := hid hA3
      have HBA := hid hbA
      clear hA1 hA2 hA3 hbA
      go_wp2_with fail
      refine (script_go a' n c' bs st wA hn2 HA1.out HA2.out HA3.out HT.out).mono ?_
      rintro e wS ⟨Bc, Bp, nd, cn, cp, N, ch, cnt, rfl, hR⟩
      have HR := hid hR
      have HBS := hid (show Below w.heap.size w wS from HBA.out.trans (hR.bel.mono HBA.out.size))
      clear hR
      go_wp2
      have CN := hid (show ∀ j, j < n → wS.cell? ⟨wA.heap.size + 1, j, none⟩ = some (.pointer (some ⟨nd j, 0, none⟩)) from fun j hj => by
        have := HR.out.rn.cell hj
        rw [if_pos hj] at this
        exact this)
      have CC := hid (show ∀ j, j < n → wS.cell? ⟨Bc, j, none⟩ = some (.int .i64 (cn j : Int)) from fun j hj => by
        have := HR.out.rc.cell hj
        rw [if_pos hj] at this
        exact this)
      have CP := hid (show ∀ j, j < n → wS.cell? ⟨Bp, j, none⟩ = some (.int .i64 (opI (cp j))) from fun j hj => by
        have := HR.out.rp.cell hj
        rw [if_pos hj] at this
        exact this)
      have CK := hid (show ∀ j, j < n → wS.cell? ⟨bs, j * 3 + 1, none⟩ = some (.int .i64 (st j).kind) from fun j hj => (cell_later HR.out.bel (HA3.out j hj).2.1))
      have INV := hid HR.out.inv
      have TR := hid HR.out.tree
      clear HR HA2 HA3 HBA HT HT1 HT2 HS
      generalize wA.heap.size + 1 = Bn at *
      go_loopg [7] (n + 1) (fun g iv wr => ∃ (cv : Int) (m : Nat), -1 ≤ cv ∧ cv ≤ (n : Int) ∧ g = ((n : Int) - cv).toNat ∧ iv = .int .i64 cv ∧ wr = wS.drewN m)
      case atStart => exact ⟨-1, 0, by omega, by omega, by omega, rfl, rfl⟩
      case round =>
        obtain ⟨cv, m, hcv0, hcv1, hgk, rfl, rfl⟩ := hrel
        have HG := hid hgk
        clear hgk
        by_cases hlt : cv < (n : Int)
        · by_cases hcan : 0 ≤ cv ∧ cn cv.toNat ≠ cv.toNat
          · -- no first step: passed over
            obtain ⟨i, rfl⟩ := Int.eq_ofNat_of_zero_le hcan.1
            have hin : i < n := by omega
            have c1 := CC.out i hin
            have q : ((cn i : Int) != (i : Int)) = true := by
              have := hcan.2
              rw [Int.toNat_natCast] at this
              simp; omega
            clear hcan
            go_wp2
            go_roundg (n - (i + 1))
            case measure => have := HG.out; omega
            case rel => exact ⟨(i : Int) + 1, m, by omega, by omega, by omega, rfl, rfl⟩
          · -- the root, or a first step
            obtain ⟨cO, hcO, hcan2, hnode⟩ : ∃ cO, opI cO = cv ∧ canonC cn n cO ∧ (0 ≤ cv → cO = some cv.toNat) := by
              by_cases h0 : 0 ≤ cv
              · refine ⟨some cv.toNat, by simp [opI]; omega, fun i hi => ?_, fun _ => rfl⟩
                cases hi
                exact ⟨by omega, Classical.byContradiction fun h => hcan ⟨h0, h⟩⟩
              · exact ⟨none, by simp [opI]; omega, fun i hi => (by cases hi), fun h => absurd h h0⟩
            have HC := hid hcan2
            have HN := hid hnode
            have HO := hid hcO
            have c1 : 0 ≤ cv → wS.cell? ⟨Bc, cv.toNat, none⟩ = some (.int .i64 cv) := fun h => by
              have := CC.out cv.toNat (by omega)
              have e : cn cv.toNat = cv.toNat := Classical.byContradiction fun h' => hcan ⟨h, h'⟩
              rw [this, e, Int.toNat_of_nonneg h]
            have HC1 := hid c1
            clear hcan hcan2 hnode hcO c1
            go_upto_region 10 with fail
            go_cut [47] from 32 to 110 (fun bv wx => bv = .bool false ∧ wx = wS.drewN m)
            case first =>
              by_cases h0 : 0 ≤ cv
              · have c1 := HC1.out h0
                go_wp2
                go_meet
                exact ⟨rfl, rfl⟩
              · go_wp2
                go_meet
                exact ⟨rfl, rfl⟩
            case rest =>
              obtain ⟨rfl, rfl⟩ := hcut
              go_wp2
              go_loopg [8, 9, 10, 11] n (fun g lv wv dv iv wr => ∃ i, i ≤ n ∧ g = n - i ∧ iv = .int .i64 (i : Nat) ∧ lv = .int .i64 (lits (fun i => keyS (st i)) cn cp cO i : Nat) ∧ wv = .bool (anyK (fun i => kd (st i).kind) cn cp cO 1 i) ∧ dv = .bool (anyK (fun i => kd (st i).kind) cn cp cO 2 i) ∧ wr = wS.drewN m)
              case atStart => exact ⟨0, Nat.zero_le _, rfl, rfl, rfl, rfl, rfl, rfl⟩
              case round =>
                obtain ⟨i, hin, hg2, rfl, rfl, rfl, rfl, rfl⟩ := hrel
                have HG2 := hid hg2
                clear hg2
                have hll := lits_le (fun i => keyS (st i)) cn cp cO i
                by_cases hil : i < n
                · have ha := HA1.out (by omega)
                  subst ha
                  have i1 : (i : Int) < (n : Int) := by omega
                  have d1 := CC.out i hil
                  have d2 := CP.out i hil
                  have d3 := CK.out i hil
                  have L1 := hid (lits_succ (fun i => keyS (st i)) cn cp cO i)
                  have L2 := hid (anyK_succ (fun i => kd (st i).kind) cn cp cO 1 i)
                  have L3 := hid (anyK_succ (fun i => kd (st i).kind) cn cp cO 2 i)
                  have KD := hid (kd_any (st i).kind)
                  have hk1 : (keyS (st i)).1 = kd (st i).kind := rfl
                  rw [hk1] at L1
                  have kdc := kd_cases (st i).kind
                  generalize lits (fun i => keyS (st i)) cn cp cO i = Lv at *
                  generalize anyK (fun i => kd (st i).kind) cn cp cO 1 i = Wv at *
                  generalize anyK (fun i => kd (st i).kind) cn cp cO 2 i = Dv at *
                  generalize kd (st i).kind = κ at *
                  generalize (st i).kind = kk at *
                  clear hk1
                  by_cases hci : cn i = i
                  · have q1 : ((cn i : Int) != (i : Int)) = false := by simp; omega
                    by_cases hpi : cp i = cO
                    · have q2 : (opI (cp i) != cv) = false := by rw [hpi, HO.out]; simp
                      generalize opI (cp i) = pv at *
                      rcases kdc with hκ | hκ | hκ
                      · rw [if_pos ⟨hci, hpi, hκ⟩] at L1
                        rw [decide_eq_false (by omega), Bool.or_false] at L2 L3
                        subst hκ
                        clear hci hpi
                        go_wp2_with (go_at_call 12; refine (KD.out _).mono ?_; rintro e w' ⟨rfl, rfl⟩)
                        go_roundg (n - (i + 1))
                        case measure => have := HG2.out; omega
                        case rel => exact ⟨i + 1, by omega, rfl, by go_num, by rw [L1.out]; go_num, by rw [L2.out], by rw [L3.out], rfl⟩
                      · rw [if_neg (by omega)] at L1
                        rw [decide_eq_true ⟨hci, hpi, hκ⟩, Bool.or_true] at L2
                        rw [decide_eq_false (by omega), Bool.or_false] at L3
                        subst hκ
                        clear hci hpi
                        go_wp2_with (go_at_call 12; refine (KD.out _).mono ?_; rintro e w' ⟨rfl, rfl⟩)
                        go_roundg (n - (i + 1))
                        case measure => have := HG2.out; omega
                        case rel => exact ⟨i + 1, by omega, rfl, by go_num, by rw [L1.out]; go_num, by rw [L2.out], by rw [L3.out], rfl⟩
                      · rw [if_neg (by omega)] at L1
                        rw [decide_eq_false (by omega), Bool.or_false] at L2
                        rw [decide_eq_true ⟨hci, hpi, hκ⟩, Bool.or_true] at L3
                        subst hκ
                        clear hci hpi
                        go_wp2_with (go_at_call 12; refine (KD.out _).mono ?_; rintro e w' ⟨rfl, rfl⟩)
                        go_roundg (n - (i + 1))
                        case measure => have := HG2.out; omega
                        case rel => exact ⟨i + 1, by omega, rfl, by go_num, by rw [L1.out]; go_num, by rw [L2.out], by rw [L3.out], rfl⟩
                    · have q2 : (opI (cp i) != cv) = true := by
                        rw [← HO.out, bne_iff_ne]
                        exact fun h => hpi ((opI_inj _ _).1 h)
                      rw [if_neg (fun h => hpi h.2.1)] at L1
                      rw [decide_eq_false (fun h => hpi h.2.1), Bool.or_false] at L2 L3
                      generalize opI (cp i) = pv at *
                      clear hci hpi
                      go_wp2
                      go_roundg (n - (i + 1))
                      case measure => have := HG2.out; omega
                      case rel => exact ⟨i + 1, by omega, rfl, by go_num, by rw [L1.out]; go_num, by rw [L2.out], by rw [L3.out], rfl⟩
                  · have q1 : ((cn i : Int) != (i : Int)) = true := by simp; omega
                    rw [if_neg (fun h => hci h.1)] at L1
                    rw [decide_eq_false (fun h => hci h.1), Bool.or_false] at L2 L3
                    generalize opI (cp i) = pv at *
                    clear hci
                    go_wp2
                    go_roundg (n - (i + 1))
                    case measure => have := HG2.out; omega
                    case rel => exact ⟨i + 1, by omega, rfl, by go_num, by rw [L1.out]; go_num, by rw [L2.out], by rw [L3.out], rfl⟩
                · have hni : i = n := by omega
                  subst hni
                  have hNN := node_in INV.out HC.out
                  have SH := hid (fun m0 => shape_any _ wS _ N ch cnt TR.out hNN.1 m0)
                  rw [INV.out.count cO HC.out, edge_any INV.out HC.out 1 (by decide), edge_any INV.out HC.out 2 (by decide)] at SH
                  generalize lits (fun i => keyS (st i)) cn cp cO i = Lv at *
                  generalize anyK (fun i => kd (st i).kind) cn cp cO 1 i = Wv at *
                  generalize anyK (fun i => kd (st i).kind) cn cp cO 2 i = Dv at *
                  clear hNN
                  by_cases h0 : 0 ≤ cv
                  · have hcO := HN.out h0
                    subst hcO
                    obtain ⟨q, rfl⟩ := Int.eq_ofNat_of_zero_le h0
                    have c2 := CN.out q (by omega)
                    rw [Int.toNat_natCast] at SH
                    have iq : (q : Int) < (i : Int) := hlt
                    go_wp2_with (go_at_call 13; refine (SH.out _).mono ?_; rintro e w' ⟨rfl, m', rfl⟩)
                    go_roundg (i - (q + 1))
                    case measure => have := HG.out; omega
                    case rel => exact ⟨(q : Int) + 1, m', by omega, by omega, by omega, rfl, rfl⟩
                  · have hc1 : cv = -1 := by omega
                    have hcO : cO = none := by
                      cases cO with
                      | none => rfl
                      | some z => have := HO.out; simp [opI] at this; omega
                    subst hcO
                    subst hc1
                    go_wp2_with (go_at_call 13; refine (SH.out _).mono ?_; rintro e w' ⟨rfl, m', rfl⟩)
                    go_roundg i
                    case measure => have := HG.out; omega
                    case rel => exact ⟨0, m', by omega, by omega, by omega, rfl, rfl⟩
        · go_wp2
          go_ret
          exact ⟨rfl, below_drewN HBS.out _⟩
  · go_wp2
    go_ret
    exact ⟨rfl, Below.refl _ _⟩
end Go.Proofs.Qxb6600448a

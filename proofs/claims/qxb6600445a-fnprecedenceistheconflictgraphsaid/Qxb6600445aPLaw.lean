import Derived.Test.Qxb6600445aPrec
import Derived.Test.Qxb6600445aPCnt
import Derived.Test.Qxb6600445aPOps
namespace Go.Proofs.Qxb6600445a
open Go.RowKit
set_option linter.unusedVariables false

theorem StrsAt.lat {w w' : World} {a : Option Addr} {n b off : Nat} {f : Nat → ByteArray} (h : StrsAt w a n b off f) (hb : Below w.heap.size w w') : StrsAt w' a n b off f :=
  ⟨h.1, fun j hj => cell_later hb (h.2 j hj)⟩
theorem WordsAt.lat {w w' : World} {a : Option Addr} {n b off : Nat} {f : Nat → Int} (h : WordsAt w a n b off f) (hb : Below w.heap.size w w') : WordsAt w' a n b off f :=
  ⟨h.1, fun j hj => cell_later hb (h.2 j hj)⟩
theorem BoolsAt.lat {w w' : World} {a : Option Addr} {n b off : Nat} {f : Nat → Bool} (h : BoolsAt w a n b off f) (hb : Below w.heap.size w w') : BoolsAt w' a n b off f :=
  ⟨h.1, fun j hj => cell_later hb (h.2 j hj)⟩

theorem zzps_any (n m bo bt : Nat) (tn : Nat → ByteArray) (iv : Nat → Nat) (wb : Nat → Bool) (it : Nat → ByteArray) (w : World) (hn : n ≤ 4096) (hm : m ≤ 256) (hbo : bo < w.heap.size) (hbt : bt < w.heap.size)
    (hO : OpsAt w bo n (fun j => tn (iv j)) (fun j => actW (wb j)) it) (hN : NamesAt w bt m tn) (hiv : ∀ j, j < n → iv j < m) (hd : ∀ i j, j < i → i < m → tn i ≠ tn j) (ht : ∀ j, (tn j).size ≤ maxLen) (hi : ∀ j, (it j).size ≤ maxLen) :
    Calls Try.prog 19 #[.slice (some ⟨bo, 0, none⟩) n n, .slice (some ⟨bt, 0, none⟩) m m] w fun e w' => ∃ G, e = .returned (.slice (some ⟨G.kS, 0, none⟩) m m) ∧ HM w.heap.size w w' G ∧ G.m = m ∧ Sm (mAs iv it n) (mWs iv wb it n) (conf iv wb it n) G := by
  have KR := hid (prec_any n m bo bt tn iv wb it w hn hm hbo hbt hO hN hiv hd ht hi)
  clear hO hN hiv hd ht hi
  go_enter Try.func19, Try.ntmps19
  go_wp2_with fail
  refine KR.out.mono ?_
  rintro e w' ⟨G, rfl, hH, hm', hS⟩
  have HH := hid hH
  have HS := hid hS
  obtain ⟨g0, g1⟩ := hH.graphCells
  rw [hm'] at g0
  clear hH hS
  go_wp2
  go_ret
  exact ⟨G, rfl, HH.out, hm', HS.out⟩

theorem inf4 : (Try.prog.info? 4).map (fun i => (i.zero, i.size, i.bytes)) = some (some (.bool false), 1, 1) := by kernel_rfl

/-- the table of wanted edges -/
structure TB (kw N : Nat) (w0 w : World) (f : Nat → Bool) : Prop where
  row : w.heap[kw]? = some (.cells (rowA N (fun c => .bool (f c))) 4 (0, 0))
  bel : Below kw w0 w

theorem made_b {w : World} {base kw N : Nat} (hown : w.ownsRow base 4 1 (.slice (some ⟨kw, 0, none⟩) N N) N (madeCells (Value.bool false).cells (N * 1)).toList) : w.heap[kw]? = some (.cells (rowA N (fun _ => .bool false)) 4 (0, 0)) := by
  rcases hown.2 with ⟨e, _⟩ | ⟨g, cap, cur, e, hbb, hg, hnc, hcm, hcs, htk⟩
  · simp at e
  · simp at e
    obtain ⟨rfl, rfl⟩ := e
    rw [hg]
    have e1 : (madeCells (Value.bool false).cells (N * 1)).toList = List.replicate N (Value.bool false) := by
      rw [Nat.mul_one]; exact toList_madeCells_one _ _
    rw [e1] at htk
    have e2 : cur = rowA N (fun _ => .bool false) := by
      apply Array.ext'
      have : cur.toList.take (N * 1) = cur.toList := by
        apply List.take_of_length_le
        simp at hcs ⊢
        omega
      rw [this] at htk
      rw [htk]
      simp [rowA]
      rw [List.map_const', List.length_range]
    rw [e2]

section
variable {kw N : Nat} {w0 w : World} {f : Nat → Bool}
theorem TB.drawn (H : TB kw N w0 w f) (q : Nat) : TB kw N w0 (w.drewN q) f := ⟨H.row, ⟨H.bel.os, H.bel.tape, H.bel.output, H.bel.size, H.bel.block⟩⟩
theorem TB.cell (H : TB kw N w0 w f) {c : Nat} (hc : c < N) (q : Nat) : (w.drewN q).cell? ⟨kw, c, none⟩ = some (.bool (f c)) := by
  rw [cell_of_row (w.drewN q) kw c _ 4 _ H.row]
  exact rowA_at hc
theorem TB.frozen (H : TB kw N w0 w f) (c q : Nat) : (w.drewN q).frozen? ⟨kw, c, none⟩ = false := frozen_of_row (w.drewN q) kw c _ 4 H.row
theorem TB.set (H : TB kw N w0 w f) (c q : Nat) (v : Bool) : TB kw N w0 ((w.drewN q).setCell ⟨kw, c, none⟩ (.bool v)) (upn f c v) := by
  have h := heap_setCell_same (w.drewN q) kw c _ 4 (.bool v) H.row
  rw [rowA_set] at h
  have e : (fun i => if i = c then Value.bool v else .bool (f i)) = fun i => .bool (upn f c v i) := by
    funext i
    unfold upn
    split <;> rfl
  rw [e] at h
  exact ⟨h, (H.drawn q).bel.setCell (p := ⟨kw, c, none⟩) (Nat.le_refl _) _⟩
end

set_option maxRecDepth 100000 in
set_option maxHeartbeats 40000000 in
theorem law_prec (a1 a2 a3 a4 : Option Addr) (n1 n2 n3 n4 c1 c2 c3 c4 b1 o1 b2 o2 b3 o3 b4 o4 : Nat) (tn : Nat → ByteArray) (ix : Nat → Int) (wb : Nat → Bool) (it : Nat → ByteArray) (w : World) (h1 : n1 ≤ 9223372036854775807) (h2 : n2 ≤ 9223372036854775807) (h3 : n3 ≤ 9223372036854775807) (h4 : n4 ≤ 9223372036854775807)
    (hs1 : StrsAt w a1 n1 b1 o1 tn) (hs2 : WordsAt w a2 n2 b2 o2 ix) (hs3 : BoolsAt w a3 n3 b3 o3 wb) (hs4 : StrsAt w a4 n4 b4 o4 it) (hix : ∀ j, 0 ≤ ix j ∧ ix j ≤ 65535) (ht : ∀ j, (tn j).size ≤ maxLen) (hi : ∀ j, (it j).size ≤ maxLen) :
    Calls Try.prog 6 #[.slice a1 n1 c1, .slice a2 n2 c2, .slice a3 n3 c3, .slice a4 n4 c4] w fun e w' => e = .returned (.bool true) ∧ Below w.heap.size w w' := by
  obtain ⟨iv, hiv⟩ : ∃ iv : Nat → Nat, ix = fun j => (iv j : Int) := ⟨fun j => (ix j).toNat, by funext j; exact (Int.toNat_of_nonneg (hix j).1).symm⟩
  subst hiv
  obtain ⟨i0, hi0, hz0, hz1, hz2⟩ := infoParts inf4
  have HS1 := hid hs1
  have HS2 := hid hs2
  have HS3 := hid hs3
  have HS4 := hid hs4
  have HT := hid ht
  have HI := hid hi
  have HX := hid hix
  clear hs1 hs2 hs3 hs4 ht hi hix
  have KZ := hid (zz17 a1 a2 a3 a4 n1 n2 n3 n4 c1 c2 c3 c4 b1 o1 b4 o4 tn it w h1 h2 h3 h4 HS1.out HS4.out (fun j => by have := HT.out j; unfold maxLen at this; omega) (fun j => by have := HI.out j; unfold maxLen at this; omega))
  go_enter Try.func6, Try.ntmps6
  go_wp2_with fail
  refine KZ.out.mono ?_
  rintro e w' ⟨hr, rfl⟩
  clear KZ
  rcases hr with ⟨rfl, hsm⟩ | ⟨rfl, _⟩
  rotate_left
  · go_wp2
    go_ret
    exact ⟨rfl, Below.refl _ _⟩
  obtain ⟨sm1, sm4⟩ := hsm
  have SM1 := hid sm1
  have SM4 := hid sm4
  clear sm1 sm4
  by_cases g1 : n1 ≤ 256
  rotate_left
  · go_wp2
    go_ret
    exact ⟨rfl, Below.refl _ _⟩
  by_cases g2 : n2 ≤ 4096
  rotate_left
  · go_wp2
    go_ret
    exact ⟨rfl, Below.refl _ _⟩
  by_cases g3 : n3 ≤ 4096
  rotate_left
  · go_wp2
    go_ret
    exact ⟨rfl, Below.refl _ _⟩
  by_cases g4 : n4 ≤ 4096
  rotate_left
  · go_wp2
    go_ret
    exact ⟨rfl, Below.refl _ _⟩
  have KD := hid (dom_any a1 a2 a3 a4 n1 n2 n3 n4 c1 c2 c3 c4 b1 o1 b2 o2 b4 o4 tn (fun j => (iv j : Int)) it w g1 g2 g3 g4 HS1.out HS2.out HS4.out HX.out SM1.out SM4.out)
  go_wp2_with fail
  refine KD.out.mono ?_
  rintro e w' ⟨hr, md, rfl⟩
  clear KD
  have BM := hid (below_drewN w md)
  rcases hr with ⟨rfl, e1, e2, hdom, hdist⟩ | ⟨rfl, _⟩
  rotate_left
  · go_wp2
    go_ret
    exact ⟨rfl, BM.out⟩
  subst e2
  subst e1
  have HV := hid (show ∀ j, j < n4 → iv j < n1 from fun j hj => by have : (iv j : Int) < (n1 : Int) := hdom j hj; omega)
  have HD := hid hdist
  clear hdom hdist SM1 SM4 HX
  have KO := hid (pops_any a1 a2 a3 a4 n1 n4 c1 c2 c3 c4 b1 o1 b2 o2 b3 o3 b4 o4 tn iv wb it (w.drewN md) g4 g1 (HS1.out.lat BM.out) (HS2.out.lat BM.out) (HS3.out.lat BM.out) (HS4.out.lat BM.out) HV.out)
  go_wp2_with fail
  refine KO.out.mono ?_
  rintro e wA ⟨rfl, hA1, hA2, hA3⟩
  have BA := hid (show Below w.heap.size w wA from BM.out.trans hA3)
  have KT := hid (txl_any a1 n1 c1 b1 o1 tn wA (by omega) (HS1.out.lat BA.out))
  go_wp2_with fail
  refine KT.out.mono ?_
  rintro e wB ⟨rfl, hB1, hB2, hB3⟩
  have BB := hid (show Below w.heap.size w wB from BA.out.trans (hB3.mono BA.out.size))
  have KS := hid (zzps_any n4 n1 w.heap.size wA.heap.size tn iv wb it wB g4 g1 (by have : w.heap.size < wA.heap.size := hA2; omega) hB2 (fun j hj => ⟨cell_later hB3 (hA1 j hj).1, cell_later hB3 (hA1 j hj).2.1, cell_later hB3 (hA1 j hj).2.2⟩) hB1 HV.out HD.out HT.out HI.out)
  clear hA1 hB1 hA2 hA3 KO KT
  go_wp2_with fail
  refine KS.out.mono ?_
  rintro e wC ⟨G, rfl, hH, hGm, hS⟩
  have BC := hid (show Below w.heap.size w wC from BB.out.trans (hH.bel.mono BB.out.size))
  have HH := hid hH
  have HS := hid hS
  clear hH hS KS hB2 hB3 BA BB BM HD HT HI
  have hp1 : (n1 : Int) * (n1 : Int) = ((n1 * n1 : Nat) : Int) := by push_cast; rfl
  have hp2 : n1 * n1 ≤ 65536 := Nat.mul_le_mul g1 g1
  generalize hN : n1 * n1 = N at *
  have HN := hid hN
  clear hN
  go_wp2_with (at_make; refine wpList_make_full _ rfl _ _ 34 rfl wC.heap.size 4 i0 (.bool false) 1 Try.underlying34 hi0 hz0 hz1 _ _ _ _ N rfl rfl rfl rfl (by rw [hz2]; omega) (by unfold maxLen; omega) (Nat.le_refl _) ?_; intro wD hown hgrow)
  have ST := hid (show TB wC.heap.size N wC wD (fun _ => false) from ⟨made_b hown, (Below.refl _ _).grown hgrow (Nat.le_refl _) (fun k h => by cases h)⟩)
  have hcz : cnt (fun _ => false) N = 0 := cnt_zero (fun _ _ => rfl)
  have MZ := hid (show Mk n1 (fun _ => false) (conf iv wb it 0) from fun c hc => ⟨fun h => (by cases h), fun ⟨i, j, h1, h2, _⟩ => by omega⟩)
  clear hown hgrow hi0 hz0 hz1 hz2
  generalize hkw : wC.heap.size = kw at *
  have HKW := hid hkw
  clear hkw
  go_loopg [12, 13] n4 (fun g cv jv wr => ∃ j f, j ≤ n4 ∧ g = n4 - j ∧ jv = .int .i64 (j : Nat) ∧ cv = .int .i64 ((cnt f N : Nat) : Int) ∧ Mk n1 f (conf iv wb it j) ∧ TB kw N wC wr f)
  case atStart => exact ⟨0, fun _ => false, Nat.zero_le _, rfl, rfl, by rw [hcz]; rfl, MZ.out, ST.out⟩
  case round =>
    obtain ⟨j, f, hj, hg, rfl, rfl, hmk, htb⟩ := hrel
    have HG := hid hg
    have MK := hid hmk
    have TB1 := hid htb
    clear hg hmk htb ST MZ hcz
    by_cases hlt : j < n4
    · have j1 : (j : Int) < (n4 : Int) := by omega
      go_wp2
      go_loopg [12, 14] j (fun g cv iv' wr => ∃ i f2, i ≤ j ∧ g = j - i ∧ iv' = .int .i64 (i : Nat) ∧ cv = .int .i64 ((cnt f2 N : Nat) : Int) ∧ Mk n1 f2 (cf iv wb it j i) ∧ TB kw N wC wr f2)
      case atStart => exact ⟨0, f, Nat.zero_le _, rfl, rfl, rfl, MK.out.congr (fun a b => cf_zero j a b), TB1.out⟩
      case round =>
        obtain ⟨i, f2, hi, hg2, rfl, rfl, hmk2, htb2⟩ := hrel
        have HG2 := hid hg2
        have MK2 := hid hmk2
        have TB2 := hid htb2
        clear hg2 hmk2 htb2 MK TB1
        by_cases hij : i < j
        · have i1 : (i : Int) < (n4 : Int) := by omega
          have i2 : (i : Int) < (j : Int) := by omega
          have BE : Below w.heap.size w wr := BC.out.trans (TB2.out.bel.mono (by rw [← HKW.out]; exact BC.out.size))
          have ha2 := HS2.out.1 (by omega)
          have ha3 := HS3.out.1 (by omega)
          have ha4 := HS4.out.1 (by omega)
          subst ha2 ha3 ha4
          have d1 := cell_later BE (HS4.out.2 i (by omega))
          have d2 := cell_later BE (HS4.out.2 j (by omega))
          have d3 : wr.cell? ⟨b2, o2 + i, none⟩ = some (.int .u16 (iv i : Int)) := cell_later BE (HS2.out.2 i (by omega))
          have d4 : wr.cell? ⟨b2, o2 + j, none⟩ = some (.int .u16 (iv j : Int)) := cell_later BE (HS2.out.2 j (by omega))
          have d5 := cell_later BE (HS3.out.2 i (by omega))
          have d6 := cell_later BE (HS3.out.2 j (by omega))
          have hvi := HV.out i (by omega)
          have hvj := HV.out j (by omega)
          have SKIP := hid (show (it i ≠ it j ∨ iv i = iv j ∨ (wb i = false ∧ wb j = false)) → Mk n1 f2 (cf iv wb it j (i + 1)) from fun h => MK2.out.congr (cf_skip h))
          have ADD := hid (show it i = it j → iv i ≠ iv j → (wb i = true ∨ wb j = true) → (f2 (iv i * n1 + iv j) = true → Mk n1 f2 (cf iv wb it j (i + 1))) ∧ (f2 (iv i * n1 + iv j) = false → Mk n1 (upn f2 (iv i * n1 + iv j) true) (cf iv wb it j (i + 1))) from fun h1 h2 h3 => ⟨fun h => MK2.out.congr (fun a b => by
              rw [← cf_add h1 h2 h3]
              refine ⟨.inl, fun h' => ?_⟩
              rcases h' with h' | ⟨rfl, rfl⟩
              · exact h'
              · exact (MK2.out.at hvi hvj).1 h), fun _ => (MK2.out.set hvi hvj).congr (fun a b => cf_add h1 h2 h3 a b)⟩)
          have hCN : iv i * n1 + iv j < N := by rw [← HN.out]; exact place_lt hvi hvj
          have hq1 : (iv i : Int) * (n1 : Int) = ((iv i * n1 : Nat) : Int) := by push_cast; rfl
          generalize it i = xi at *
          generalize it j = xj at *
          generalize iv i = vi at *
          generalize iv j = vj at *
          generalize wb i = wi at *
          generalize wb j = wj at *
          generalize vi * n1 = Pp at *
          have hq2 : (Pp : Int) + (vj : Int) = ((Pp + vj : Nat) : Int) := by push_cast; rfl
          have hpl : Pp < N := by omega
          generalize Pp + vj = Cc at *
          clear MK2 BE
          by_cases hx : xi = xj
          · have s3 := sEq_t hx
            have HXE := hid hx
            clear hx
            by_cases hv : vi = vj
            · have s4 : ((vi : Int) == (vj : Int)) = true := by simp [hv]
              have SKR := hid (SKIP.out (.inr (.inl hv)))
              clear hv SKIP ADD
              go_wp2
              go_quiet (fail)
              go_wp2
              go_roundg (j - (i + 1))
              case measure => have := HG2.out; omega
              case rel => exact ⟨i + 1, f2, by omega, rfl, by go_num, rfl, SKR.out, TB2.out.drawn _⟩
            · have s4 : ((vi : Int) == (vj : Int)) = false := by simp; omega
              have HVE := hid hv
              clear hv
              cases wi with
              | true =>
                clear SKIP
                have cw := TB2.out.cell hCN
                have fz := TB2.out.frozen Cc
                have ADD2 := hid (ADD.out HXE.out HVE.out (by simp))
                clear ADD
                cases hf : f2 Cc with
                | true =>
                  rw [hf] at cw
                  have MR := hid (ADD2.out.1 hf)
                  clear hf
                  go_wp2
                  go_quiet (fail)
                  go_wp2
                  go_quiet (fail)
                  go_wp2
                  go_roundg (j - (i + 1))
                  case measure => have := HG2.out; omega
                  case rel => exact ⟨i + 1, f2, by omega, rfl, by go_num, rfl, MR.out, by first | exact TB2.out.drawn _ | (rw [World.drewN_drewN]; exact TB2.out.drawn _)⟩
                | false =>
                  rw [hf] at cw
                  have MR := hid (ADD2.out.2 hf)
                  have hcs := cnt_set hCN hf
                  have hcn := cnt_le f2 N
                  clear hf
                  generalize cnt f2 N = cn at *
                  go_wp2
                  go_quiet (fail)
                  go_wp2
                  go_quiet (fail)
                  go_wp2
                  go_roundg (j - (i + 1))
                  case measure => have := HG2.out; omega
                  case rel => exact ⟨i + 1, _, by omega, rfl, by go_num, by rw [hcs]; go_num, MR.out, by first | exact TB2.out.set Cc _ true | (rw [World.drewN_drewN]; exact TB2.out.set Cc _ true)⟩
              | false =>
                cases wj with
                | true =>
                  clear SKIP
                  have cw := TB2.out.cell hCN
                  have fz := TB2.out.frozen Cc
                  have ADD2 := hid (ADD.out HXE.out HVE.out (by simp))
                  clear ADD
                  cases hf : f2 Cc with
                  | true =>
                    rw [hf] at cw
                    have MR := hid (ADD2.out.1 hf)
                    clear hf
                    go_wp2
                    go_quiet (fail)
                    go_wp2
                    go_quiet (fail)
                    go_wp2
                    go_roundg (j - (i + 1))
                    case measure => have := HG2.out; omega
                    case rel => exact ⟨i + 1, f2, by omega, rfl, by go_num, rfl, MR.out, by first | exact TB2.out.drawn _ | (rw [World.drewN_drewN]; exact TB2.out.drawn _)⟩
                  | false =>
                    rw [hf] at cw
                    have MR := hid (ADD2.out.2 hf)
                    have hcs := cnt_set hCN hf
                    have hcn := cnt_le f2 N
                    clear hf
                    generalize cnt f2 N = cn at *
                    go_wp2
                    go_quiet (fail)
                    go_wp2
                    go_quiet (fail)
                    go_wp2
                    go_roundg (j - (i + 1))
                    case measure => have := HG2.out; omega
                    case rel => exact ⟨i + 1, _, by omega, rfl, by go_num, by rw [hcs]; go_num, MR.out, by first | exact TB2.out.set Cc _ true | (rw [World.drewN_drewN]; exact TB2.out.set Cc _ true)⟩
                | false =>
                  have SKR := hid (SKIP.out (.inr (.inr ⟨rfl, rfl⟩)))
                  clear SKIP ADD
                  go_wp2
                  go_quiet (fail)
                  go_wp2
                  go_roundg (j - (i + 1))
                  case measure => have := HG2.out; omega
                  case rel => exact ⟨i + 1, f2, by omega, rfl, by go_num, rfl, SKR.out, TB2.out.drawn _⟩
          · have s3 := sEq_f hx
            have SKR := hid (SKIP.out (.inl hx))
            clear hx SKIP ADD
            go_wp2
            go_quiet (fail)
            go_wp2
            go_roundg (j - (i + 1))
            case measure => have := HG2.out; omega
            case rel => exact ⟨i + 1, f2, by omega, rfl, by go_num, rfl, SKR.out, TB2.out.drawn _⟩
        · have e : i = j := by omega
          subst e
          have MR := hid (MK2.out.congr (fun a b => cf_end i a b))
          go_wp2
          go_roundg (n4 - (i + 1))
          case measure => have := HG.out; omega
          case rel => exact ⟨i + 1, f2, by omega, rfl, by go_num, rfl, MR.out, TB2.out⟩
    · have e : j = n4 := by omega
      subst e
      have HSL := hid HS.out.sl
      have HND := hid HS.out.nd
      have M3 := hid (MK.out.congr (fun a b => lf_start _ G.Sl a b))
      go_wp2
      go_loopg [12, 16] n1 (fun g cv uv wr => ∃ u f3, u ≤ n1 ∧ g = n1 - u ∧ uv = .int .i64 (u : Nat) ∧ cv = .int .i64 ((cnt f3 N : Nat) : Int) ∧ Mk n1 f3 (lf (conf iv wb it j) G.Sl u 0) ∧ TB kw N wC wr f3)
      case atStart => exact ⟨0, f, Nat.zero_le _, rfl, rfl, rfl, M3.out, TB1.out⟩
      case round =>
        obtain ⟨u, f3, hu, hg3, rfl, rfl, hmk3, htb3⟩ := hrel
        have HG3 := hid hg3
        have MK3 := hid hmk3
        have TB3 := hid htb3
        clear hg3 hmk3 htb3 M3 MK TB1
        by_cases hun : u < n1
        · have u1 : (u : Int) < (n1 : Int) := by omega
          have hln : ∀ ty W, (Builtin.len_ #[42] ty #[G.sv u]).run Try.prog W = .ok (.int .i64 ((G.Sl u).length : Nat)) W := fun ty W => row_len (HH.out.rowS u) Try.underlying42 ty
          have hle : (G.Sl u).length ≤ 9223372036854775807 := by
            rcases (HH.out.rowS u).2 with ⟨_, e⟩ | ⟨_, cap, _, _, _, _, e1, e2, _⟩
            · omega
            · unfold maxLen at e2; omega
          have sc : wC.cell? ⟨G.kS, u, none⟩ = some (G.sv u) := (HH.out.succCell (by rw [hGm]; exact hun)).1
          have SC := hid sc
          clear sc
          go_wp2
          go_loopg [12, 17] (G.Sl u).length (fun g cv kv wr => ∃ kk f4, kk ≤ (G.Sl u).length ∧ g = (G.Sl u).length - kk ∧ kv = .int .i64 (kk : Nat) ∧ cv = .int .i64 ((cnt f4 N : Nat) : Int) ∧ Mk n1 f4 (lf (conf iv wb it j) G.Sl u kk) ∧ TB kw N wC wr f4)
          case atStart => exact ⟨0, f3, Nat.zero_le _, rfl, rfl, rfl, MK3.out, TB3.out⟩
          case round =>
            obtain ⟨kk, f4, hkk, hg4, rfl, rfl, hmk4, htb4⟩ := hrel
            have HG4 := hid hg4
            have MK4 := hid hmk4
            have TB4 := hid htb4
            clear hg4 hmk4 htb4 MK3 TB3
            have BF : Below wC.heap.size wC wr := by rw [HKW.out]; exact TB4.out.bel
            have sc := cell_later BF SC.out
            by_cases hk : kk < (G.Sl u).length
            · have k1 : (kk : Int) < ((G.Sl u).length : Int) := by omega
              obtain ⟨v, hv⟩ : ∃ v, (G.Sl u)[kk]? = some v := ⟨_, List.getElem?_eq_getElem hk⟩
              obtain ⟨g, cap, hsv, hcap, _, _, hcl⟩ := row_at (HH.out.rowS u) (by omega)
              have cv := cell_later BF (hcl kk (.int .i64 (v : Nat)) hk (by simp [ints, hv]))
              have hvm : v < n1 := by
                obtain ⟨i', j', _, h2, _, h4, _⟩ := (HSL.out u v).1 (List.mem_of_getElem? hv)
                rw [← h4]; exact HV.out j' h2
              have hf : f4 (u * n1 + v) = true := (MK4.out.at hun hvm).2 (lf_here hv HSL.out (HND.out u))
              have hCN : u * n1 + v < N := by rw [← HN.out]; exact place_lt hun hvm
              have MR := hid ((MK4.out.unset hun hvm).congr (fun a b => lf_step hv a b))
              have hq1 : (u : Int) * (n1 : Int) = ((u * n1 : Nat) : Int) := by push_cast; rfl
              generalize u * n1 = Pp at *
              have hq2 : (Pp : Int) + (v : Int) = ((Pp + v : Nat) : Int) := by push_cast; rfl
              have hpl : Pp < N := by omega
              generalize Pp + v = Cc at *
              have cw := TB4.out.cell hCN 0
              have fz := TB4.out.frozen Cc 0
              rw [hf] at cw
              have cw' : wr.cell? ⟨kw, Cc, none⟩ = some (.bool true) := cw
              have fz' : wr.frozen? ⟨kw, Cc, none⟩ = false := fz
              have hcs := cnt_unset hCN hf
              have hcn := cnt_le f4 N
              have NT := hid (show TB kw N wC (wr.setCell ⟨kw, Cc, none⟩ (.bool false)) (upn f4 Cc false) from TB4.out.set Cc 0 false)
              have HKL := hid hk
              clear hv hcl hf cw fz MK4 TB4 hk
              generalize G.sv u = sv at *
              subst hsv
              generalize (G.Sl u).length = ln at *
              generalize cnt f4 N = cn at *
              generalize hcd : cnt (upn f4 Cc false) N = cd at *
              have HCD := hid hcd
              clear hcd
              go_wp2
              go_roundg (ln - (kk + 1))
              case measure => have := HG4.out; have := HKL.out; omega
              case rel => exact ⟨kk + 1, upn f4 Cc false, by omega, rfl, by go_num, by rw [HCD.out]; go_num, MR.out, NT.out⟩
            · have hke : kk = (G.Sl u).length := by omega
              have MR := hid (MK4.out.congr (fun a b => lf_next (by omega) HSL.out a b))
              go_wp2
              go_roundg (n1 - (u + 1))
              case measure => have := HG3.out; omega
              case rel => exact ⟨u + 1, f4, by omega, rfl, by go_num, rfl, MR.out, TB4.out⟩
        · have e : u = n1 := by omega
          subst e
          have h0 : cnt f3 N = 0 := by rw [← HN.out]; exact lf_none MK3.out
          have BE := hid (show Below w.heap.size w wr from BC.out.trans (TB3.out.bel.mono (by rw [← HKW.out]; exact BC.out.size)))
          rw [h0]
          go_wp2
          go_ret
          exact ⟨rfl, BE.out⟩
end Go.Proofs.Qxb6600445a

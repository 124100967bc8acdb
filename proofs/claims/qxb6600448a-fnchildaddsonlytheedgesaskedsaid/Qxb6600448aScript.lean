import Derived.Test.Qxb6600448aRel
import Derived.Test.Qxb6600448aCloneS
import Derived.Deep.DeepCutAuto
import Derived.Deep.LoopGhost
import Derived.Deep.RegionWith
import Derived.Deep.DrawnRows
import Derived.WalkSmall
namespace Go.Proofs.Qxb6600448a
open Go.RowKit
set_option linter.unusedVariables false

/-- what the call of child did -/
def Did (key : Int × List UInt8) (b : Nat) (N : Nat → Prop) (ch : Ch) (cnt : Nat → Nat) (r : Nat) (N' : Nat → Prop) (ch' : Ch) (cnt' : Nat → Nat) : Prop :=
  (ch b key.1 key.2 = some r ∧ N' = N ∧ ch' = ch ∧ cnt' = cnt) ∨
  (ch b key.1 key.2 = none ∧ ¬ N r ∧ N' = (fun x => N x ∨ x = r) ∧ ch' = addC ch b key.1 key.2 r ∧ cnt' = addN cnt b key.1 r)

theorem node_in {key : Nat → Int × List UInt8} {j R : Nat} {nd cn : Nat → Nat} {cp : Nat → Option Nat} {N : Nat → Prop} {ch : Ch} {cnt : Nat → Nat} (H : Inv key j R nd cn cp N ch cnt) {c0 : Option Nat} (hc : canonC cn j c0) : N (nodeOf R nd c0) ∧ cnt (nodeOf R nd c0) ≤ j := by
  refine ⟨(H.dom _).2 ?_, ?_⟩
  · cases c0 with
    | none => exact .inl rfl
    | some i => exact .inr ⟨i, (hc i rfl).1, rfl⟩
  · rw [H.count c0 hc]
    unfold lits
    have := List.length_filter_le (fun i => decide (cn i = i ∧ cp i = c0 ∧ (key i).1 = 0)) (List.range j)
    simpa using this

theorem round_end {st : Nat → St} {n B R Bn Bc Bp : Nat} {w WX : World} {j : Nat} {nd cn : Nat → Nat} {cp : Nat → Option Nat} {N : Nat → Prop} {ch : Ch} {cnt : Nat → Nat} (H : Inv (fun i => keyS (st i)) j R nd cn cp N ch cnt) {c0 : Option Nat} (hc : canonC cn j c0)
    {r : Nat} {N' : Nat → Prop} {ch' : Ch} {cnt' : Nat → Nat} (hd : Did (keyS (st j)) (nodeOf R nd c0) N ch cnt r N' ch' cnt') {m : Nat} (hm1 : ∀ i, i < m → ¬ (cp i = c0 ∧ keyS (st i) = keyS (st j))) (hm2 : m = j ∨ m < j ∧ cp m = c0 ∧ keyS (st m) = keyS (st j))
    (rn : OwnR WX B Bn n 25 (row (pN (upd nd j r)) (.pointer none) (j + 1) n)) (rc : OwnR WX B Bc n 3 (row (pC (upd cn j m)) (.int .i64 0) (j + 1) n)) (rp : OwnR WX B Bp n 3 (row (pP (upd cp j c0)) (.int .i64 0) (j + 1) n)) (tr : Tree WX B N' ch' cnt') (bl : Below B w WX) :
    ∃ nd cn cp N ch cnt, RelM st n B R Bn Bc Bp w WX (j + 1) nd cn cp N ch cnt := by
  rcases hd with ⟨d1, rfl, rfl, rfl⟩ | ⟨d1, d2, rfl, rfl, rfl⟩
  · have := inv_hit H c0 hc r m d1 hm1 hm2
    exact ⟨_, _, _, _, _, _, rn, rc, rp, tr, this.2, bl⟩
  · have := inv_new H c0 hc r m d1 d2 hm1 hm2
    exact ⟨_, _, _, _, _, _, rn, rc, rp, tr, this.2, bl⟩

theorem made_ptr (n : Nat) : (madeCells (Value.pointer none).cells (n * 1)).toList = List.replicate n (Value.pointer none) := by
  rw [Nat.mul_one]; exact toList_madeCells_one _ _
theorem made_int (n : Nat) : (madeCells (Value.int .i64 0).cells (n * 1)).toList = List.replicate n (Value.int .i64 0) := by
  rw [Nat.mul_one]; exact toList_madeCells_one _ _

theorem rel_start (st : Nat → St) (n : Nat) (w w1 w2 w3 w4 : World) (hw1 : w1 = w.alloc fresh)
    (own2 : w2.ownsRow w.heap.size 25 1 (.slice (some ⟨w1.heap.size, 0, none⟩) n n) n (madeCells (Value.pointer none).cells (n * 1)).toList) (grow2 : w1.grownBy w2 none)
    (own3 : w3.ownsRow w.heap.size 3 1 (.slice (some ⟨w2.heap.size, 0, none⟩) n n) n (madeCells (Value.int .i64 0).cells (n * 1)).toList) (grow3 : w2.grownBy w3 none)
    (own4 : w4.ownsRow w.heap.size 3 1 (.slice (some ⟨w3.heap.size, 0, none⟩) n n) n (madeCells (Value.int .i64 0).cells (n * 1)).toList) (grow4 : w3.grownBy w4 none) :
    RelM st n w.heap.size w.heap.size (w.heap.size + 1) w2.heap.size w3.heap.size w w4 0 (fun _ => 0) (fun _ => 0) (fun _ => none) (fun b => b = w.heap.size) (fun _ _ _ => none) (fun _ => 0) := by
  have sz1 : w1.heap.size = w.heap.size + 1 := by rw [hw1]; simp
  have z2 := grow2.size
  have z3 := grow3.size
  have z4 := grow4.size
  rw [made_ptr, sz1] at own2
  rw [made_int] at own3 own4
  have kN : ∀ {a b : World} {v : Value} {e : TypeId} {xs : List Value}, a.ownsRow w.heap.size e 1 v n xs → a.grownBy b none → b.ownsRow w.heap.size e 1 v n xs := fun h g => h.kept g (by cases Value.ownBlock _ <;> simp)
  have g14 : w1.grownBy w4 none := (grow2.trans grow3).trans grow4
  have hroot : w4.heap[w.heap.size]? = some fresh := by
    rw [g14.block w.heap.size (by omega) (by simp), hw1]
    exact heap_alloc_new w _
  refine ⟨?_, ?_, ?_, ?_, inv_start _ _ _ _ _, ?_⟩
  · show w4.ownsRow _ _ _ _ _ _
    rw [row_zero]; exact kN (kN own2 grow3) grow4
  · show w4.ownsRow _ _ _ _ _ _
    rw [row_zero]; exact kN own3 grow4
  · show w4.ownsRow _ _ _ _ _ _
    rw [row_zero]; exact own4
  · refine ⟨fun _ => none, fun b hb => ?_, fun b b' m _ _ h => (by cases h), fun b hb => ⟨by omega, fun m h => (by cases h)⟩⟩
    subst hb
    exact ⟨hroot, fun _ => ⟨rfl, fun _ => rfl⟩, fun m h => (by cases h)⟩
  · have b1 : Below w.heap.size w w1 := by rw [hw1]; exact (Below.refl _ _).alloc (Nat.le_refl _) _
    exact b1.grown g14 (by omega) (fun k h => by cases h)

attribute [local go_sem ↓] Go.wp_at_zero Go.wp_at_succ

set_option maxRecDepth 100000 in
set_option maxHeartbeats 1600000 in
theorem script_go (a : Option Addr) (n c bs : Nat) (st : Nat → St) (w : World) (hn : n ≤ 4096) (ha : 0 < n → a = some ⟨bs, 0, none⟩) (hbs0 : 0 < n → bs < w.heap.size) (hS : StepsAt w bs n st) (ht : ∀ j, (st j).text.size ≤ maxLen) :
    Calls Try.prog 10 #[.slice a n c] w fun e w' => ∃ Bc Bp nd cn cp N ch cnt, e = .returned (.tuple #[.pointer (some ⟨w.heap.size, 0, none⟩), .slice (some ⟨w.heap.size + 1, 0, none⟩) n n, .slice (some ⟨Bc, 0, none⟩) n n, .slice (some ⟨Bp, 0, none⟩) n n]) ∧
      RelM st n w.heap.size w.heap.size (w.heap.size + 1) Bc Bp w w' n nd cn cp N ch cnt := by
  obtain ⟨i0, hi, hz0, hz1, hz2⟩ := info_parts info25
  obtain ⟨j0, hj, hy0, hy1, hy2⟩ := info_parts info3
  have HA := hid ha
  have HBS := hid hbs0
  have HS := hid hS
  have HT := hid ht
  clear ha hS ht hbs0
  go_enter Try.func10, Try.ntmps10
  go_wp2_with fail
  refine (newnode w).mono ?_
  rintro e w1 ⟨rfl, hw1⟩
  have sz1 : w1.heap.size = w.heap.size + 1 := by rw [hw1]; simp
  have HW1 := hid hw1
  clear hw1
  go_wp2_with (first | (at_make; refine wpList_make_full _ rfl (.tmp 16) (.tmp 16) 26 rfl w.heap.size 25 i0 (.pointer none) 1 Try.underlying26 hi hz0 hz1 _ _ _ _ n rfl rfl rfl rfl (by rw [hz2]; omega) (by unfold maxLen; omega) (by omega) ?_; intro w2 own2 grow2) | (at_make; refine wpList_make_full _ rfl (.tmp 19) (.tmp 19) 27 rfl w.heap.size 3 j0 (.int .i64 0) 1 Try.underlying27 hj hy0 hy1 _ _ _ _ n rfl rfl rfl rfl (by rw [hy2]; omega) (by unfold maxLen; omega) (by have := grow2.size; omega) ?_; intro w3 own3 grow3) | (at_make; refine wpList_make_full _ rfl (.tmp 22) (.tmp 22) 27 rfl w.heap.size 3 j0 (.int .i64 0) 1 Try.underlying27 hj hy0 hy1 _ _ _ _ n rfl rfl rfl rfl (by rw [hy2]; omega) (by unfold maxLen; omega) (by have := grow2.size; have := grow3.size; omega) ?_; intro w4 own4 grow4))
  have START := rel_start st n w w1 w2 w3 w4 HW1.out own2 grow2 own3 grow3 own4 grow4
  have lt2 : w.heap.size + 1 < w2.heap.size := by have := (own2.lt w1.heap.size rfl).2; omega
  have lt3 : w2.heap.size < w3.heap.size := (own3.lt w2.heap.size rfl).2
  have lt4 : w3.heap.size < w4.heap.size := (own4.lt w3.heap.size rfl).2
  have HST := hid START
  clear START own2 own3 own4 grow2 grow3 grow4 HW1 sz1 hi hz0 hz1 hz2 hj hy0 hy1 hy2
  generalize w2.heap.size = Bc at *
  generalize w3.heap.size = Bp at *
  clear w1 w2 w3
  go_loopg [10] n (fun g jv wr => ∃ j nd cn cp N ch cnt, g = n - j ∧ j ≤ n ∧ jv = .int .i64 (j : Nat) ∧ RelM st n w.heap.size w.heap.size (w.heap.size + 1) Bc Bp w wr j nd cn cp N ch cnt)
  case atStart => exact ⟨0, _, _, _, _, _, _, rfl, Nat.zero_le _, rfl, HST.out⟩
  case round =>
    obtain ⟨j, nd, cn, cp, N, ch, cnt, hgk, hjn, rfl, hrel⟩ := hrel
    have HR := hid hrel
    have HG := hid hgk
    clear hrel hgk HST
    by_cases hlt : j < n
    · have hbs := HBS.out (by omega)
      have ha := HA.out (by omega)
      subst ha
      have i1 : (j : Int) < (n : Int) := by omega
      obtain ⟨s1, s2, s3⟩ := HS.out j hlt
      have k1 := cell_later HR.out.bel s1
      have k2 := cell_later HR.out.bel s2
      have k3 := cell_later HR.out.bel s3
      clear s1 s2 s3
      have n1 : ¬ w.heap.size + 1 = Bp := by omega
      have n2 : ¬ Bc = Bp := by omega
      have n3 : ¬ bs = Bp := by omega
      have n4 : ¬ bs = w.heap.size + 1 := by omega
      have n5 : ¬ w.heap.size + 1 = bs := by omega
      have p1 := HR.out.rp.cell hlt
      rw [if_neg (Nat.lt_irrefl _)] at p1
      have p2 := HR.out.rp.frozen j
      generalize hp : (st j).par = p at *
      have HP := hid hp
      clear hp
      go_upto_region 11 with fail
      go_cut [45] from 24 to 105 (fun b wx => b = .bool (decide (0 ≤ p ∧ p < (j : Int))) ∧ wx = wr.setCell ⟨Bp, j, none⟩ (.int .i64 (-1)))
      case first =>
        by_cases h0 : 0 ≤ p
        · by_cases h1 : p < (j : Int)
          · have hd := hid (show decide (0 ≤ p ∧ p < (j : Int)) = true by simp [h0, h1])
            go_wp2
            go_meet
            exact ⟨by rw [hd.out], rfl⟩
          · have hd := hid (show decide (0 ≤ p ∧ p < (j : Int)) = false by simp [h1])
            go_wp2
            go_meet
            exact ⟨by rw [hd.out], rfl⟩
        · have hd := hid (show decide (0 ≤ p ∧ p < (j : Int)) = false by simp [h0])
          go_wp2
          go_meet
          exact ⟨by rw [hd.out], rfl⟩
      case rest =>
        obtain ⟨rfl, rfl⟩ := hcut
        go_upto_if 45 with fail
        go_cut [12] from 24 to 105 (fun fv wx => ∃ c0, canonC cn j c0 ∧ fv = .pointer (some ⟨nodeOf w.heap.size nd c0, 0, none⟩) ∧ (0 ≤ p ∧ p < (j : Int) → c0 = some (cn p.toNat)) ∧ (¬ (0 ≤ p ∧ p < (j : Int)) → c0 = none) ∧
          OwnR wx w.heap.size (w.heap.size + 1) n 25 (row (pN nd) (.pointer none) j n) ∧ OwnR wx w.heap.size Bc n 3 (row (pC cn) (.int .i64 0) j n) ∧ OwnR wx w.heap.size Bp n 3 (row (pP (upd cp j c0)) (.int .i64 0) (j + 1) n) ∧ Tree wx w.heap.size N ch cnt ∧ Below w.heap.size w wx)
        case first =>
          have rn := HR.out.rn
          have rc := HR.out.rc
          have rp := HR.out.rp
          by_cases hpj : 0 ≤ p ∧ p < (j : Int)
          · obtain ⟨q, rfl⟩ := Int.eq_ofNat_of_zero_le hpj.1
            have hqj : q < j := by omega
            have hd : decide (0 ≤ (q : Int) ∧ (q : Int) < (j : Int)) = true := by simpa using hpj
            have c1 := rn.cell (i := q) (by omega)
            have c2 := rc.cell (i := q) (by omega)
            rw [if_pos hqj] at c1 c2
            unfold pN at c1
            unfold pC at c2
            have q1 : (q : Int) < (n : Int) := by omega
            obtain ⟨cnq1, cnq2, cnq3⟩ := HR.out.inv.cnle q hqj
            have fin := hid (show ∃ c0, canonC cn j c0 ∧ Value.pointer (some ⟨nd q, 0, none⟩) = .pointer (some ⟨nodeOf w.heap.size nd c0, 0, none⟩) ∧ (0 ≤ (q : Int) ∧ (q : Int) < (j : Int) → c0 = some (cn (q : Int).toNat)) ∧ (¬ (0 ≤ (q : Int) ∧ (q : Int) < (j : Int)) → c0 = none) ∧
              OwnR ((wr.setCell ⟨Bp, j, none⟩ (.int .i64 (-1))).setCell ⟨Bp, j, none⟩ (.int .i64 (cn q : Int))) w.heap.size (w.heap.size + 1) n 25 (row (pN nd) (.pointer none) j n) ∧ OwnR ((wr.setCell ⟨Bp, j, none⟩ (.int .i64 (-1))).setCell ⟨Bp, j, none⟩ (.int .i64 (cn q : Int))) w.heap.size Bc n 3 (row (pC cn) (.int .i64 0) j n) ∧ OwnR ((wr.setCell ⟨Bp, j, none⟩ (.int .i64 (-1))).setCell ⟨Bp, j, none⟩ (.int .i64 (cn q : Int))) w.heap.size Bp n 3 (row (pP (upd cp j c0)) (.int .i64 0) (j + 1) n) ∧ Tree ((wr.setCell ⟨Bp, j, none⟩ (.int .i64 (-1))).setCell ⟨Bp, j, none⟩ (.int .i64 (cn q : Int))) w.heap.size N ch cnt ∧ Below w.heap.size w ((wr.setCell ⟨Bp, j, none⟩ (.int .i64 (-1))).setCell ⟨Bp, j, none⟩ (.int .i64 (cn q : Int))) from by
                obtain ⟨hge, cur, hcur⟩ := rp.block
                refine ⟨some (cn q), fun i hi => by cases hi; exact ⟨by omega, cnq2⟩, by rw [show nodeOf w.heap.size nd (some (cn q)) = nd q from cnq3], fun _ => by simp, fun h => absurd hpj h, (rn.setOther n1 _ _).setOther n1 _ _, (rc.setOther n2 _ _).setOther n2 _ _, ?_, (HR.out.tree.setOther hcur (by decide) _ _).setOther (rp.set j (.int .i64 (-1))).block.2.choose_spec (by decide) _ _, (HR.out.bel.setCell (p := ⟨Bp, j, none⟩) hge _).setCell (p := ⟨Bp, j, none⟩) hge _⟩
                have := (rp.set j (.int .i64 (-1))).set j (.int .i64 (cn q : Int))
                rw [List.set_set, row_set (pP cp) (pP (upd cp j (some (cn q)))) _ _ j n hlt (by simp [pP, upd_at, opI]) (fun i hi => by simp [pP, upd_ne cp j i _ (by omega)])] at this
                exact this)
            clear rn rc rp
            go_wp2
            go_meet
            exact fin.out
          · have hd : decide (0 ≤ p ∧ p < (j : Int)) = false := by simpa using hpj
            have fin := hid (show ∃ c0, canonC cn j c0 ∧ Value.pointer (some ⟨w.heap.size, 0, none⟩) = .pointer (some ⟨nodeOf w.heap.size nd c0, 0, none⟩) ∧ (0 ≤ p ∧ p < (j : Int) → c0 = some (cn p.toNat)) ∧ (¬ (0 ≤ p ∧ p < (j : Int)) → c0 = none) ∧
              OwnR (wr.setCell ⟨Bp, j, none⟩ (.int .i64 (-1))) w.heap.size (w.heap.size + 1) n 25 (row (pN nd) (.pointer none) j n) ∧ OwnR (wr.setCell ⟨Bp, j, none⟩ (.int .i64 (-1))) w.heap.size Bc n 3 (row (pC cn) (.int .i64 0) j n) ∧ OwnR (wr.setCell ⟨Bp, j, none⟩ (.int .i64 (-1))) w.heap.size Bp n 3 (row (pP (upd cp j c0)) (.int .i64 0) (j + 1) n) ∧ Tree (wr.setCell ⟨Bp, j, none⟩ (.int .i64 (-1))) w.heap.size N ch cnt ∧ Below w.heap.size w (wr.setCell ⟨Bp, j, none⟩ (.int .i64 (-1))) from by
                obtain ⟨hge, cur, hcur⟩ := rp.block
                refine ⟨none, fun i hi => (by cases hi), rfl, fun h => absurd h hpj, fun _ => rfl, rn.setOther n1 _ _, rc.setOther n2 _ _, ?_, HR.out.tree.setOther hcur (by decide) _ _, HR.out.bel.setCell (p := ⟨Bp, j, none⟩) hge _⟩
                have := rp.set j (.int .i64 (-1))
                rw [row_set (pP cp) (pP (upd cp j none)) _ _ j n hlt (by simp [pP, upd_at, opI]) (fun i hi => by simp [pP, upd_ne cp j i _ (by omega)])] at this
                exact this)
            clear rn rc rp
            go_wp2
            go_meet
            exact fin.out
        case rest =>
          obtain ⟨c0, hc0, rfl, hc1, hc2, rn, rc, rp, tr, bl⟩ := hcut
          obtain ⟨hN, hcnt⟩ := node_in HR.out.inv hc0
          have KC := hid (zzchild (nodeOf w.heap.size nd c0) (kd (st j).kind) (st j).text wc.drew w.heap.size N ch cnt tr hN bl.size (HT.out j) (kd_cases _) (by unfold maxLen; omega))
          have k2 := cell_later bl (HS.out j hlt).2.1
          have k3 := cell_later bl (HS.out j hlt).2.2
          have q1 := rn.cell hlt
          rw [if_neg (Nat.lt_irrefl _)] at q1
          have q2 := rn.frozen j
          have hKD := hid (kd_any (st j).kind)
          have HKEY := hid (show keyS (st j) = (kd (st j).kind, nk (kd (st j).kind) (st j).text.data.toList) from rfl)
          generalize hb0 : nodeOf w.heap.size nd c0 = b0 at *
          have HB0 := hid hb0
          clear hb0
          generalize (st j).text = tx at *
          generalize kd (st j).kind = κ at *
          generalize (st j).kind = kk at *
          have Hrn := hid rn
          have Hrc := hid rc
          have Hrp := hid rp
          have Htr := hid tr
          have Hbl := hid bl
          clear rn rc rp tr bl hc1 hc2
          go_upto_region 14 with fail
          go_cut [] from 24 to 105 (fun wx => ∃ r N' ch' cnt', Did (keyS (st j)) b0 N ch cnt r N' ch' cnt' ∧ OwnR wx w.heap.size (w.heap.size + 1) n 25 (row (pN (upd nd j r)) (.pointer none) (j + 1) n) ∧ OwnR wx w.heap.size Bc n 3 (row (pC cn) (.int .i64 0) j n) ∧ OwnR wx w.heap.size Bp n 3 (row (pP (upd cp j c0)) (.int .i64 0) (j + 1) n) ∧ Tree wx w.heap.size N' ch' cnt' ∧ Below w.heap.size w wx)
          case first =>
            go_region_held3 (fun w' => w'.cell? ⟨bs, j * 3 + 1, none⟩ = some (.int .i64 kk) ∧ w'.cell? ⟨bs, j * 3 + 2, none⟩ = some (.string tx)) (go_keep) (first | (go_at_call 12; refine (hKD.out _).mono ?_; rintro e w' ⟨rfl, rfl⟩) | (go_at_call 24; refine (KC.out).mono ?_; rintro e w' ⟨r, rfl, hB, hK, hD⟩; have q3 := (Hrn.out.keep hK (by decide)).cell hlt; have q4 := (Hrn.out.keep hK (by decide)).frozen j; have k4 := (hB.cell (p := ⟨bs, j * 3 + 1, none⟩) hbs).trans k2; have k5 := (hB.cell (p := ⟨bs, j * 3 + 2, none⟩) hbs).trans k3))
            go_wp2_with fail
            go_meet
            have hb1 := Hbl.out.drew.trans hB
            have rn2 := Hrn.out.keep hK (by decide)
            have rc2 := Hrc.out.keep hK (by decide)
            have rp2 := Hrp.out.keep hK (by decide)
            obtain ⟨hge, cur, hcur⟩ := rn2.block
            have e1 := rn2.set j (.pointer (some ⟨r, 0, none⟩))
            rw [row_set (pN nd) (pN (upd nd j r)) _ _ j n hlt (by simp [pN, upd_at]) (fun i hi => by simp [pN, upd_ne nd j i _ (by omega)])] at e1
            have e2 := rc2.setOther (g' := w.heap.size + 1) (by omega) j (.pointer (some ⟨r, 0, none⟩))
            have e3 := rp2.setOther (g' := w.heap.size + 1) (by omega) j (.pointer (some ⟨r, 0, none⟩))
            have e5 := hb1.setCell (p := ⟨w.heap.size + 1, j, none⟩) hge (.pointer (some ⟨r, 0, none⟩))
            rcases hD with ⟨d1, d2⟩ | ⟨d1, d2, d3⟩
            · exact ⟨r, N, ch, cnt, .inl ⟨by rw [HKEY.out]; exact d1, rfl, rfl, rfl⟩, e1, e2, e3, d2.setOther hcur (by decide) _ _, e5⟩
            · exact ⟨r, _, _, _, .inr ⟨by rw [HKEY.out]; exact d1, fun h => by have := (Htr.out.lt h).2; have d2' : wc.heap.size ≤ r := d2; omega, rfl, rfl, rfl⟩, e1, e2, e3, by rw [HKEY.out]; exact d3.setOther hcur (by decide) _ _, e5⟩
          case rest =>
            obtain ⟨r, N', ch', cnt', hdid, rn, rc, rp, tr, bl⟩ := hcut
            have HDID := hid hdid
            have x1 := rc.cell hlt
            rw [if_neg (Nat.lt_irrefl _)] at x1
            have x2 := rc.frozen j
            obtain ⟨hge, cur, hcur⟩ := rc.block
            have rc3 := rc.set j (.int .i64 (j : Int))
            rw [row_set (pC cn) (pC (upd cn j j)) _ _ j n hlt (by simp [pC, upd_at]) (fun i hi => by simp [pC, upd_ne cn j i _ (by omega)])] at rc3
            have rn3 := rn.setOther (g' := Bc) (by omega) j (.int .i64 (j : Int))
            have rp3 := rp.setOther (g' := Bc) (by omega) j (.int .i64 (j : Int))
            have tr3 := tr.setOther hcur (by decide) j (.int .i64 (j : Int))
            have bl3 := bl.setCell (p := ⟨Bc, j, none⟩) hge (.int .i64 (j : Int))
            have Grn := hid rn3
            have Grc := hid rc3
            have Grp := hid rp3
            have Gtr := hid tr3
            have Gbl := hid bl3
            clear hdid rn rc rp tr bl rc3 rn3 rp3 tr3 bl3 hcur KC Hrn Hrc Hrp Htr Hbl q1 q2 hKD k1 k2 k3 p1 p2
            go_wp2
            generalize wc.setCell ⟨Bc, j, none⟩ (.int .i64 (j : Int)) = WY at *
            clear x1 x2
            go_loopg [13] j (fun g iv wx => ∃ i, g = j - i ∧ i ≤ j ∧ iv = .int .i64 (i : Nat) ∧ (∀ i', i' < i → ¬ (cp i' = c0 ∧ keyS (st i') = keyS (st j))) ∧ Below WY.heap.size WY wx)
            case atStart => exact ⟨0, rfl, Nat.zero_le _, rfl, fun i' h => by omega, Below.refl _ _⟩
            case round =>
              obtain ⟨i, hg2, hij, rfl, hno, hbw⟩ := hrel
              have HG2 := hid hg2
              have HNO := hid hno
              have HBW := hid hbw
              clear hg2 hno hbw
              by_cases hil : i < j
              · have e1 := (Grp.out.of_block (HBW.out.block _ (by obtain ⟨_, _, h⟩ := Grp.out.block; exact (Array.getElem?_eq_some_iff.1 h).1)))
                have e2 := e1.cell (i := i) (by omega)
                have e3 := e1.cell (i := j) hlt
                rw [if_pos (by omega)] at e2
                rw [if_pos (by omega)] at e3
                unfold pP at e2 e3
                rw [upd_ne cp j i _ (by omega)] at e2
                rw [upd_at] at e3
                clear e1
                have j1 : (i : Int) < (n : Int) := by omega
                by_cases hcc : cp i = c0
                · have g0 : (opI (cp i) == opI c0) = true := by rw [hcc]; simp
                  have HCC := hid hcc
                  clear hcc
                  have bw := Gbl.out.trans (HBW.out.mono Gbl.out.size)
                  obtain ⟨t1, t2, t3⟩ := HS.out i (by omega)
                  obtain ⟨v1, v2, v3⟩ := HS.out j hlt
                  have t1 := cell_later bw t1
                  have t2 := cell_later bw t2
                  have t3 := cell_later bw t3
                  have v1 := cell_later bw v1
                  have v2 := cell_later bw v2
                  have v3 := cell_later bw v3
                  have hlw := bw.size
                  have SAME := hid (show ∀ W, Calls Try.prog 25 #[.agg #[.int .i64 (st i).par, .int .i64 (st i).kind, .string (st i).text], .agg #[.int .i64 (st j).par, .int .i64 (st j).kind, .string (st j).text]] W fun e w' => e = .returned (.bool (sameS (st i) (st j))) ∧ Below W.heap.size W w' from fun W => same_any (st i) (st j) W)
                  have HSM := hid (show sameS (st i) (st j) = true ↔ keyS (st i) = keyS (st j) by simp [sameS])
                  generalize sameS (st i) (st j) = sm at *
                  generalize (st i).par = pi at *
                  generalize (st i).kind = ki at *
                  generalize (st i).text = ti at *
                  generalize hpj2 : (st j).par = pj at *
                  have HPJ2 := hid hpj2
                  clear hpj2
                  generalize (st j).kind = kj at *
                  generalize (st j).text = tj at *
                  generalize opI (cp i) = y1 at *
                  generalize opI c0 = y2 at *
                  clear bw
                  go_wp2
                  go_region_held3 (fun w' => w'.cell? ⟨Bp, i, none⟩ = some (.int .i64 y1) ∧ w'.cell? ⟨Bp, j, none⟩ = some (.int .i64 y2) ∧ w'.cell? ⟨bs, i * 3, none⟩ = some (.int .i64 pi) ∧ w'.cell? ⟨bs, i * 3 + 1, none⟩ = some (.int .i64 ki) ∧ w'.cell? ⟨bs, i * 3 + 2, none⟩ = some (.string ti) ∧ w'.cell? ⟨bs, j * 3, none⟩ = some (.int .i64 pj) ∧ w'.cell? ⟨bs, j * 3 + 1, none⟩ = some (.int .i64 kj) ∧ w'.cell? ⟨bs, j * 3 + 2, none⟩ = some (.string tj)) (go_keep) (first | (go_at_call 25; refine (SAME.out _).mono ?_; rintro e w' ⟨rfl, hb⟩; have m1 := cell_later hb e2; have m2 := cell_later hb e3; have m3 := cell_later hb t1; have m4 := cell_later hb t2; have m5 := cell_later hb t3; have m6 := cell_later hb v1; have m7 := cell_later hb v2; have m8 := cell_later hb v3))
                  have hb2 := hid (show Below WY.heap.size WY w' from HBW.out.drew.trans (hb.mono HBW.out.size))
                  clear m1 m2 m3 m4 m5 m6 m7 m8 hb e2 e3 t1 t2 t3 v1 v2 v3 SAME
                  cases sm with
                  | false =>
                    have hno2 := hid (show ∀ i', i' < i + 1 → ¬ (cp i' = c0 ∧ keyS (st i') = keyS (st j)) from fun i' h => by
                      by_cases e : i' < i
                      · exact HNO.out i' e
                      · have : i' = i := by omega
                        subst this; exact fun h => by have := HSM.out.2 h.2; cases this)
                    go_wp2
                    go_roundg (j - (i + 1))
                    case measure => have := HG2.out; omega
                    case rel => exact ⟨i + 1, rfl, by omega, by go_num, hno2.out, hb2.out⟩
                  | true =>
                    have hk := HSM.out.1 rfl
                    have rc5 := Grc.out.of_block (hb2.out.block _ (by obtain ⟨_, _, h⟩ := Grc.out.block; exact (Array.getElem?_eq_some_iff.1 h).1))
                    have y1 := rc5.cell (i := j) hlt
                    have y2 := rc5.frozen j
                    obtain ⟨hge2, cur2, hcur2⟩ := rc5.block
                    have rc6 := rc5.set j (.int .i64 (i : Int))
                    rw [row_reset (pC (upd cn j j)) (pC (upd cn j i)) _ _ j n hlt (by simp [pC, upd_at]) (fun i' hi' => by simp [pC, upd_ne cn j i' _ (by omega)])] at rc6
                    have RE := round_end HR.out.inv hc0 (by rw [HB0.out]; exact HDID.out) (m := i) HNO.out (.inr ⟨hil, HCC.out, hk⟩) ((Grn.out.of_block (hb2.out.block _ (by obtain ⟨_, _, h⟩ := Grn.out.block; exact (Array.getElem?_eq_some_iff.1 h).1))).setOther (g' := Bc) (by omega) j (.int .i64 (i : Int))) rc6 ((Grp.out.of_block (hb2.out.block _ (by obtain ⟨_, _, h⟩ := Grp.out.block; exact (Array.getElem?_eq_some_iff.1 h).1))).setOther (g' := Bc) (by omega) j (.int .i64 (i : Int))) ((Gtr.out.below hb2.out).setOther hcur2 (by decide) j (.int .i64 (i : Int))) ((Gbl.out.trans (hb2.out.mono Gbl.out.size)).setCell (p := ⟨Bc, j, none⟩) hge2 (.int .i64 (i : Int)))
                    have HRE := hid RE
                    clear RE rc5 rc6 hcur2 hge2 hk
                    go_wp2
                    go_roundg (n - (j + 1))
                    case measure => have := HG.out; omega
                    case rel =>
                      obtain ⟨nd', cn', cp', N2, ch2, cnt2, h⟩ := HRE.out
                      exact ⟨j + 1, nd', cn', cp', N2, ch2, cnt2, rfl, by omega, by go_num, h⟩
                · have g0 : (opI (cp i) == opI c0) = false := by
                    rw [beq_eq_false_iff_ne]
                    exact fun h => hcc ((opI_inj _ _).1 h)
                  have hno2 := hid (show ∀ i', i' < i + 1 → ¬ (cp i' = c0 ∧ keyS (st i') = keyS (st j)) from fun i' h => by
                    by_cases e : i' < i
                    · exact HNO.out i' e
                    · have : i' = i := by omega
                      subst this; exact fun h => hcc h.1)
                  generalize opI (cp i) = y1 at *
                  generalize opI c0 = y2 at *
                  go_wp2
                  go_quiet (fail)
                  go_wp2
                  go_roundg (j - (i + 1))
                  case measure => have := HG2.out; omega
                  case rel => exact ⟨i + 1, rfl, by omega, by go_num, hno2.out, below_drewN HBW.out _⟩
              · have hij2 : i = j := by omega
                have RE := round_end HR.out.inv hc0 (by rw [HB0.out]; exact HDID.out) (m := j) (fun i' h => HNO.out i' (by omega)) (.inl rfl) (Grn.out.of_block (HBW.out.block _ (by obtain ⟨_, _, h⟩ := Grn.out.block; exact (Array.getElem?_eq_some_iff.1 h).1))) (Grc.out.of_block (HBW.out.block _ (by obtain ⟨_, _, h⟩ := Grc.out.block; exact (Array.getElem?_eq_some_iff.1 h).1))) (Grp.out.of_block (HBW.out.block _ (by obtain ⟨_, _, h⟩ := Grp.out.block; exact (Array.getElem?_eq_some_iff.1 h).1))) (Gtr.out.below HBW.out) (Gbl.out.trans (HBW.out.mono Gbl.out.size))
                have HRE := hid RE
                clear RE hij2
                go_wp2
                go_roundg (n - (j + 1))
                case measure => have := HG.out; omega
                case rel =>
                  obtain ⟨nd', cn', cp', N2, ch2, cnt2, h⟩ := HRE.out
                  exact ⟨j + 1, nd', cn', cp', N2, ch2, cnt2, rfl, by omega, by go_num, h⟩
    · have hjn2 : j = n := by omega
      subst hjn2
      go_wp2
      exact bodyPost_ret (v := .tuple #[.pointer (some ⟨w.heap.size, 0, none⟩), .slice (some ⟨w.heap.size + 1, 0, none⟩) j j, .slice (some ⟨Bc, 0, none⟩) j j, .slice (some ⟨Bp, 0, none⟩) j j]) (by simp [results, Try.results10, go_sem]) rfl ⟨Bc, Bp, nd, cn, cp, N, ch, cnt, rfl, HR.out⟩
end Go.Proofs.Qxb6600448a

import Derived.Test.Qxb6600445aInv
namespace Go.Proofs.Qxb6600445a
open Go.RowKit
open Go.Maps (Keyed)
set_option linter.unusedVariables false

set_option maxRecDepth 100000 in
set_option maxHeartbeats 40000000 in
theorem round_write (n bo : Nat) (tx : Nat → ByteArray) (act : Nat → Int) (it : Nat → ByteArray) (w : World) (hn : n ≤ 4096) (hbo : bo < w.heap.size) (hO : OpsAt w bo n tx act it) (hwf : WF tx act n) (h0 : ∀ j, 0 ≤ act j) (ht : ∀ j, (tx j).size ≤ maxLen) (hi : ∀ j, (it j).size ≤ maxLen)
    (M1 M2 M3 : Nat) (hM1 : w.heap.size + 1 = M1) (hM2 : w.heap.size + 1 + 1 = M2) (hM3 : w.heap.size + 1 + 1 + 1 = M3) (gk : Nat) (wr : World) (k0 c : Nat) (X : ByteArray → Option Nat) (ob : ByteArray → Nat) (Wl : ByteArray → List ByteArray) (vW vR vP : ByteArray → Value) (hlt : k0 < n) (hgk : gk = n - k0) (hrel : Rel tx act it w.heap.size w wr k0 c X ob Wl vW vR vP) (hop : isOp (act k0) = true) (hend : ¬ isEnd (act k0) = true) (hsel : act k0 = 2)
    (J : Nat → Act → World → Prop) (K : Act → World → Prop) (hJ : ∀ k a' w', Inv31 tx act it w n bo M1 M2 M3 k a' w' → J k a' w') (hK : ∀ a' w', Handed J gk a' w' → K a' w') (K1 : Act → World → Prop) (RR : Ending → World → Prop) (u10 u11 u12 u13 u14 u15 u17 u19 u27 u28 u29 u30 u31 u32 u33 u34 u35 u36 u37 u38 u39 u40 u41 u42 u43 u44 u45 u46 u47 u48 u49 u50 u51 u52 u53 u54 u55 u56 u57 u58 u59 u60 u61 u62 u63 u64 u65 u66 u67 u68 u69 u70 u71 u72 u73 u74 u75 u76 u77 u78 u79 u80 u81 u82 u83 u84 u85 u86 u87 u88 u89 u90 u91 u92 u93 u94 u95 u96 u97 u98 u99 u100 u101 u102 u103 u104 u105 u106 u107 u108 u109 u110 u111 u112 u113 u114 u115 u116 u117 u118 u119 u120 u121 u122 u123 u124 u125 u126 u127 u128 u129 u130 u131 u132 u133 u134 u135 u136 u137 u138 u139 u140 u141 u142 u143 u144 u145 u146 u147 u148 u149 u150 u151 u152 u153 u154 u155 u156 u157 u158 u159 u160 u161 u162 u163 u164 u165 u166 u167 u168 u169 u170 u171 u172 u173 u174 u175 u176 u177 u178 u179 u180 u181 u182 u183 u184 u185 u186 u187 u188 u189 u190 u191 u192 u193 u194 u195 u196 u197 u198 u199 u200 u201 u202 u203 u204 u205 u206 u207 u208 u209 u210 u211 u212 u213 u214 u215 u216 u217 u218 u219 u220 u221 u222 u223 u224 u225 u226 u227 u228 u229 u230 u231 u232 u233 u234 u235 u236 u237 u238 u239 u240 u241 u242 : Value) : Code.wp Try.prog C31 (Exit.then K (Exit.inBlock 0 (Exit.then K1 (bodyPost Try.prog Try.f31 RR)))) { tmps := #[.slice (some ⟨bo, 0, none⟩) n n, undef, .bool (allTo (okR tx act it) k0), .bool (allTo (okC tx act it) k0), .bool (allTo (okS tx act it) k0), .map (some w.heap.size), .map (some M1), .map (some M2), .map (some M3), undef, u10, u11, u12, u13, u14, u15, undef, u17, undef, u19, .map (some w.heap.size), .map (some M1), .map (some M2), .map (some M3), .slice (some ⟨bo, 0, none⟩) n n, .int .i64 (n : Nat), .int .i64 (k0 : Nat), u27, u28, u29, u30, u31, u32, u33, u34, u35, u36, u37, u38, u39, u40, u41, u42, u43, u44, u45, u46, u47, u48, u49, u50, u51, u52, u53, u54, u55, u56, u57, u58, u59, u60, u61, u62, u63, u64, u65, u66, u67, u68, u69, u70, u71, u72, u73, u74, u75, u76, u77, u78, u79, u80, u81, u82, u83, u84, u85, u86, u87, u88, u89, u90, u91, u92, u93, u94, u95, u96, u97, u98, u99, u100, u101, u102, u103, u104, u105, u106, u107, u108, u109, u110, u111, u112, u113, u114, u115, u116, u117, u118, u119, u120, u121, u122, u123, u124, u125, u126, u127, u128, u129, u130, u131, u132, u133, u134, u135, u136, u137, u138, u139, u140, u141, u142, u143, u144, u145, u146, u147, u148, u149, u150, u151, u152, u153, u154, u155, u156, u157, u158, u159, u160, u161, u162, u163, u164, u165, u166, u167, u168, u169, u170, u171, u172, u173, u174, u175, u176, u177, u178, u179, u180, u181, u182, u183, u184, u185, u186, u187, u188, u189, u190, u191, u192, u193, u194, u195, u196, u197, u198, u199, u200, u201, u202, u203, u204, u205, u206, u207, u208, u209, u210, u211, u212, u213, u214, u215, u216, u217, u218, u219, u220, u221, u222, u223, u224, u225, u226, u227, u228, u229, u230, u231, u232, u233, u234, u235, u236, u237, u238, u239, u240, u241, u242, undef, undef, undef], defers := [] } wr := by
  let Q1 := bodyPost Try.prog Try.f31 RR
  change Code.wp Try.prog C31 (Exit.then K (Exit.inBlock 0 (Exit.then K1 Q1))) _ _
  have HO := hid hO
  have HWF := hid hwf
  have HT := hid ht
  have HI := hid hi
  have H0 := hid h0
  have HJ := hid hJ
  clear hJ
  have E1 := hid hM1
  have E2 := hid hM2
  have E3 := hid hM3
  clear hO hwf ht hi h0 hM1 hM2 hM3
  have HG := hid hgk
  have HR := hid hrel
  clear hgk hrel
  simp only [C31, cL, cR, cB, cP, Try.f31, Option.getD_some]
  have i1 : (k0 : Int) < (n : Int) := by omega
  obtain ⟨o1, o2, o3⟩ := HO.out k0 hlt
  have k1 := cell_later HR.out.bel o1
  have k2 := cell_later HR.out.bel o2
  have k3 := cell_later HR.out.bel o3
  clear o1 o2 o3
  have a0 := H0.out k0
  have hopen := wf_open HWF.out hlt hop
  have HSEL := hid (show ∀ i, i = k0 → act i = 2 from fun i h => by rw [h]; exact hsel)
  clear hsel
  -- read or write
  have hrw : act k0 = 1 ∨ act k0 = 2 := by
    unfold isOp at hop
    unfold isEnd at hend
    simp at hop hend
    omega
  have HRW := hid hrw
  have HOP := hid hopen
  have LI := hid (fun (W : World) (h : W = wr.alloc (box (tx k0) (act k0) (it k0))) => (show St w.heap.size wr.heap.size w W c X ob (fun t => eAt tx act t k0) (fun x t => opn tx act it x k0 t) Wl (RFm tx act it k0) (WRm tx act it k0) vW vR vP (tx k0) (act k0) (it k0) from by
    subst h
    have hb : Below wr.heap.size wr (wr.alloc (box (tx k0) (act k0) (it k0))) := (Below.refl _ _).alloc (Nat.le_refl _) _
    exact ⟨HR.out.mem.below hb, heap_alloc_new _ _, HR.out.bel.trans (hb.mono (by have := HR.out.mem.size; omega))⟩))
  have hlk := (LI.out _ rfl).lookItems (HI.out k0)
  have hmm := @run_makeMap Try.prog
  generalize hak : act k0 = ak at *
  generalize htk : tx k0 = tk at *
  generalize hik : it k0 = ik at *
  have HAK := hid hak
  have HTK := hid htk
  have HIK := hid hik
  clear hak htk hik hop hend hopen
  go_upto_if 32 with fail
  go_cut [32] from 33 to 34 (fun s wx => s = .bool true ∧ wx = wr.alloc (box tk ak ik))
  case first => as_aux_lemma =>
    rcases hrw with rfl | rfl
    · go_wp2
      go_meet
      exact ⟨rfl, rfl⟩
    · go_wp2
      go_meet
      exact ⟨rfl, rfl⟩
  case rest =>
    obtain ⟨rfl, rfl⟩ := hcut
    obtain ⟨bx0, bx1, bx2⟩ := (LI.out _ rfl).boxCells
    have bxl := getElem_lt (LI.out _ rfl).box
    obtain ⟨eq1, eq2⟩ := eq_nil (wr.alloc (box tk ak ik)) (X ik)
    go_upto_if 40 with fail
    have LJ := hid (LI.out _ rfl)
    have NOX := hid HR.out.nox
    have CLE := hid HR.out.cle
    have WIN := hid HR.out.win
    have hc0 := hid (show c < 1000000 from by have := CLE.out; omega)
    clear LI HR hrw hlk eq1 eq2 k1 k2 k3
    generalize wr.heap.size = nb at *
    generalize wr.alloc (box tk ak ik) = wa at *
    clear wr
    go_cut [11] from 35 to 47 (fun fv wx => ∃ c' X' ob' b, c' ≤ c + 1 ∧ X' ik = some b ∧ fv = .pointer (some ⟨b, 0, none⟩) ∧ (∀ x, X' x = none → hist tx act it x k0 = []) ∧ St w.heap.size nb w wx c' X' ob' (fun t => eAt tx act t k0) (fun x t => opn tx act it x k0 t) Wl (RFm tx act it k0) (WRm tx act it k0) vW vR vP tk ak ik)
    case first => as_aux_lemma =>
      cases hx : X ik with
      | some b =>
        go_wp2
        go_meet
        exact ⟨c, X, ob, b, by omega, hx, rfl, NOX.out, LJ.out⟩
      | none =>
        obtain ⟨w', hup, hst⟩ := LJ.out.newItem (by have := HI.out k0; rw [HIK.out] at this; exact this) hx hc0.out
        have HST := hid hst
        unfold item nilS pt at hup
        clear hst
        go_wp2
        go_meet
        refine ⟨c + 1, _, _, wa.heap.size + 1, Nat.le_refl _, up_at _ _ _, rfl, fun x h => NOX.out x ?_, HST.out⟩
        by_cases e : x = ik
        · rw [e]; exact hx
        · rw [up_ne _ _ _ _ e] at h; exact h
    case rest =>
      clear bx0 bx1 bx2 bxl hmm LJ NOX
      obtain ⟨c', X', ob', b, hcc, hxb, rfl, hnox, hst⟩ := hcut
      have NOX := hid hnox
      have LJ := hid hst
      have HXB := hid hxb
      clear hnox hst
      clear X ob
      obtain ⟨bx0, bx1, bx2⟩ := LJ.out.boxCells
      obtain ⟨ix0, ix1, ixf⟩ := LJ.out.itemCells hxb
      obtain ⟨m, hmc, hlen, htest⟩ := LJ.out.lenOpen hxb (fun y h => opn_size HT.out ik y k0 h) tk
      have hlo : ∀ q, (Instr.lookup 65 (.map (some (ob' ik))) (.string tk) false).run Try.prog (wc.drewN q) = .ok (.bool (opn tx act it ik k0 tk)) (wc.drewN q) := fun q => (LJ.out.below (below_drewN _ q)).lookOpen hxb (by have := HT.out k0; rw [HTK.out] at this; exact this)
      have HTEST := hid (show (1 < m ∨ (m = 1 ∧ opn tx act it ik k0 tk = false)) ↔ okS tx act it k0 = false from by
        rw [htest]
        have h1 := okS_test (tx := tx) (it := it) (k := k0) (act := act) (by rw [HAK.out]; exact HRW.out)
        rw [HTK.out, HIK.out] at h1
        cases ho : okS tx act it k0 with
        | true => rw [ho] at h1; simp at h1 ⊢; exact h1
        | false => rw [ho] at h1; simp at h1 ⊢; exact h1)
      clear htest hxb
      generalize opn tx act it ik k0 tk = on at *
      generalize hok : okS tx act it k0 = ok at *
      have HOK := hid hok
      clear hok
      generalize ob' ik = ox at *
      go_upto_region 17 with fail
      clear hlen
      go_cut [68] from 53 to 67 (fun bv wx => bv = .bool (!ok) ∧ ∃ q, wx = wc.drewN q)
      case first => as_aux_lemma =>
        have hm : m = 0 ∨ m = 1 ∨ 1 < m := by omega
        rcases hm with rfl | rfl | hm
        · have e := hid (show ok = true from by have := HTEST.out; cases ok <;> simp at this ⊢)
          go_quiet (fail)
          go_wp2_with fail
          go_meet
          exact ⟨by rw [e.out]; rfl, _, rfl⟩
        · have e := hid (show ok = on from by have := HTEST.out; cases ok <;> cases on <;> simp at this ⊢)
          cases on
          · go_quiet (fail)
            go_wp2_with fail
            go_meet
            exact ⟨by rw [e.out]; rfl, _, rfl⟩
          · go_quiet (fail)
            go_wp2_with fail
            go_meet
            exact ⟨by rw [e.out]; rfl, _, rfl⟩
        · have e := hid (show ok = false from HTEST.out.1 (.inl hm))
          have i2 : (1 : Int) < (m : Int) := by omega
          go_quiet (fail)
          go_wp2_with fail
          go_meet
          exact ⟨by rw [e.out]; rfl, _, rfl⟩
      case rest =>
        obtain ⟨rfl, q, rfl⟩ := hcut
        have LK := hid (LJ.out.below (below_drewN _ q))
        clear bx0 bx1 bx2 ix0 ix1 ixf hlo LJ HTEST hmc
        generalize wc.drewN q = wd at *
        clear wc
        go_upto_if 68 with fail
        go_cut [4] from 68 to 68 (fun sv wx => sv = .bool (allTo (okS tx act it) (k0 + 1)) ∧ wx = wd)
        case first => as_aux_lemma =>
          have EA := hid (show allTo (okS tx act it) (k0 + 1) = (allTo (okS tx act it) k0 && ok) from by rw [← HOK.out]; rfl)
          cases ok
          · go_wp2
            go_meet
            exact ⟨by rw [EA.out]; simp, rfl⟩
          · go_wp2
            go_meet
            exact ⟨by rw [EA.out]; simp, rfl⟩
        case rest =>
          obtain ⟨rfl, rfl⟩ := hcut
          obtain ⟨bx0, bx1, bx2⟩ := LK.out.boxCells
          obtain ⟨ix0, ix1, ixf⟩ := LK.out.itemCells HXB.out
          have hlen : ∀ ty, (Builtin.len_ #[39] ty #[vW ik]).run Try.prog wc = .ok (.int .i64 ((Wl ik).length : Nat)) wc := fun ty => row_len (LK.out.mem.rowW ik) Try.underlying39 ty
          obtain ⟨L, hL⟩ : ∃ L, (Wl ik).length = L := ⟨_, rfl⟩
          have HL := hid hL
          have HLC := hid (show L ≤ 1000000 from by have := (LK.out.mem.lens ik).1; have := hc0.out; omega)
          rw [hL] at hlen
          clear hL
          have HHC := hid (show c' ≤ 4 * k0 + 1 from by have := CLE.out; omega)
          clear hcc CLE
          by_cases h2 : ak = 2
          · subst h2
            go_upto_region 21 with fail
            go_cut [91] from 77 to 90 (fun bv wx => (∃ q, wx = wc.drewN q) ∧ bv = .bool (decide (¬ (Wl ik).getLast? = some tk)))
            case first => as_aux_lemma =>
              cases L with
              | zero =>
                have hd := hid (show decide (¬ (Wl ik).getLast? = some tk) = true from by
                  have := HL.out
                  rw [List.length_eq_zero_iff] at this
                  rw [this]; simp)
                clear hlen
                go_quiet (fail)
                go_wp2_with fail
                go_meet
                exact ⟨⟨_, rfl⟩, by rw [hd.out]⟩
              | succ L' =>
                have hrow := LK.out.mem.rowW ik
                rw [HL.out] at hrow
                obtain ⟨g, cap, hv, hcap, hgB, hgl, hcell⟩ := row_at hrow (by omega)
                have lc := hcell L' (.string ((Wl ik).getD L' ByteArray.empty)) (by omega) (strs_at _ _ (by rw [HL.out]; omega))
                have hlast := hid (show (Wl ik).getLast? = some ((Wl ik).getD L' ByteArray.empty) from by
                  rw [List.getLast?_eq_getElem?, HL.out, List.getD_eq_getElem?_getD]
                  have : L' < (Wl ik).length := by rw [HL.out]; omega
                  simp [this])
                generalize (Wl ik).getD L' ByteArray.empty = la at *
                rw [hv] at ix0 hlen
                clear hv hrow hcell hlen
                have b1 : L' ≤ 1000000 := by have := HLC.out; omega
                have b2 : (L' : Int) ≤ 1000000 := by omega
                have b3 : ((L' : Int) + 1 == 0) = false := by simp; omega
                have b4 : (L' : Int) < (L' : Int) + 1 := by omega
                by_cases hs : la = tk
                · have q := sEq_t hs
                  have hd := hid (show decide (¬ (Wl ik).getLast? = some tk) = false from by rw [hlast.out, hs]; simp)
                  clear hs
                  go_quiet (fail)
                  go_wp2_with fail
                  go_meet
                  exact ⟨⟨_, rfl⟩, by rw [hd.out]⟩
                · have q := sEq_f hs
                  have hd := hid (show decide (¬ (Wl ik).getLast? = some tk) = true from by rw [hlast.out]; simpa using hs)
                  clear hs
                  go_quiet (fail)
                  go_wp2_with fail
                  go_meet
                  exact ⟨⟨_, rfl⟩, by rw [hd.out]⟩
            case rest =>
              obtain ⟨⟨q, rfl⟩, rfl⟩ := hcut
              have LM := hid (LK.out.below (below_drewN _ q))
              clear bx0 bx1 bx2 ix0 ix1 ixf hlen LK
              generalize wc.drewN q = we at *
              clear wc
              obtain ⟨bx0, bx1, bx2⟩ := LM.out.boxCells
              obtain ⟨ix0, ix1, ixf⟩ := LM.out.itemCells HXB.out
              generalize hnl : decide (¬ (Wl ik).getLast? = some tk) = nl at *
              have HNL := hid hnl
              clear hnl
              go_upto_if 91 with fail
              go_cut [] from 91 to 102 (fun wx => ∃ c2 l2 v2, c2 ≤ c' + 1 ∧ ((l2 = Wl ik ∧ (Wl ik).getLast? = some tk) ∨ l2 = Wl ik ++ [tk]) ∧ St w.heap.size nb w wx c2 X' ob' (fun t => eAt tx act t k0) (fun x t => opn tx act it x k0 t) (up Wl ik l2) (RFm tx act it k0) (WRm tx act it k0) (up vW ik v2) vR vP tk 2 ik)
              case first => as_aux_lemma =>
                cases nl
                · have HLA := hid (show (Wl ik).getLast? = some tk from by have := HNL.out; simpa using this)
                  go_wp2
                  go_meet
                  exact ⟨c', Wl ik, vW ik, by omega, .inl ⟨rfl, HLA.out⟩, by rw [up_same, up_same]; exact LM.out⟩
                · obtain ⟨g, cap, w1, hr, hc1, hf1, hst⟩ := (LM.out.below (w' := we.drew) ((Below.refl _ _).drew)).pushW HXB.out tk (by have := HHC.out; omega)
                  have HST := hid hst
                  rw [HL.out] at hr HST
                  have hr' : (Builtin.append_ #[39, 39] 39 #[vW ik, .slice (some ⟨we.heap.size, 0, none⟩) 1 1]).run Try.prog (we.alloc (.cells #[.string tk] 44)).drew = .ok (.slice (some ⟨g, 0, none⟩) (L + 1) cap) w1 := hr
                  have l1 := getElem_lt LM.out.box
                  have l2 := getElem_lt (LM.out.mem.itm ik b HXB.out).1
                  have n1 : ¬ b = we.heap.size := by omega
                  have n2 : ¬ we.heap.size = b := by omega
                  have n3 : ¬ nb = we.heap.size := by omega
                  have n4 : ¬ we.heap.size = nb := by omega
                  clear hst hr
                  go_wp2
                  go_region_law (refine step_append_run _ (by rfl) _ _ 39 (by rfl) _ _ _ (by rfl) (by rfl) _ hr' ?_)
                  all_goals
                    go_wp2_with fail
                    go_meet
                    exact ⟨c' + 1, _, _, Nat.le_refl _, .inr rfl, HST.out⟩
              case rest =>
                obtain ⟨c2, l2, v2, hc2, hl2, hst⟩ := hcut
                have HL2 := hid hl2
                have LN := hid hst
                have HC2 := hid hc2
                clear hl2 hst hc2 bx0 bx1 bx2 ix0 ix1 ixf LM
                clear we
                obtain ⟨bx0, bx1, bx2⟩ := LN.out.boxCells
                obtain ⟨ix0, ix1, ixf⟩ := LN.out.itemCells HXB.out
                have TKS := hid (show tk.size ≤ maxLen from by have := HT.out k0; rw [HTK.out] at this; exact this)
                have hlo : ∀ q, (Instr.lookup 65 (.map (some (ob' ik))) (.string tk) false).run Try.prog (wc.drewN q) = .ok (.bool (opn tx act it ik k0 tk)) (wc.drewN q) := fun q => (LN.out.below (below_drewN _ q)).lookOpen HXB.out TKS.out
                go_upto_region 23 with fail
                go_cut [110] from 103 to 109 (fun bv wx => (∃ q, wx = wc.drewN q) ∧ bv = .bool (!(opn tx act it ik k0 tk)))
                case first => as_aux_lemma =>
                  go_quiet (fail)
                  go_wp2_with fail
                  go_meet
                  exact ⟨⟨_, rfl⟩, rfl⟩
                case rest =>
                  obtain ⟨⟨q, rfl⟩, rfl⟩ := hcut
                  have LO := hid (LN.out.below (below_drewN _ q))
                  clear bx0 bx1 bx2 ix0 ix1 ixf LN hlo
                  generalize wc.drewN q = wf at *
                  clear wc
                  have FL := hid (flags_write (tx := tx) (it := it) HAK.out)
                  cases hon : opn tx act it ik k0 tk with
                  | true =>
                    have HON := hid hon
                    go_wp2
                    refine Handed.intro (n - (k0 + 1)) ?measure ?_
                    rotate_left
                    apply HJ.out
                    unfold Inv31
                    (repeat apply Exists.intro)
                    refine ⟨?rel, rfl⟩
                    case measure => have := HG.out; omega
                    case rel =>
                      refine ⟨k0 + 1, _, _, _, _, _, _, _, by omega, rfl, by go_num, ?_, ?_, rfl, rel_write_old (t := tk) (a := 2) (x := ik) HAK.out (by rw [HTK.out]; exact HOP.out) (by rw [HIK.out]; exact HXB.out) WIN.out (by rw [HIK.out, HTK.out]; exact HL2.out) NOX.out ?_ (by rw [HIK.out, HTK.out]; exact HON.out) (by rw [HIK.out]; exact LO.out)⟩
                      · show _ = Value.bool (_ && okR tx act it k0); rw [FL.out.1, Bool.and_true]
                      · show _ = Value.bool (_ && okC tx act it k0); rw [FL.out.2, Bool.and_true]
                      · have := HC2.out; have := HHC.out; omega
                  | false =>
                    have HON := hid hon
                    obtain ⟨bx0, bx1, bx2⟩ := LO.out.boxCells
                    obtain ⟨ix0, ix1, ixf⟩ := LO.out.itemCells HXB.out
                    go_upto_region 24 with fail
                    go_cut [] from 110 to 116 (fun wx => St w.heap.size nb w wx (c2 + 1) X' ob' (fun t => eAt tx act t k0) (up (fun x t => opn tx act it x k0 t) ik (up (fun t => opn tx act it ik k0 t) tk true)) (up Wl ik l2) (RFm tx act it k0) (WRm tx act it k0) (up vW ik v2) vR vP tk 2 ik)
                    case first => as_aux_lemma =>
                      obtain ⟨w1, hr, hst⟩ := (LO.out.below (w' := wf.drew) ((Below.refl _ _).drew)).putOpen HXB.out TKS.out (by have := HC2.out; have := HHC.out; omega)
                      have HST := hid hst
                      clear hst
                      go_region
                      all_goals
                        go_wp2_with fail
                        go_meet
                        exact HST.out
                    case rest =>
                      have LP := hid hcut
                      clear hcut bx0 bx1 bx2 ix0 ix1 ixf LO
                      clear wf
                      obtain ⟨bx0, bx1, bx2⟩ := LP.out.boxCells
                      obtain ⟨g, cap, w1, w2, hr, hbx, hup, hst⟩ := (LP.out.below (w' := wc.drew) ((Below.refl _ _).drew)).addWrote HXB.out TKS.out (by have := HC2.out; have := HHC.out; omega)
                      have hr' : (Builtin.append_ #[68, 68] 68 #[vP tk, .slice (some ⟨wc.heap.size, 0, none⟩) 1 1]).run Try.prog (wc.alloc (.cells #[.pointer (some ⟨b, 0, none⟩)] 64)).drew = .ok (.slice (some ⟨g, 0, none⟩) ((WRm tx act it k0 tk).length + 1) cap) w1 := hr
                      have l1 := getElem_lt LP.out.box
                      have n3 : ¬ nb = wc.heap.size := by omega
                      have n4 : ¬ wc.heap.size = nb := by omega
                      have k1 : w1.cell? ⟨nb, 0, none⟩ = some (.string tk) := cell_of_row w1 nb 0 _ 47 _ hbx
                      have lk1 := (LP.out.below (w' := wc.drew) ((Below.refl _ _).drew)).lookWrote TKS.out
                      have lk2 : (Instr.lookup 62 (.map (some (w.heap.size + 2))) (.string tk) false).run Try.prog (wc.alloc (.cells #[.pointer (some ⟨b, 0, none⟩)] 64)).drew = .ok (vP tk) (wc.alloc (.cells #[.pointer (some ⟨b, 0, none⟩)] 64)).drew := (LP.out.below (w' := (wc.drew.alloc (.cells #[.pointer (some ⟨b, 0, none⟩)] 64))) (((Below.refl _ _).drew).alloc (Nat.le_refl _) _)).lookWrote TKS.out
                      rw [show w.heap.size + 2 = _ from E2.out] at lk1 lk2 hup
                      have HST := hid hst
                      clear hst hr hbx
                      go_upto_region 25 with fail
                      go_region_law (refine step_append_run _ (by rfl) _ _ 68 (by rfl) _ _ _ (by rfl) (by rfl) _ hr' ?_)
                      all_goals
                        go_wp2
                        refine Handed.intro (n - (k0 + 1)) ?measure ?_
                        rotate_left
                        apply HJ.out
                        unfold Inv31
                        (repeat apply Exists.intro)
                        refine ⟨?rel, rfl⟩
                        case measure => have := HG.out; omega
                        case rel =>
                          refine ⟨k0 + 1, _, _, _, _, _, _, _, by omega, rfl, by go_num, ?_, ?_, rfl, rel_write_new (t := tk) (a := 2) (x := ik) HAK.out (by rw [HTK.out]; exact HOP.out) (by rw [HIK.out]; exact HXB.out) WIN.out (by rw [HIK.out, HTK.out]; exact HL2.out) NOX.out ?_ (by rw [HIK.out, HTK.out]; exact HON.out) (by rw [HIK.out, HTK.out]; exact HST.out)⟩
                          · show _ = Value.bool (_ && okR tx act it k0); rw [FL.out.1, Bool.and_true]
                          · show _ = Value.bool (_ && okC tx act it k0); rw [FL.out.2, Bool.and_true]
                          · have := HC2.out; have := HHC.out; omega
          · exact absurd (HAK.out.symm.trans (HSEL.out k0 rfl)) h2
end Go.Proofs.Qxb6600445a

import Derived.Test.Qxb6600445aInv
namespace Go.Proofs.Qxb6600445a
open Go.RowKit
open Go.Maps (Keyed)
set_option linter.unusedVariables false

set_option maxRecDepth 100000 in
set_option maxHeartbeats 40000000 in
theorem round_end (n bo : Nat) (tx : Nat → ByteArray) (act : Nat → Int) (it : Nat → ByteArray) (w : World) (hn : n ≤ 4096) (hbo : bo < w.heap.size) (hO : OpsAt w bo n tx act it) (hwf : WF tx act n) (h0 : ∀ j, 0 ≤ act j) (ht : ∀ j, (tx j).size ≤ maxLen) (hi : ∀ j, (it j).size ≤ maxLen)
    (M1 M2 M3 : Nat) (hM1 : w.heap.size + 1 = M1) (hM2 : w.heap.size + 1 + 1 = M2) (hM3 : w.heap.size + 1 + 1 + 1 = M3) (gk : Nat) (wr : World) (k0 c : Nat) (X : ByteArray → Option Nat) (ob : ByteArray → Nat) (Wl : ByteArray → List ByteArray) (vW vR vP : ByteArray → Value) (hlt : k0 < n) (hgk : gk = n - k0) (hrel : Rel tx act it w.heap.size w wr k0 c X ob Wl vW vR vP) (hop : isOp (act k0) = true) (hend : isEnd (act k0) = true)
    (J : Nat → Act → World → Prop) (K : Act → World → Prop) (hJ : ∀ k a' w', Inv31 tx act it w n bo M1 M2 M3 k a' w' → J k a' w') (hK : ∀ a' w', Handed J gk a' w' → K a' w') (QQ : Exit → Act → World → Prop) (u10 u11 u12 u13 u14 u15 u17 u19 u27 u28 u29 u30 u31 u32 u33 u34 u35 u36 u37 u38 u39 u40 u41 u42 u43 u44 u45 u46 u47 u48 u49 u50 u51 u52 u53 u54 u55 u56 u57 u58 u59 u60 u61 u62 u63 u64 u65 u66 u67 u68 u69 u70 u71 u72 u73 u74 u75 u76 u77 u78 u79 u80 u81 u82 u83 u84 u85 u86 u87 u88 u89 u90 u91 u92 u93 u94 u95 u96 u97 u98 u99 u100 u101 u102 u103 u104 u105 u106 u107 u108 u109 u110 u111 u112 u113 u114 u115 u116 u117 u118 u119 u120 u121 u122 u123 u124 u125 u126 u127 u128 u129 u130 u131 u132 u133 u134 u135 u136 u137 u138 u139 u140 u141 u142 u143 u144 u145 u146 u147 u148 u149 u150 u151 u152 u153 u154 u155 u156 u157 u158 u159 u160 u161 u162 u163 u164 u165 u166 u167 u168 u169 u170 u171 u172 u173 u174 u175 u176 u177 u178 u179 u180 u181 u182 u183 u184 u185 u186 u187 u188 u189 u190 u191 u192 u193 u194 u195 u196 u197 u198 u199 u200 u201 u202 u203 u204 u205 u206 u207 u208 u209 u210 u211 u212 u213 u214 u215 u216 u217 u218 u219 u220 u221 u222 u223 u224 u225 u226 u227 u228 u229 u230 u231 u232 u233 u234 u235 u236 u237 u238 u239 u240 u241 u242 : Value) : Code.wp Try.prog C31 (Exit.then K QQ) { tmps := #[.slice (some ⟨bo, 0, none⟩) n n, undef, .bool (allTo (okR tx act it) k0), .bool (allTo (okC tx act it) k0), .bool (allTo (okS tx act it) k0), .map (some w.heap.size), .map (some M1), .map (some M2), .map (some M3), undef, u10, u11, u12, u13, u14, u15, undef, u17, undef, u19, .map (some w.heap.size), .map (some M1), .map (some M2), .map (some M3), .slice (some ⟨bo, 0, none⟩) n n, .int .i64 (n : Nat), .int .i64 (k0 : Nat), u27, u28, u29, u30, u31, u32, u33, u34, u35, u36, u37, u38, u39, u40, u41, u42, u43, u44, u45, u46, u47, u48, u49, u50, u51, u52, u53, u54, u55, u56, u57, u58, u59, u60, u61, u62, u63, u64, u65, u66, u67, u68, u69, u70, u71, u72, u73, u74, u75, u76, u77, u78, u79, u80, u81, u82, u83, u84, u85, u86, u87, u88, u89, u90, u91, u92, u93, u94, u95, u96, u97, u98, u99, u100, u101, u102, u103, u104, u105, u106, u107, u108, u109, u110, u111, u112, u113, u114, u115, u116, u117, u118, u119, u120, u121, u122, u123, u124, u125, u126, u127, u128, u129, u130, u131, u132, u133, u134, u135, u136, u137, u138, u139, u140, u141, u142, u143, u144, u145, u146, u147, u148, u149, u150, u151, u152, u153, u154, u155, u156, u157, u158, u159, u160, u161, u162, u163, u164, u165, u166, u167, u168, u169, u170, u171, u172, u173, u174, u175, u176, u177, u178, u179, u180, u181, u182, u183, u184, u185, u186, u187, u188, u189, u190, u191, u192, u193, u194, u195, u196, u197, u198, u199, u200, u201, u202, u203, u204, u205, u206, u207, u208, u209, u210, u211, u212, u213, u214, u215, u216, u217, u218, u219, u220, u221, u222, u223, u224, u225, u226, u227, u228, u229, u230, u231, u232, u233, u234, u235, u236, u237, u238, u239, u240, u241, u242, undef, undef, undef], defers := [] } wr := by
  have HO := hid hO
  have HWF := hid hwf
  have HT := hid ht
  have HI := hid hi
  have H0 := hid h0
  have HJ := hid hJ
  clear hJ
  have E1 := hid hM1
  have E2 := hid hM2
  have E3 := hid hM3
  clear hO hwf ht hi h0 hM1 hM2 hM3
  have HG := hid hgk
  have HR := hid hrel
  clear hgk hrel
  simp only [C31, cL, cR, cB, cP, Try.f31, Option.getD_some]
  have i1 : (k0 : Int) < (n : Int) := by omega
  obtain ⟨o1, o2, o3⟩ := HO.out k0 hlt
  have k1 := cell_later HR.out.bel o1
  have k2 := cell_later HR.out.bel o2
  have k3 := cell_later HR.out.bel o3
  clear o1 o2 o3
  have a0 := H0.out k0
  have hopen := wf_open HWF.out hlt hop
  -- commit or abort
  have he3 : act k0 = 3 ∨ act k0 = 4 := by
    unfold isEnd at hend
    simp at hend
    omega
  have HEND := hid hend
  have HOP := hid hopen
  have LI := hid (fun (W : World) (h : W = wr.alloc (box (tx k0) (act k0) (it k0))) => (show St w.heap.size wr.heap.size w W c X ob (fun t => eAt tx act t k0) (fun x t => opn tx act it x k0 t) Wl (RFm tx act it k0) (WRm tx act it k0) vW vR vP (tx k0) (act k0) (it k0) from by
    subst h
    have hb : Below wr.heap.size wr (wr.alloc (box (tx k0) (act k0) (it k0))) := (Below.refl _ _).alloc (Nat.le_refl _) _
    exact ⟨HR.out.mem.below hb, heap_alloc_new _ _, HR.out.bel.trans (hb.mono (by have := HR.out.mem.size; omega))⟩))
  have HFL := hid (flags_ends (it := it) hend hopen)
  have NOX := hid HR.out.nox
  have CLE := hid HR.out.cle
  have WIN := hid HR.out.win
  have HTS := hid (HT.out k0)
  generalize hak : act k0 = ak at *
  generalize htk : tx k0 = tk at *
  generalize hik : it k0 = ik at *
  have HAK := hid hak
  have HTK := hid htk
  have HIK := hid hik
  have q1 : (ak == 1) = false := by rcases he3 with rfl | rfl <;> rfl
  have q2 : (ak == 2) = false := by rcases he3 with rfl | rfl <;> rfl
  clear hak htk hik hop hend hopen
  go_upto_if 195 with fail
  go_cut [195] from 196 to 197 (fun s wx => s = .bool true ∧ wx = wr.alloc (box tk ak ik))
  case first => as_aux_lemma =>
    rcases he3 with rfl | rfl
    · go_wp2
      go_meet
      exact ⟨rfl, rfl⟩
    · go_wp2
      go_meet
      exact ⟨rfl, rfl⟩
  case rest =>
    obtain ⟨rfl, rfl⟩ := hcut
    have LJ := hid (LI.out _ rfl)
    clear LI HR k1 k2 k3 q1 q2
    obtain ⟨bx0, bx1, bx2⟩ := LJ.out.boxCells
    have hc0 := hid (show c < 1000000 from by have := CLE.out; omega)
    go_upto_if 200 with fail
    generalize wr.heap.size = nb at *
    generalize wr.alloc (box tk ak ik) = wa at *
    clear wr
    go_cut [2, 17] from 201 to 214 (fun rv fv wx => rv = .bool (allTo (okR tx act it) (k0 + 1)) ∧ wx = wa)
    case first => as_aux_lemma =>
      by_cases a3 : ak = 3
      · subst a3
        have hlr := LJ.out.lookRead HTS.out
        rw [show w.heap.size + 3 = _ from E3.out] at hlr
        obtain ⟨ao, g, cap, hv, hform⟩ := row_form (LJ.out.mem.rowR tk)
        rw [hv] at hlr
        have HSZ := hid (fun f hf => rfm_size (act := act) (it := it) HT.out tk k0 f hf)
        have FR := hid (show allTo (okR tx act it) (k0 + 1) = (allTo (okR tx act it) k0 && (RFm tx act it k0 tk).all (fun f => decide (eAt tx act f k0 = 3))) from by
          show (_ && okR tx act it k0) = _
          rw [HFL.out.2.2, if_pos rfl])
        have HFORM := hid hform
        have bR : (RFm tx act it k0 tk).length ≤ 1000000 := by have := (LJ.out.mem.lens tk).2.1; have := hc0.out; omega
        clear hv hform
        generalize RFm tx act it k0 tk = RL at *
        generalize hRL : RL.length = R at *
        have HRL := hid hRL
        clear hRL
        go_wp2
        clear hlr
        go_loopg [2, 206] R (fun gg rv iv wr => ∃ i, i ≤ R ∧ gg = R - i ∧ iv = .int .i64 (i : Nat) ∧ rv = .bool (allTo (okR tx act it) k0 && (RL.take i).all (fun f => decide (eAt tx act f k0 = 3))) ∧ wr = wa)
        case atStart => exact ⟨0, Nat.zero_le _, rfl, rfl, by simp, rfl⟩
        case round =>
          obtain ⟨i, hi, hg2, rfl, rfl, rfl⟩ := hrel
          have HG2 := hid hg2
          clear hg2
          by_cases hir : i < R
          · obtain ⟨hao, hcp, hcell⟩ := HFORM.out (by omega)
            subst hao
            have ci := hcell i _ hir (strs_at RL i (by rw [HRL.out]; exact hir))
            have hle := LJ.out.lookEnded (y := RL.getD i ByteArray.empty) (HSZ.out _ (by rw [List.getD_eq_getElem?_getD]; simp [show i < RL.length by rw [HRL.out]; exact hir]))
            rw [show w.heap.size + 1 = _ from E1.out] at hle
            have hst := hid (show (RL.take (i + 1)).all (fun f => decide (eAt tx act f k0 = 3)) = ((RL.take i).all (fun f => decide (eAt tx act f k0 = 3)) && decide (eAt tx act (RL.getD i ByteArray.empty) k0 = 3)) from by
              rw [List.take_succ_eq_append_getElem (by rw [HRL.out]; exact hir), List.all_append]
              simp [List.getD_eq_getElem?_getD, show i < RL.length by rw [HRL.out]; exact hir])
            have i2 : (i : Int) < (R : Int) := by omega
            clear hcell
            generalize RL.getD i ByteArray.empty = fr at *
            have hev := eAt_val (tx := tx) (act := act) fr k0
            generalize eAt tx act fr k0 = ev at *
            rcases hev with rfl | rfl | rfl
            all_goals
              go_wp2
              go_roundg (R - (i + 1))
              case measure => have := HG2.out; omega
              case rel => exact ⟨i + 1, by omega, rfl, by go_num, by rw [hst.out]; simp, rfl⟩
          · have e : i = R := by omega
            subst e
            go_wp2
            go_meet
            refine ⟨?_, rfl⟩
            rw [FR.out, ← HRL.out, List.take_length]
      · have a4 : ak = 4 := by omega
        subst a4
        go_wp2
        go_meet
        refine ⟨?_, rfl⟩
        show _ = Value.bool (_ && okR tx act it k0)
        rw [HFL.out.2.2]
        simp
    case rest =>
      obtain ⟨rfl, rfl⟩ := hcut
      obtain ⟨w1, hup, hst⟩ := LJ.out.putEnded HTS.out hc0.out (a' := ak) (by omega)
      rw [show w.heap.size + 1 = _ from E1.out] at hup
      have LK := hid hst
      clear hst LJ
      have hlw := LK.out.lookWrote HTS.out
      rw [show w.heap.size + 2 = _ from E2.out] at hlw
      obtain ⟨ao, g, cap, hv, hform⟩ := row_form (LK.out.mem.rowP tk)
      obtain ⟨bz0, bz1, bz2⟩ := LK.out.boxCells
      rw [hv] at hlw
      have HFORM := hid hform
      have bR : (WRm tx act it k0 tk).length ≤ 1000000 := by have := (LK.out.mem.lens tk).2.2; have := hc0.out; omega
      have HERE := hid (fun x h => LK.out.mem.here tk x h)
      have HV := hid hv
      clear hv hform
      generalize hWL : WRm tx act it k0 tk = WL at *
      generalize hRL : WL.length = R at *
      have HRL := hid hRL
      have HWL := hid hWL
      clear hRL hWL
      go_wp2
      clear hlw hup bx0 bx1 bx2
      go_loopg [225] R (fun gg iv wr => ∃ i, i ≤ R ∧ gg = R - i ∧ iv = .int .i64 (i : Nat) ∧ St w.heap.size nb w wr (c + 1) X ob (up (fun t => eAt tx act t k0) tk ak) (stk (fun x t => opn tx act it x k0 t) WL tk i) Wl (RFm tx act it k0) (WRm tx act it k0) vW vR vP tk ak ik)
      case atStart => exact ⟨0, Nat.zero_le _, rfl, rfl, by rw [stk_zero]; exact LK.out⟩
      case round =>
        obtain ⟨i, hi, hg2, rfl, hst⟩ := hrel
        have HG2 := hid hg2
        have LL := hid hst
        clear hg2 hst
        by_cases hir : i < R
        · obtain ⟨xb, hxb⟩ := HERE.out (WL.getD i ByteArray.empty) (by rw [List.getD_eq_getElem?_getD]; simp [show i < WL.length by rw [HRL.out]; exact hir])
          have hrow := LL.out.mem.rowP tk
          rw [HV.out, HWL.out, HRL.out] at hrow
          obtain ⟨g2, cap2, hv2, hcp, _, _, hcell⟩ := row_at hrow (by omega)
          have ci := hcell i (.pointer (some ⟨xb, 0, none⟩)) hir (by
            have h1 : i < WL.length := by rw [HRL.out]; exact hir
            rw [List.getElem?_map, List.getElem?_eq_getElem h1]
            have h2 : WL[i] = WL.getD i ByteArray.empty := by simp [List.getD_eq_getElem?_getD, h1]
            simp only [Option.map_some]
            rw [h2, hxb]
            rfl)
          clear hcell hrow
          injection hv2 with e1 e2 e3
          subst e1 e3
          have SS := hid (stk_succ (fun x t => opn tx act it x k0 t) WL tk i (by rw [HRL.out]; exact hir))
          obtain ⟨bx0, bx1, bx2⟩ := LL.out.boxCells
          obtain ⟨ix0, ix1, ixf⟩ := LL.out.itemCells hxb
          obtain ⟨w', hr, hst⟩ := (LL.out.below (w' := wr.drew) ((Below.refl _ _).drew)).delOpen hxb HTS.out
          have HST := hid hst
          have i2 : (i : Int) < (R : Int) := by omega
          clear hst hxb e2
          generalize WL.getD i ByteArray.empty = xi at *
          go_wp2
          go_region
          all_goals
            go_wp2
            go_roundg (R - (i + 1))
            case measure => have := HG2.out; omega
            case rel => exact ⟨i + 1, by omega, rfl, by go_num, by rw [SS.out]; exact HST.out⟩
        · have e : i = R := by omega
          subst e
          obtain ⟨c0', c1', c2'⟩ := LL.out.boxCells
          obtain ⟨w2, hd1, hst1⟩ := LL.out.delWrote HTS.out
          obtain ⟨w3, hd2, hst2⟩ := hst1.delRead HTS.out
          obtain ⟨d0', d1', d2'⟩ := hst1.boxCells
          have HST := hid hst2
          rw [show w.heap.size + 2 = _ from E2.out] at hd1
          rw [show w.heap.size + 3 = _ from E3.out] at hd2
          clear hst1 hst2
          go_wp2
          refine Handed.intro (n - (k0 + 1)) ?measure ?_
          rotate_left
          apply HJ.out
          unfold Inv31
          (repeat apply Exists.intro)
          refine ⟨?rel, rfl⟩
          case measure => have := HG.out; omega
          case rel =>
            refine ⟨k0 + 1, _, _, _, _, _, _, _, by omega, rfl, by go_num, rfl, ?_, ?_, rel_end (t := tk) (a := ak) (x := ik) (by rw [HAK.out]; exact HEND.out) (by rw [HTK.out]; exact HOP.out) WIN.out NOX.out ?_ (by rw [HAK.out, HTK.out, HWL.out, HRL.out]; exact HST.out)⟩
            · show _ = Value.bool (_ && okC tx act it k0); rw [HFL.out.1, Bool.and_true]
            · show _ = Value.bool (_ && okS tx act it k0); rw [HFL.out.2.1, Bool.and_true]
            · have := CLE.out; omega
end Go.Proofs.Qxb6600445a

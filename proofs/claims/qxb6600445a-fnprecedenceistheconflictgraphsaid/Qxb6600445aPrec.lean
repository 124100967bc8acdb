import Derived.Test.Qxb6600445aPHelp
import Derived.BigQuiet
import Derived.Deep.CutBlock
import Derived.Deep.CutRange
namespace Go.Proofs.Qxb6600445a
open Go.RowKit
open Go.Maps (Keyed)
set_option linter.unusedVariables false

set_option maxRecDepth 100000 in
set_option maxHeartbeats 40000000 in
theorem prec_any (n m bo bt : Nat) (tn : Nat → ByteArray) (iv : Nat → Nat) (wb : Nat → Bool) (it : Nat → ByteArray) (w : World) (hn : n ≤ 4096) (hm : m ≤ 256) (hbo : bo < w.heap.size) (hbt : bt < w.heap.size)
    (hO : OpsAt w bo n (fun j => tn (iv j)) (fun j => actW (wb j)) it) (hN : NamesAt w bt m tn) (hiv : ∀ j, j < n → iv j < m) (hd : ∀ i j, j < i → i < m → tn i ≠ tn j) (ht : ∀ j, (tn j).size ≤ maxLen) (hi : ∀ j, (it j).size ≤ maxLen) :
    Calls Try.prog 32 #[.slice (some ⟨bo, 0, none⟩) n n, .slice (some ⟨bt, 0, none⟩) m m] w fun e w' => ∃ G, e = .returned (.pointer (some ⟨G.kG, 0, none⟩)) ∧ HM w.heap.size w w' G ∧ G.m = m ∧ Sm (mAs iv it n) (mWs iv wb it n) (conf iv wb it n) G := by
  have HO := hid hO
  have HV := hid hiv
  have HT := hid ht
  have HI := hid hi
  have HD := hid hd
  have b1 := alloc_below w (.map #[] 0)
  have z1 : (w.alloc (.map #[] 0)).heap.size = w.heap.size + 1 := by simp
  have i1 : (w.alloc (.map #[] 0)).heap[w.heap.size]? = some (.map #[] 0) := heap_alloc_new _ _
  have KP := hid (places_any m bt tn (w.alloc (.map #[] 0)) (by omega) (by omega) (fun j hj => cell_later b1 (hN j hj)) ht)
  clear hO hiv ht hi hd hN
  have hmm := @run_makeMap Try.prog
  go_enter Try.func32, Try.ntmps32
  go_wp2_with fail
  refine KP.out.mono ?_
  rintro e w2 ⟨rfl, hpl, hs2, hb2⟩
  have KG := hid (newg_any m w2 (by omega))
  go_wp2_with fail
  refine KG.out.mono ?_
  rintro e w3 ⟨kE, kG, rfl, s1, s2, r1, r2, r3, hb3⟩
  have b12 : Below w.heap.size w w2 := b1.trans (hb2.mono (by omega))
  have b13 : Below w.heap.size w w3 := b12.trans (hb3.mono b12.size)
  rw [z1] at hpl hs2 hb2
  have ST := hid (show HM w.heap.size w w3 (gh0 m (plf tn m) w.heap.size (w.heap.size + 1) kG w2.heap.size kE) from
    hm_start (Nat.le_refl _) (by omega) (by omega) s1 s2 (by
      rw [hb3.block _ (by omega), hb2.block _ (by omega)]; exact i1) (by
      obtain ⟨c, hc⟩ := hpl
      exact ⟨c, hc.of_block (hb3.block _ hc.lt)⟩) r1 r2 r3 b13)
  clear KP KG hpl hs2 hb2 s1 s2 r1 r2 r3 hb3 b12 b13 b1 i1 hmm
  clear z1
  go_wp2
  go_loopg [25] n (fun g kv wr => ∃ k G, k ≤ n ∧ g = n - k ∧ kv = .int .i64 (k : Nat) ∧ HM w.heap.size w wr G ∧ Sm (mAs iv it k) (mWs iv wb it k) (conf iv wb it k) G ∧ Fb m (plf tn m) w.heap.size (w.heap.size + 1) kG (4 * k) (40000 * k) G)
  case atStart => exact ⟨0, _, Nat.zero_le _, rfl, rfl, ST.out, sm_start iv wb it, ⟨rfl, rfl, rfl, rfl, rfl, Nat.le_refl _, Nat.le_refl _⟩⟩
  case round =>
    obtain ⟨k, G, hkn, hgk, rfl, hH, hS, hF⟩ := hrel
    have HG := hid hgk
    have HH := hid hH
    have HS := hid hS
    have HF := hid hF
    clear hgk hH hS hF ST
    by_cases hlt : k < n
    · have i1 : (k : Int) < (n : Int) := by omega
      obtain ⟨o1, o2, o3⟩ := HO.out k hlt
      have k1 : wr.cell? ⟨bo, k * 3, none⟩ = some (.string (tn (iv k))) := cell_later HH.out.bel o1
      have k2 : wr.cell? ⟨bo, k * 3 + 1, none⟩ = some (.int .u8 (actW (wb k))) := cell_later HH.out.bel o2
      have k3 : wr.cell? ⟨bo, k * 3 + 2, none⟩ = some (.string (it k)) := cell_later HH.out.bel o3
      clear o1 o2 o3
      have htm := HV.out k hlt
      have ST := hid (show ∃ G1, HM w.heap.size w (wr.alloc (box (tn (iv k)) (actW (wb k)) (it k))) G1 ∧ Sm (mAs iv it k) (mWs iv wb it k) (conf iv wb it k) G1 ∧ Fb m (plf tn m) w.heap.size (w.heap.size + 1) kG (4 * k) (40000 * k) G1 ∧ Bx wr.heap.size (tn (iv k)) (actW (wb k)) (it k) G1 from
        ⟨_, HH.out.setBox _, HS.out.box _ _, ⟨HF.out.m, HF.out.pf, HF.out.kI, HF.out.kP, HF.out.kG, HF.out.c, HF.out.e⟩, ⟨rfl, rfl⟩⟩)
      clear HH HS HF G
      obtain ⟨G1, h1, s1, f1, x1⟩ := ST.out
      clear ST
      have H1 := hid h1
      have S1 := hid s1
      have F1 := hid f1
      have X1 := hid x1
      clear h1 s1 f1 x1
      have hlp := H1.out.lookPlace (HT.out (iv k)) (show G1.pf (tn (iv k)) = _ from by rw [F1.out.pf]; exact plf_at tn m HD.out (iv k) htm)
      have hli := H1.out.lookItems (HI.out k)
      rw [F1.out.kP] at hlp
      rw [F1.out.kI] at hli
      obtain ⟨eq1, eq2⟩ := eq_nil73 (wr.alloc (box (tn (iv k)) (actW (wb k)) (it k))) (G1.X (it k))
      have HXL := hid (HI.out k)
      have HWB := hid (show wb k = wb k from rfl)
      generalize hak : actW (wb k) = ak at *
      generalize hnt : tn (iv k) = nt at *
      generalize htk : iv k = tk at *
      generalize hik : it k = ik at *
      have HAK := hid hak
      have HTK := hid htk
      have HIK := hid hik
      clear hak hnt htk hik HWB
      unfold box at hlp hli eq1 eq2 H1
      go_upto_if 38 with fail
      obtain ⟨bx0, bx1, bx2⟩ := H1.out.boxCells X1.out
      have hmm := @run_makeMap Try.prog
      clear hlp hli eq1 eq2 k1 k2 k3
      generalize wr.heap.size = nb at *
      generalize wr.alloc (.cells #[.string nt, .int .u8 ak, .string ik] 47) = wa at *
      have bxl : nb < wa.heap.size := (H1.out.live .box nb X1.out.kB).2.1
      go_cut [11] from 36 to 45 (fun fv wx => ∃ G2 b, fv = .pointer (some ⟨b, 0, none⟩) ∧ G2.X ik = some b ∧ HM w.heap.size w wx G2 ∧ Sm (mAs iv it k) (mWs iv wb it k) (conf iv wb it k) G2 ∧ Fb m (plf tn m) w.heap.size (w.heap.size + 1) kG (4 * k + 1) (40000 * k) G2 ∧ Bx nb nt ak ik G2)
      case first => as_aux_lemma =>
        cases hx : G1.X ik with
        | some b =>
          go_wp2
          go_meet
          exact ⟨G1, b, rfl, hx, H1.out, S1.out, ⟨F1.out.m, F1.out.pf, F1.out.kI, F1.out.kP, F1.out.kG, by have := F1.out.c; omega, F1.out.e⟩, X1.out⟩
        | none =>
          obtain ⟨a1, a2, a3⟩ := S1.out.ab ik hx
          obtain ⟨w', hup, hst⟩ := H1.out.newItem HXL.out hx a1 a2 a3 (by have := F1.out.c; omega)
          rw [F1.out.kI] at hup
          unfold itemO nilS pt at hup
          have HST := hid hst
          have SST := hid (S1.out.newItem hx (wa.heap.size + 1) wa.heap.size (G1.c + 1))
          clear hst a1 a2 a3
          go_wp2
          go_meet
          exact ⟨_, wa.heap.size + 1, rfl, up_at _ _ _, HST.out, SST.out, ⟨F1.out.m, F1.out.pf, F1.out.kI, F1.out.kP, F1.out.kG, by have := F1.out.c; show G1.c + 1 ≤ _; omega, F1.out.e⟩, ⟨X1.out.kB, X1.out.bx⟩⟩
      case rest =>
        obtain ⟨G2, b, rfl, hxb, h2, s2, f2, x2⟩ := hcut
        have H2 := hid h2
        have S2 := hid s2
        have F2 := hid f2
        have X2 := hid x2
        have HXB := hid hxb
        clear h2 s2 f2 x2 H1 S1 F1 X1 bx0 bx1 bx2 bxl hmm
        obtain ⟨bx0, bx1, bx2⟩ := H2.out.boxCells X2.out
        obtain ⟨ix0, ix1, ix2, ixf⟩ := H2.out.itemCells hxb
        have hlb := H2.out.lookBy hxb (show tk < 65536 by omega)
        obtain ⟨eq1, eq2⟩ := eq_nil77 wc (G2.A ik tk)
        clear hxb
        go_upto_if 53 with fail
        clear hlb eq1 eq2 w2 w3
        generalize wc = wb2 at *
        go_cut [12] from 51 to 70 (fun av wx => ∃ G3 ab, av = .pointer (some ⟨ab, 0, none⟩) ∧ G3.A ik tk = some ab ∧ G3.X ik = some b ∧ HM w.heap.size w wx G3 ∧ Sm (fun y s => mAs iv it k y s ∨ (y = ik ∧ s = tk)) (mWs iv wb it k) (conf iv wb it k) G3 ∧ Fb m (plf tn m) w.heap.size (w.heap.size + 1) kG (4 * k + 3) (40000 * k) G3 ∧ Bx nb nt ak ik G3)
        case first => as_aux_lemma =>
          cases ha : G2.A ik tk with
          | some ab =>
            go_wp2
            go_meet
            exact ⟨G2, ab, rfl, ha, HXB.out, H2.out, S2.out.congr (fun y s => ⟨.inl, fun h => by
              rcases h with h | ⟨rfl, rfl⟩
              · exact h
              · exact (S2.out.acc _ _).1 (by rw [ha]; rfl)⟩) (fun _ _ => Iff.rfl) (fun _ _ => Iff.rfl), ⟨F2.out.m, F2.out.pf, F2.out.kI, F2.out.kP, F2.out.kG, by have := F2.out.c; omega, F2.out.e⟩, X2.out⟩
          | none =>
            obtain ⟨z0, z1⟩ := S2.out.dz ik tk ha
            have zw : G2.wo ik tk = false := by
              cases h : G2.wo ik tk with
              | false => rfl
              | true =>
                have := (S2.out.acc ik tk).2 (S2.out.sub _ _ ((S2.out.wo ik tk).1 h))
                rw [ha] at this; cases this
            obtain ⟨wA, hup, hst⟩ := H2.out.newAcc HXB.out (show tk < 65536 by omega) ha z0 z1 zw (by have := F2.out.c; omega)
            have hup' : (Instr.mapUpdate 74 (.map (some (G2.Bb ik))) (.int .i64 (tk : Nat)) (.pointer (some ⟨wb2.heap.size, 0, none⟩))).run Try.prog (wb2.alloc (.cells #[.int .i64 0, .int .i64 0, .bool false] 80)) = .ok () wA := hup
            have jx1 : wA.cell? ⟨b, 1, none⟩ = some (G2.vA ik) := (hst.itemCells (x := ik) (b := b) HXB.out).2.1
            obtain ⟨g, cap, wB, hr, y1, y2, hst3⟩ := hst.pushA (x := ik) (b := b) HXB.out tk (by have := F2.out.c; show G2.c + 1 < _; omega)
            have hr' : (Builtin.append_ #[42, 42] 42 #[G2.vA ik, .slice (some ⟨wA.heap.size, 0, none⟩) 1 1]).run Try.prog (wA.alloc (.cells #[.int .i64 (tk : Nat)] 3)) = .ok (.slice (some ⟨g, 0, none⟩) ((G2.Al ik).length + 1) cap) wB := hr
            have y1' : wB.cell? ⟨b, 1, none⟩ = some (G2.vA ik) := y1
            have HST := hid hst3
            have SST := hid (S2.out.pushA HXB.out ha wb2.heap.size (G2.c + 1 + 1) (.slice (some ⟨g, 0, none⟩) ((G2.Al ik).length + 1) cap))
            have lb : b < wb2.heap.size := (H2.out.live (.item ik) b HXB.out).2.1
            have lb2 : b < wA.heap.size := (hst.live (.item ik) b HXB.out).2.1
            have n1 : ¬ b = wb2.heap.size := by omega
            have n2 : ¬ wb2.heap.size = b := by omega
            have n3 : ¬ b = wA.heap.size := by omega
            have n4 : ¬ wA.heap.size = b := by omega
            clear hup hr y1 hst hst3 z0 z1 zw
            go_wp2_with (at_builtin; refine wpList_append_run _ rfl _ _ 42 rfl _ _ _ rfl rfl _ hr' ?_)
            go_meet
            exact ⟨{ G2 with A := up2 G2.A ik tk (some wb2.heap.size), Al := up G2.Al ik (G2.Al ik ++ [tk]), vA := up G2.vA ik (.slice (some ⟨g, 0, none⟩) ((G2.Al ik).length + 1) cap), c := G2.c + 1 + 1 }, wb2.heap.size, rfl, up2_at _ _ _ _, HXB.out, HST.out, SST.out, ⟨F2.out.m, F2.out.pf, F2.out.kI, F2.out.kP, F2.out.kG, by have := F2.out.c; show G2.c + 1 + 1 ≤ _; omega, F2.out.e⟩, ⟨X2.out.kB, X2.out.bx⟩⟩
        case rest =>
          obtain ⟨G3, ab, rfl, hab, hxb, h3, s3, f3, x3⟩ := hcut
          have H3 := hid h3
          have S3 := hid s3
          have F3 := hid f3
          have X3 := hid x3
          have HAB := hid hab
          have HXB3 := hid hxb
          clear HXB h3 s3 f3 x3 hab hxb H2 S2 F2 X2 bx0 bx1 bx2 ix0 ix1 ix2 ixf
          have HXB := hid HXB3.out
          clear HXB3
          cases hw : wb k with
          | true =>
            have HW := hid hw
            have ea : ak = 2 := by rw [← HAK.out, hw]; rfl
            subst ea
            clear hw
            have hdl := S3.out.d1 ik tk
            have HDL := hid hdl
            obtain ⟨a, c', hsl, hat⟩ := slice_run (H3.out.rowAc ik) hdl.1
            have HAT := hid hat
            have hln : ∀ ty W, (Builtin.len_ #[42] ty #[G3.vA ik]).run Try.prog W = .ok (.int .i64 ((G3.Al ik).length : Nat)) W := fun ty W => row_len (H3.out.rowAc ik) Try.underlying42 ty
            obtain ⟨bx0, bx1, bx2⟩ := H3.out.boxCells X3.out
            obtain ⟨ix0, ix1, ix2, ixf⟩ := H3.out.itemCells HXB.out
            obtain ⟨ax0, ax1, ax2, axf⟩ := H3.out.accCells HAB.out
            obtain ⟨q, hq⟩ : ∃ q, (G3.Al ik).length - G3.d1 ik tk = q := ⟨_, rfl⟩
            rw [hq] at hsl
            have HQ := hid hq
            have hq2 : q ≤ 20000 := by have h1 := (H3.out.len ik); have h2 := F3.out.c; omega
            clear hdl hat hq
            go_wp2
            clear hsl bx0 bx1 bx2 ix0 ix1 ix2 ixf ax0 ax1 ax2 axf
            go_loopg [91] q (fun g pv wx => ∃ p G4, p ≤ q ∧ g = q - p ∧ pv = .int .i64 (p : Nat) ∧ HM w.heap.size w wx G4 ∧ Sm (fun y s => mAs iv it k y s ∨ (y = ik ∧ s = tk)) (mWs iv wb it k) (Cl iv wb it k (G3.Al ik) (G3.d1 ik tk) p) G4 ∧ Keep G3 G4 ∧ G4.e ≤ 40000 * k + 2 * p)
            case atStart => exact ⟨0, G3, Nat.zero_le _, rfl, rfl, H3.out, S3.out.congr (fun _ _ => Iff.rfl) (fun _ _ => Iff.rfl) (fun a b => Cl_zero _ _ a b), Keep.refl G3, F3.out.e⟩
            case round =>
              obtain ⟨p, G4, hpq, hgp, rfl, h4, s4, kp4, e4⟩ := hrel
              have HGP := hid hgp
              have H4 := hid h4
              have S4 := hid s4
              have KP := hid kp4
              have ef : G4.Al = G3.Al ∧ G4.vA = G3.vA ∧ G4.d1 = G3.d1 ∧ G4.kG = G3.kG ∧ G4.m = G3.m ∧ G4.A = G3.A ∧ G4.X = G3.X ∧ G4.kB = G3.kB ∧ G4.bx = G3.bx ∧ G4.c = G3.c ∧ G4.pf = G3.pf ∧ G4.kI = G3.kI ∧ G4.kP = G3.kP := by
                obtain ⟨_, _, _, _, rfl⟩ := kp4
                exact ⟨rfl, rfl, rfl, rfl, rfl, rfl, rfl, rfl, rfl, rfl, rfl, rfl, rfl⟩
              have EF := hid ef
              clear hgp h4 s4 kp4 ef
              by_cases hp : p < q
              · have j1 : (p : Int) < (q : Int) := by omega
                have hlt2 : G3.d1 ik tk + p < (G3.Al ik).length := by have := HQ.out; omega
                obtain ⟨u, hu⟩ : ∃ u, (G3.Al ik)[G3.d1 ik tk + p]? = some u := ⟨_, List.getElem?_eq_getElem hlt2⟩
                obtain ⟨g, hg, ea⟩ := HAT.out (by omega)
                have cu : wr.cell? ⟨g, G3.d1 ik tk + p, none⟩ = some (.int .i64 (u : Nat)) := row_cell (by
                  have := H4.out.rowAc ik
                  rw [EF.out.1, EF.out.2.1] at this
                  exact this) hg hu
                have HU := hid hu
                have hum : u < m := by
                  have h1 : u ∈ G4.Al ik := by rw [EF.out.1]; exact List.mem_of_getElem? hu
                  rcases (S4.out.mA ik u).1 h1 with ⟨i, h2, h3, h4⟩ | ⟨_, h4⟩
                  · rw [← h4]; exact HV.out i (by omega)
                  · rw [h4]; exact htm
                subst ea
                clear hlt2 hu hg
                generalize G3.d1 ik tk = dv at *
                by_cases e : u = tk
                · have HSN := hid (S4.out.congr (fun _ _ => Iff.rfl) (fun _ _ => Iff.rfl) (fun a b => Cl_skip HU.out (e.trans HTK.out.symm) a b))
                  subst e
                  go_wp2
                  go_roundg (q - (p + 1))
                  case measure => have := HGP.out; omega
                  case rel => exact ⟨p + 1, G4, by omega, rfl, by go_num, H4.out, HSN.out, KP.out, by omega⟩
                · have t1 : ¬ (u : Int) = (tk : Int) := by omega
                  have t2 : ((u : Int) != (tk : Int)) = true := by simp; omega
                  have HNE := hid (show u ≠ iv k from fun h => e (h.trans HTK.out))
                  have KA := hid (add_any w.heap.size w wr G4 H4.out u tk (by rw [EF.out.2.2.2.2.1, F3.out.m]; exact hum) (by rw [EF.out.2.2.2.2.1, F3.out.m]; exact htm) (by rw [EF.out.2.2.2.2.1, F3.out.m]; exact hm) (by omega))
                  rw [EF.out.2.2.2.1, F3.out.kG] at KA
                  clear e
                  go_wp2_with (go_at_call 36; refine KA.out.mono ?_; rintro e w' ⟨rfl, G5, h5, ha5⟩)
                  have HSN := hid (show Sm (fun y s => mAs iv it k y s ∨ (y = ik ∧ s = tk)) (mWs iv wb it k) (Cl iv wb it k (G3.Al ik) dv (p + 1)) G5 from (S4.out.add ha5).congr (fun _ _ => Iff.rfl) (fun _ _ => Iff.rfl) (fun a b => by have := Cl_add (iv := iv) (wb := wb) (it := it) HU.out HNE.out a b; rw [HTK.out] at this; exact this))
                  obtain ⟨kp5, e5⟩ := KP.out.add ha5
                  go_roundg (q - (p + 1))
                  case measure => have := HGP.out; omega
                  case rel => exact ⟨p + 1, G5, by omega, rfl, by go_num, h5, HSN.out, kp5, by omega⟩
              · have hpe : p = q := by omega
                have HL := hid (show ∀ a, a ≠ iv k → (a ∈ G3.Al ik ↔ ∃ i, i < k ∧ it i = it k ∧ iv i = a ∧ (wb i = true ∨ wb k = true)) from fun a ha => by
                    rw [S3.out.mA ik a]
                    constructor
                    · rintro (⟨i, h1, h2, h3⟩ | ⟨_, h3⟩)
                      · exact ⟨i, h1, by rw [HIK.out]; exact h2, h3, .inr HW.out⟩
                      · exact absurd (h3.trans HTK.out.symm) ha
                    · rintro ⟨i, h1, h2, h3, _⟩
                      exact .inl ⟨i, h1, by rw [← HIK.out]; exact h2, h3⟩)
                have HSE := hid (show Sm (mAs iv it (k + 1)) (mWs iv wb it k) (conf iv wb it (k + 1)) G4 from S4.out.congr (fun y s => by have := mAs_succ (iv := iv) (it := it) (k := k) y s; rw [HIK.out, HTK.out] at this; exact this) (fun _ _ => Iff.rfl) (fun a b => Cl_end (by have := HQ.out; have := HDL.out.1; omega) (fun u h1 h2 => by have := HDL.out.2 u h1 (fun h => h2 (h.trans HTK.out.symm)); rw [HTK.out]; exact this) HL.out a b))
                have hA4 : G4.A ik tk = some ab := by rw [EF.out.2.2.2.2.2.1]; exact HAB.out
                have hX4 : G4.X ik = some b := by rw [EF.out.2.2.2.2.2.2.1]; exact HXB.out
                have H5 := hid (show HM w.heap.size w (wr.setCell ⟨ab, 1, none⟩ (.int .i64 ((G3.Al ik).length : Nat))) { G4 with d1 := up2 G4.d1 ik tk (G4.Al ik).length } from by
                  have := H4.out.setD1 hA4 (G4.Al ik).length
                  rw [EF.out.1] at this ⊢
                  exact this)
                have S5 := hid (HSE.out.setD1 hA4 (fun u h1 h2 => (conf_succ u tk).2 (.inr ⟨HTK.out.symm, fun h => h2 (h.trans HTK.out), (HL.out u (fun h => h2 (h.trans HTK.out))).1 (by rw [EF.out.1] at h1; exact h1)⟩)))
                obtain ⟨bx0, bx1, bx2⟩ := H4.out.boxCells (nb := nb) (t := nt) (x := ik) ⟨by rw [EF.out.2.2.2.2.2.2.2.1]; exact X3.out.kB, by rw [EF.out.2.2.2.2.2.2.2.2.1]; exact X3.out.bx⟩
                obtain ⟨ix0, ix1, ix2, ixf⟩ := H4.out.itemCells hX4
                obtain ⟨ax0, ax1, ax2, axf⟩ := H4.out.accCells hA4
                have n1 : ¬ nb = ab := fun h => by
                  have := H4.out.inj .box (.acc ik tk) nb (show G4.kB = some nb by rw [EF.out.2.2.2.2.2.2.2.1]; exact X3.out.kB) (by rw [h]; exact hA4)
                  cases this
                have n2 : ¬ ab = nb := fun h => n1 h.symm
                have n3 : ¬ b = ab := fun h => by
                  have := H4.out.inj (.item ik) (.acc ik tk) b hX4 (by rw [h]; exact hA4)
                  cases this
                have n4 : ¬ ab = b := fun h => n3 h.symm
                have FE := hid (show G4.m = m ∧ G4.pf = plf tn m ∧ G4.kI = w.heap.size ∧ G4.kP = w.heap.size + 1 ∧ G4.kG = kG ∧ G4.c ≤ 4 * k + 3 ∧ G4.e ≤ 40000 * (k + 1) from by
                  obtain ⟨_, _, _, q4, q5, _, _, _, _, q10, q11, q12, q13⟩ := EF.out
                  rw [q4, q5, q10, q11, q12, q13]
                  exact ⟨F3.out.m, F3.out.pf, F3.out.kI, F3.out.kP, F3.out.kG, F3.out.c, by omega⟩)
                cases hwo : G4.wo ik tk with
                | true =>
                  rw [hwo] at ax2
                  have SF := hid (S5.out.congr (fun _ _ => Iff.rfl) (fun y s => show mWs iv wb it k y s ↔ mWs iv wb it (k + 1) y s from by
                    rw [← mWs_succ_w HW.out]
                    constructor
                    · exact .inl
                    · rintro (h | ⟨rfl, rfl⟩)
                      · exact h
                      · rw [HIK.out, HTK.out]
                        exact (S4.out.wo ik tk).1 hwo) (fun _ _ => Iff.rfl))
                  clear hwo hA4 hX4
                  go_wp2
                  go_roundg (n - (k + 1))
                  case measure => have := HG.out; omega
                  case rel =>
                    obtain ⟨q1, q2, q3, q4, q5, q6, q7⟩ := FE.out
                    exact ⟨k + 1, _, by omega, rfl, by go_num, H5.out, SF.out, ⟨q1, q2, q3, q4, q5, by show G4.c ≤ _; omega, q7⟩⟩
                | false =>
                  rw [hwo] at ax2
                  have H6 := H5.out.setWo (x := ik) (t := tk) (b := ab) hA4 true
                  obtain ⟨g, cap, wB, hr, y1, y2, h7⟩ := H6.pushW (x := ik) (b := b) hX4 tk (by have := FE.out.2.2.2.2.2.1; show G4.c < _; omega)
                  have hr' : (Builtin.append_ #[42, 42] 42 #[G4.vW ik, .slice (some ⟨wr.heap.size, 0, none⟩) 1 1]).run Try.prog (((wr.setCell ⟨ab, 1, none⟩ (.int .i64 ((G3.Al ik).length : Nat))).setCell ⟨ab, 2, none⟩ (.bool true)).alloc (.cells #[.int .i64 (tk : Nat)] 3)) = .ok (.slice (some ⟨g, 0, none⟩) ((G4.Wl ik).length + 1) cap) wB := by
                    have := hr
                    simp at this
                    exact this
                  have y1' : wB.cell? ⟨b, 0, none⟩ = some (G4.vW ik) := y1
                  have H7 := hid h7
                  have S7 := hid ((S5.out.pushW (x := ik) (t := tk) (b0 := b) hX4 ⟨k, by omega, HIK.out, HTK.out⟩ (G4.c + 1) (.slice (some ⟨g, 0, none⟩) ((G4.Wl ik).length + 1) cap)).congr (fun _ _ => Iff.rfl) (fun y s => show (mWs iv wb it k y s ∨ (y = ik ∧ s = tk)) ↔ mWs iv wb it (k + 1) y s from by
                    have := mWs_succ_w (iv := iv) (it := it) HW.out y s
                    rw [HIK.out, HTK.out] at this
                    exact this) (fun _ _ => Iff.rfl))
                  have lb : b < wr.heap.size := (H4.out.live (.item ik) b hX4).2.1
                  clear hwo hA4 hX4 H6 hr y1 h7
                  go_wp2_with (at_builtin; refine wpList_append_run _ rfl _ _ 42 rfl _ _ _ rfl rfl _ hr' ?_)
                  go_roundg (n - (k + 1))
                  case measure => have := HG.out; omega
                  case rel =>
                    obtain ⟨q1, q2, q3, q4, q5, q6, q7⟩ := FE.out
                    exact ⟨k + 1, _, by omega, rfl, by go_num, H7.out, S7.out, ⟨q1, q2, q3, q4, q5, by show G4.c + 1 ≤ _; omega, q7⟩⟩
          | false =>
            have HW := hid hw
            have ea : ak = 1 := by rw [← HAK.out, hw]; rfl
            subst ea
            clear hw
            have hdl := S3.out.d0 ik tk
            have HDL := hid hdl
            obtain ⟨a, c', hsl, hat⟩ := slice_run (H3.out.rowW ik) hdl.1
            have HAT := hid hat
            have hln : ∀ ty W, (Builtin.len_ #[42] ty #[G3.vW ik]).run Try.prog W = .ok (.int .i64 ((G3.Wl ik).length : Nat)) W := fun ty W => row_len (H3.out.rowW ik) Try.underlying42 ty
            obtain ⟨bx0, bx1, bx2⟩ := H3.out.boxCells X3.out
            obtain ⟨ix0, ix1, ix2, ixf⟩ := H3.out.itemCells HXB.out
            obtain ⟨ax0, ax1, ax2, axf⟩ := H3.out.accCells HAB.out
            obtain ⟨q, hq⟩ : ∃ q, (G3.Wl ik).length - G3.d0 ik tk = q := ⟨_, rfl⟩
            rw [hq] at hsl
            have HQ := hid hq
            have hq2 : q ≤ 20000 := by have h1 := (H3.out.len ik); have h2 := F3.out.c; omega
            clear hdl hat hq
            go_wp2
            clear hsl bx0 bx1 bx2 ix0 ix1 ix2 ixf ax0 ax1 ax2 axf
            go_loopg [91] q (fun g pv wx => ∃ p G4, p ≤ q ∧ g = q - p ∧ pv = .int .i64 (p : Nat) ∧ HM w.heap.size w wx G4 ∧ Sm (fun y s => mAs iv it k y s ∨ (y = ik ∧ s = tk)) (mWs iv wb it k) (Cl iv wb it k (G3.Wl ik) (G3.d0 ik tk) p) G4 ∧ Keep G3 G4 ∧ G4.e ≤ 40000 * k + 2 * p)
            case atStart => exact ⟨0, G3, Nat.zero_le _, rfl, rfl, H3.out, S3.out.congr (fun _ _ => Iff.rfl) (fun _ _ => Iff.rfl) (fun a b => Cl_zero _ _ a b), Keep.refl G3, F3.out.e⟩
            case round =>
              obtain ⟨p, G4, hpq, hgp, rfl, h4, s4, kp4, e4⟩ := hrel
              have HGP := hid hgp
              have H4 := hid h4
              have S4 := hid s4
              have KP := hid kp4
              have ef : G4.Wl = G3.Wl ∧ G4.vW = G3.vW ∧ G4.d0 = G3.d0 ∧ G4.kG = G3.kG ∧ G4.m = G3.m ∧ G4.A = G3.A ∧ G4.X = G3.X ∧ G4.kB = G3.kB ∧ G4.bx = G3.bx ∧ G4.c = G3.c ∧ G4.pf = G3.pf ∧ G4.kI = G3.kI ∧ G4.kP = G3.kP := by
                obtain ⟨_, _, _, _, rfl⟩ := kp4
                exact ⟨rfl, rfl, rfl, rfl, rfl, rfl, rfl, rfl, rfl, rfl, rfl, rfl, rfl⟩
              have EF := hid ef
              clear hgp h4 s4 kp4 ef
              by_cases hp : p < q
              · have j1 : (p : Int) < (q : Int) := by omega
                have hlt2 : G3.d0 ik tk + p < (G3.Wl ik).length := by have := HQ.out; omega
                obtain ⟨u, hu⟩ : ∃ u, (G3.Wl ik)[G3.d0 ik tk + p]? = some u := ⟨_, List.getElem?_eq_getElem hlt2⟩
                obtain ⟨g, hg, ea⟩ := HAT.out (by omega)
                have cu : wr.cell? ⟨g, G3.d0 ik tk + p, none⟩ = some (.int .i64 (u : Nat)) := row_cell (by
                  have := H4.out.rowW ik
                  rw [EF.out.1, EF.out.2.1] at this
                  exact this) hg hu
                have HU := hid hu
                have hum : u < m := by
                  have h1 : u ∈ G4.Wl ik := by rw [EF.out.1]; exact List.mem_of_getElem? hu
                  rcases (show mAs iv it k ik u ∨ (ik = ik ∧ u = tk) from S4.out.sub _ _ ((S4.out.mW ik u).1 h1)) with ⟨i, h2, h3, h4⟩ | ⟨_, h4⟩
                  · rw [← h4]; exact HV.out i (by omega)
                  · rw [h4]; exact htm
                subst ea
                clear hlt2 hu hg
                generalize G3.d0 ik tk = dv at *
                by_cases e : u = tk
                · have HSN := hid (S4.out.congr (fun _ _ => Iff.rfl) (fun _ _ => Iff.rfl) (fun a b => Cl_skip HU.out (e.trans HTK.out.symm) a b))
                  subst e
                  go_wp2
                  go_roundg (q - (p + 1))
                  case measure => have := HGP.out; omega
                  case rel => exact ⟨p + 1, G4, by omega, rfl, by go_num, H4.out, HSN.out, KP.out, by omega⟩
                · have t1 : ¬ (u : Int) = (tk : Int) := by omega
                  have t2 : ((u : Int) != (tk : Int)) = true := by simp; omega
                  have HNE := hid (show u ≠ iv k from fun h => e (h.trans HTK.out))
                  have KA := hid (add_any w.heap.size w wr G4 H4.out u tk (by rw [EF.out.2.2.2.2.1, F3.out.m]; exact hum) (by rw [EF.out.2.2.2.2.1, F3.out.m]; exact htm) (by rw [EF.out.2.2.2.2.1, F3.out.m]; exact hm) (by omega))
                  rw [EF.out.2.2.2.1, F3.out.kG] at KA
                  clear e
                  go_wp2_with (go_at_call 36; refine KA.out.mono ?_; rintro e w' ⟨rfl, G5, h5, ha5⟩)
                  have HSN := hid (show Sm (fun y s => mAs iv it k y s ∨ (y = ik ∧ s = tk)) (mWs iv wb it k) (Cl iv wb it k (G3.Wl ik) dv (p + 1)) G5 from (S4.out.add ha5).congr (fun _ _ => Iff.rfl) (fun _ _ => Iff.rfl) (fun a b => by have := Cl_add (iv := iv) (wb := wb) (it := it) HU.out HNE.out a b; rw [HTK.out] at this; exact this))
                  obtain ⟨kp5, e5⟩ := KP.out.add ha5
                  go_roundg (q - (p + 1))
                  case measure => have := HGP.out; omega
                  case rel => exact ⟨p + 1, G5, by omega, rfl, by go_num, h5, HSN.out, kp5, by omega⟩
              · have hpe : p = q := by omega
                have HL := hid (show ∀ a, a ≠ iv k → (a ∈ G3.Wl ik ↔ ∃ i, i < k ∧ it i = it k ∧ iv i = a ∧ (wb i = true ∨ wb k = true)) from fun a ha => by
                    rw [S3.out.mW ik a]
                    constructor
                    · rintro ⟨i, h1, h2, h3, h4⟩
                      exact ⟨i, h1, by rw [HIK.out]; exact h2, h4, .inl h3⟩
                    · rintro ⟨i, h1, h2, h3, h4⟩
                      rw [HW.out] at h4
                      rcases h4 with h4 | h4
                      · exact ⟨i, h1, by rw [← HIK.out]; exact h2, h4, h3⟩
                      · cases h4)
                have HSE := hid (show Sm (mAs iv it (k + 1)) (mWs iv wb it k) (conf iv wb it (k + 1)) G4 from S4.out.congr (fun y s => by have := mAs_succ (iv := iv) (it := it) (k := k) y s; rw [HIK.out, HTK.out] at this; exact this) (fun _ _ => Iff.rfl) (fun a b => Cl_end (by have := HQ.out; have := HDL.out.1; omega) (fun u h1 h2 => by have := HDL.out.2 u h1 (fun h => h2 (h.trans HTK.out.symm)); rw [HTK.out]; exact this) HL.out a b))
                have hA4 : G4.A ik tk = some ab := by rw [EF.out.2.2.2.2.2.1]; exact HAB.out
                have hX4 : G4.X ik = some b := by rw [EF.out.2.2.2.2.2.2.1]; exact HXB.out
                have H5 := hid (show HM w.heap.size w (wr.setCell ⟨ab, 0, none⟩ (.int .i64 ((G3.Wl ik).length : Nat))) { G4 with d0 := up2 G4.d0 ik tk (G4.Wl ik).length } from by
                  have := H4.out.setD0 hA4 (G4.Wl ik).length
                  rw [EF.out.1] at this ⊢
                  exact this)
                have S5 := hid (HSE.out.setD0 hA4 (fun u h1 h2 => (conf_succ u tk).2 (.inr ⟨HTK.out.symm, fun h => h2 (h.trans HTK.out), (HL.out u (fun h => h2 (h.trans HTK.out))).1 (by rw [EF.out.1] at h1; exact h1)⟩)))
                obtain ⟨bx0, bx1, bx2⟩ := H4.out.boxCells (nb := nb) (t := nt) (x := ik) ⟨by rw [EF.out.2.2.2.2.2.2.2.1]; exact X3.out.kB, by rw [EF.out.2.2.2.2.2.2.2.2.1]; exact X3.out.bx⟩
                obtain ⟨ix0, ix1, ix2, ixf⟩ := H4.out.itemCells hX4
                obtain ⟨ax0, ax1, ax2, axf⟩ := H4.out.accCells hA4
                have n1 : ¬ nb = ab := fun h => by
                  have := H4.out.inj .box (.acc ik tk) nb (show G4.kB = some nb by rw [EF.out.2.2.2.2.2.2.2.1]; exact X3.out.kB) (by rw [h]; exact hA4)
                  cases this
                have n2 : ¬ ab = nb := fun h => n1 h.symm
                have n3 : ¬ b = ab := fun h => by
                  have := H4.out.inj (.item ik) (.acc ik tk) b hX4 (by rw [h]; exact hA4)
                  cases this
                have n4 : ¬ ab = b := fun h => n3 h.symm
                have FE := hid (show G4.m = m ∧ G4.pf = plf tn m ∧ G4.kI = w.heap.size ∧ G4.kP = w.heap.size + 1 ∧ G4.kG = kG ∧ G4.c ≤ 4 * k + 3 ∧ G4.e ≤ 40000 * (k + 1) from by
                  obtain ⟨_, _, _, q4, q5, _, _, _, _, q10, q11, q12, q13⟩ := EF.out
                  rw [q4, q5, q10, q11, q12, q13]
                  exact ⟨F3.out.m, F3.out.pf, F3.out.kI, F3.out.kP, F3.out.kG, F3.out.c, by omega⟩)
                have SF := hid (S5.out.congr (fun _ _ => Iff.rfl) (fun y s => mWs_succ_r HW.out y s) (fun _ _ => Iff.rfl))
                clear hA4 hX4
                go_wp2
                go_roundg (n - (k + 1))
                case measure => have := HG.out; omega
                case rel =>
                  obtain ⟨q1, q2, q3, q4, q5, q6, q7⟩ := FE.out
                  exact ⟨k + 1, _, by omega, rfl, by go_num, H5.out, SF.out, ⟨q1, q2, q3, q4, q5, by show G4.c ≤ _; omega, q7⟩⟩
    · have hk : k = n := by omega
      subst hk
      go_wp2
      go_ret
      exact ⟨G, by rw [HF.out.kG]; rfl, HH.out, HF.out.m, HS.out⟩
end Go.Proofs.Qxb6600445a

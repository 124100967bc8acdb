import Derived.Test.Qxb6600445aRdE
import Derived.Test.Qxb6600445aRdW
import Derived.Test.Qxb6600445aRdR
namespace Go.Proofs.Qxb6600445a
open Go.RowKit
open Go.Maps (Keyed)
set_option linter.unusedVariables false

set_option maxRecDepth 100000 in
set_option maxHeartbeats 40000000 in
theorem rec_any (n bo : Nat) (tx : Nat → ByteArray) (act : Nat → Int) (it : Nat → ByteArray) (w : World) (hn : n ≤ 4096) (hbo : bo < w.heap.size) (hO : OpsAt w bo n tx act it) (hwf : WF tx act n) (h0 : ∀ j, 0 ≤ act j) (ht : ∀ j, (tx j).size ≤ maxLen) (hi : ∀ j, (it j).size ≤ maxLen) :
    Calls Try.prog 31 #[.slice (some ⟨bo, 0, none⟩) n n] w fun e w' => e = .returned (.tuple #[.bool (allTo (okR tx act it) n), .bool (allTo (okC tx act it) n), .bool (allTo (okS tx act it) n)]) ∧ Below w.heap.size w w' := by
  have HO := hid hO
  have HWF := hid hwf
  have HT := hid ht
  have HI := hid hi
  have H0 := hid h0
  clear hO hwf ht hi h0
  have hmm := @run_makeMap Try.prog
  go_enter Try.func31, Try.ntmps31
  go_wp2
  have START := hid (mem_start tx act it w)
  have BST := hid (four w (.map #[] 0) (.map #[] 0) (.map #[] 0) (.map #[] 0)).2.2.2.2.2
  obtain ⟨M3, hM3⟩ : ∃ M, w.heap.size + 1 + 1 + 1 = M := ⟨_, rfl⟩
  obtain ⟨M2, hM2⟩ : ∃ M, w.heap.size + 1 + 1 = M := ⟨_, rfl⟩
  obtain ⟨M1, hM1⟩ : ∃ M, w.heap.size + 1 = M := ⟨_, rfl⟩
  rw [hM3, hM2, hM1]
  have E1 := hid hM1
  have E2 := hid hM2
  have E3 := hid hM3
  clear hM1 hM2 hM3 hmm
  go_loopg [2, 3, 4, 26] n (fun g rv cv sv kv wr => ∃ k c X ob Wl vW vR vP, k ≤ n ∧ g = n - k ∧ kv = .int .i64 (k : Nat) ∧ rv = .bool (allTo (okR tx act it) k) ∧ cv = .bool (allTo (okC tx act it) k) ∧ sv = .bool (allTo (okS tx act it) k) ∧ Rel tx act it w.heap.size w wr k c X ob Wl vW vR vP)
  case atStart => exact ⟨0, 0, _, _, _, _, _, _, Nat.zero_le _, rfl, rfl, rfl, rfl, rfl, START.out, Nat.le_refl _, fun x p _ => rfl, fun x _ => rfl, BST.out⟩
  case round =>
    obtain ⟨k, c, X, ob, Wl, vW, vR, vP, hkn, hgk, rfl, rfl, rfl, rfl, hrel⟩ := hrel
    by_cases hlt : k < n
    · by_cases hop : isOp (act k) = true
      · rename_i J K hJ hK
        have hJ2 : ∀ kk aa ww, Inv31 tx act it w n bo M1 M2 M3 kk aa ww → J kk aa ww := fun kk aa ww h => hJ kk aa ww h
        clear hJ START BST
        by_cases hend : isEnd (act k) = true
        · exact round_end n bo tx act it w hn hbo HO.out HWF.out H0.out HT.out HI.out M1 M2 M3 E1.out E2.out E3.out _ _ k c X ob Wl vW vR vP hlt hgk hrel hop hend J K hJ2 hK _ u10 u11 u12 u13 u14 u15 u17 u19 u27 u28 u29 u30 u31 u32 u33 u34 u35 u36 u37 u38 u39 u40 u41 u42 u43 u44 u45 u46 u47 u48 u49 u50 u51 u52 u53 u54 u55 u56 u57 u58 u59 u60 u61 u62 u63 u64 u65 u66 u67 u68 u69 u70 u71 u72 u73 u74 u75 u76 u77 u78 u79 u80 u81 u82 u83 u84 u85 u86 u87 u88 u89 u90 u91 u92 u93 u94 u95 u96 u97 u98 u99 u100 u101 u102 u103 u104 u105 u106 u107 u108 u109 u110 u111 u112 u113 u114 u115 u116 u117 u118 u119 u120 u121 u122 u123 u124 u125 u126 u127 u128 u129 u130 u131 u132 u133 u134 u135 u136 u137 u138 u139 u140 u141 u142 u143 u144 u145 u146 u147 u148 u149 u150 u151 u152 u153 u154 u155 u156 u157 u158 u159 u160 u161 u162 u163 u164 u165 u166 u167 u168 u169 u170 u171 u172 u173 u174 u175 u176 u177 u178 u179 u180 u181 u182 u183 u184 u185 u186 u187 u188 u189 u190 u191 u192 u193 u194 u195 u196 u197 u198 u199 u200 u201 u202 u203 u204 u205 u206 u207 u208 u209 u210 u211 u212 u213 u214 u215 u216 u217 u218 u219 u220 u221 u222 u223 u224 u225 u226 u227 u228 u229 u230 u231 u232 u233 u234 u235 u236 u237 u238 u239 u240 u241 u242
        · by_cases hsel : act k = 2
          · exact round_write n bo tx act it w hn hbo HO.out HWF.out H0.out HT.out HI.out M1 M2 M3 E1.out E2.out E3.out _ _ k c X ob Wl vW vR vP hlt hgk hrel hop hend hsel J K hJ2 hK _ _ u10 u11 u12 u13 u14 u15 u17 u19 u27 u28 u29 u30 u31 u32 u33 u34 u35 u36 u37 u38 u39 u40 u41 u42 u43 u44 u45 u46 u47 u48 u49 u50 u51 u52 u53 u54 u55 u56 u57 u58 u59 u60 u61 u62 u63 u64 u65 u66 u67 u68 u69 u70 u71 u72 u73 u74 u75 u76 u77 u78 u79 u80 u81 u82 u83 u84 u85 u86 u87 u88 u89 u90 u91 u92 u93 u94 u95 u96 u97 u98 u99 u100 u101 u102 u103 u104 u105 u106 u107 u108 u109 u110 u111 u112 u113 u114 u115 u116 u117 u118 u119 u120 u121 u122 u123 u124 u125 u126 u127 u128 u129 u130 u131 u132 u133 u134 u135 u136 u137 u138 u139 u140 u141 u142 u143 u144 u145 u146 u147 u148 u149 u150 u151 u152 u153 u154 u155 u156 u157 u158 u159 u160 u161 u162 u163 u164 u165 u166 u167 u168 u169 u170 u171 u172 u173 u174 u175 u176 u177 u178 u179 u180 u181 u182 u183 u184 u185 u186 u187 u188 u189 u190 u191 u192 u193 u194 u195 u196 u197 u198 u199 u200 u201 u202 u203 u204 u205 u206 u207 u208 u209 u210 u211 u212 u213 u214 u215 u216 u217 u218 u219 u220 u221 u222 u223 u224 u225 u226 u227 u228 u229 u230 u231 u232 u233 u234 u235 u236 u237 u238 u239 u240 u241 u242
          · exact round_read n bo tx act it w hn hbo HO.out HWF.out H0.out HT.out HI.out M1 M2 M3 E1.out E2.out E3.out _ _ k c X ob Wl vW vR vP hlt hgk hrel hop hend hsel J K hJ2 hK _ _ u10 u11 u12 u13 u14 u15 u17 u19 u27 u28 u29 u30 u31 u32 u33 u34 u35 u36 u37 u38 u39 u40 u41 u42 u43 u44 u45 u46 u47 u48 u49 u50 u51 u52 u53 u54 u55 u56 u57 u58 u59 u60 u61 u62 u63 u64 u65 u66 u67 u68 u69 u70 u71 u72 u73 u74 u75 u76 u77 u78 u79 u80 u81 u82 u83 u84 u85 u86 u87 u88 u89 u90 u91 u92 u93 u94 u95 u96 u97 u98 u99 u100 u101 u102 u103 u104 u105 u106 u107 u108 u109 u110 u111 u112 u113 u114 u115 u116 u117 u118 u119 u120 u121 u122 u123 u124 u125 u126 u127 u128 u129 u130 u131 u132 u133 u134 u135 u136 u137 u138 u139 u140 u141 u142 u143 u144 u145 u146 u147 u148 u149 u150 u151 u152 u153 u154 u155 u156 u157 u158 u159 u160 u161 u162 u163 u164 u165 u166 u167 u168 u169 u170 u171 u172 u173 u174 u175 u176 u177 u178 u179 u180 u181 u182 u183 u184 u185 u186 u187 u188 u189 u190 u191 u192 u193 u194 u195 u196 u197 u198 u199 u200 u201 u202 u203 u204 u205 u206 u207 u208 u209 u210 u211 u212 u213 u214 u215 u216 u217 u218 u219 u220 u221 u222 u223 u224 u225 u226 u227 u228 u229 u230 u231 u232 u233 u234 u235 u236 u237 u238 u239 u240 u241 u242
      · -- nothing of ours
        have i1 : (k : Int) < (n : Int) := by omega
        have HG := hid hgk
        have HR := hid hrel
        clear hgk hrel START BST
        obtain ⟨o1, o2, o3⟩ := HO.out k hlt
        have k1 := cell_later HR.out.bel o1
        have k2 := cell_later HR.out.bel o2
        have k3 := cell_later HR.out.bel o3
        clear o1 o2 o3
        have a0 := H0.out k
        have hnr := other_rel HR.out (by simpa using hop)
        have hfl := other_flags tx act it k (by simpa using hop)
        have HNR := hid hnr
        have HFL := hid hfl
        have hx : act k = 0 ∨ 4 < act k := by
          unfold isOp at hop
          simp at hop
          omega
        clear hnr hfl hop
        have q1 : (act k == 1) = false := by simp; omega
        have q2 : (act k == 2) = false := by simp; omega
        have q3 : (act k == 3) = false := by simp; omega
        have q4 : (act k == 4) = false := by simp; omega
        generalize act k = ak at *
        generalize tx k = tk at *
        generalize it k = ik at *
        clear hx
        go_wp2
        go_roundg (n - (k + 1))
        case measure => have := HG.out; omega
        case rel =>
          obtain ⟨f1, f2, f3⟩ := HFL.out
          exact ⟨k + 1, c, X, ob, Wl, vW, vR, vP, by omega, rfl, by go_num, by rw [f1], by rw [f2], by rw [f3], HNR.out _ (by simp) ((Below.refl _ _).alloc (Nat.le_refl _) _)⟩
    · have hk : k = n := by omega
      subst hk
      have HR := hid hrel
      clear hrel
      go_wp2
      go_ret3
      exact ⟨rfl, HR.out.bel⟩
end Go.Proofs.Qxb6600445a

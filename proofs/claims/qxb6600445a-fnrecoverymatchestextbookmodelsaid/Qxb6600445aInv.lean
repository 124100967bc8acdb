import Derived.Test.Qxb6600445aRecQ
import Derived.BigQuiet
import Derived.Deep.CutBlock
import Derived.Deep.RegionLaw
import Derived.Deep.CutRange
namespace Go.Proofs.Qxb6600445a
open Go.RowKit
set_option linter.unusedVariables false

def cL : Code → Code
  | .seq a _ => a
  | c => c
def cR : Code → Code
  | .seq _ b => b
  | c => c
def cB : Code → Code
  | .block _ c => c
  | c => c
def cP : Code → Code
  | .loop c => c
  | c => c
/-- the body of recovery's loop -/
noncomputable def C31 : Code := cP (cB (cR (cL (cR (cR (cR (cR (cR (cR (Try.f31.body.getD .skip))))))))))

set_option maxRecDepth 100000 in
/-- recovery's loop, at the head of a round -/
def Inv31 (tx : Nat → ByteArray) (act : Nat → Int) (it : Nat → ByteArray) (w : World) (n bo M1 M2 M3 : Nat) (gg : Nat) (aa : Act) (ww : World) : Prop :=
  ∃ u2 u3 u4 u10 u11 u12 u13 u14 u15 u17 u19 u26 u27 u28 u29 u30 u31 u32 u33 u34 u35 u36 u37 u38 u39 u40 u41 u42 u43 u44 u45 u46 u47 u48 u49 u50 u51 u52 u53 u54 u55 u56 u57 u58 u59 u60 u61 u62 u63 u64 u65 u66 u67 u68 u69 u70 u71 u72 u73 u74 u75 u76 u77 u78 u79 u80 u81 u82 u83 u84 u85 u86 u87 u88 u89 u90 u91 u92 u93 u94 u95 u96 u97 u98 u99 u100 u101 u102 u103 u104 u105 u106 u107 u108 u109 u110 u111 u112 u113 u114 u115 u116 u117 u118 u119 u120 u121 u122 u123 u124 u125 u126 u127 u128 u129 u130 u131 u132 u133 u134 u135 u136 u137 u138 u139 u140 u141 u142 u143 u144 u145 u146 u147 u148 u149 u150 u151 u152 u153 u154 u155 u156 u157 u158 u159 u160 u161 u162 u163 u164 u165 u166 u167 u168 u169 u170 u171 u172 u173 u174 u175 u176 u177 u178 u179 u180 u181 u182 u183 u184 u185 u186 u187 u188 u189 u190 u191 u192 u193 u194 u195 u196 u197 u198 u199 u200 u201 u202 u203 u204 u205 u206 u207 u208 u209 u210 u211 u212 u213 u214 u215 u216 u217 u218 u219 u220 u221 u222 u223 u224 u225 u226 u227 u228 u229 u230 u231 u232 u233 u234 u235 u236 u237 u238 u239 u240 u241 u242 : Value, (∃ k c X ob Wl vW vR vP, k ≤ n ∧ gg = n - k ∧ u26 = .int .i64 (k : Nat) ∧ u2 = .bool (allTo (okR tx act it) k) ∧ u3 = .bool (allTo (okC tx act it) k) ∧ u4 = .bool (allTo (okS tx act it) k) ∧ Rel tx act it w.heap.size w ww k c X ob Wl vW vR vP) ∧ aa = { tmps := #[.slice (some ⟨bo, 0, none⟩) n n, undef, u2, u3, u4, .map (some w.heap.size), .map (some M1), .map (some M2), .map (some M3), undef, u10, u11, u12, u13, u14, u15, undef, u17, undef, u19, .map (some w.heap.size), .map (some M1), .map (some M2), .map (some M3), .slice (some ⟨bo, 0, none⟩) n n, .int .i64 (n : Nat), u26, u27, u28, u29, u30, u31, u32, u33, u34, u35, u36, u37, u38, u39, u40, u41, u42, u43, u44, u45, u46, u47, u48, u49, u50, u51, u52, u53, u54, u55, u56, u57, u58, u59, u60, u61, u62, u63, u64, u65, u66, u67, u68, u69, u70, u71, u72, u73, u74, u75, u76, u77, u78, u79, u80, u81, u82, u83, u84, u85, u86, u87, u88, u89, u90, u91, u92, u93, u94, u95, u96, u97, u98, u99, u100, u101, u102, u103, u104, u105, u106, u107, u108, u109, u110, u111, u112, u113, u114, u115, u116, u117, u118, u119, u120, u121, u122, u123, u124, u125, u126, u127, u128, u129, u130, u131, u132, u133, u134, u135, u136, u137, u138, u139, u140, u141, u142, u143, u144, u145, u146, u147, u148, u149, u150, u151, u152, u153, u154, u155, u156, u157, u158, u159, u160, u161, u162, u163, u164, u165, u166, u167, u168, u169, u170, u171, u172, u173, u174, u175, u176, u177, u178, u179, u180, u181, u182, u183, u184, u185, u186, u187, u188, u189, u190, u191, u192, u193, u194, u195, u196, u197, u198, u199, u200, u201, u202, u203, u204, u205, u206, u207, u208, u209, u210, u211, u212, u213, u214, u215, u216, u217, u218, u219, u220, u221, u222, u223, u224, u225, u226, u227, u228, u229, u230, u231, u232, u233, u234, u235, u236, u237, u238, u239, u240, u241, u242, undef, undef, undef], defers := [] }
end Go.Proofs.Qxb6600445a

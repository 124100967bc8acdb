import Derived.Test.Qxb6600445aRec
import Derived.Test.Qxb6600445aModel
import Derived.Test.Qxb6600445aBytes
namespace Go.Proofs.Qxb6600445a
open Go.RowKit
set_option linter.unusedVariables false

theorem StrsAt.later {base : Nat} {w w' : World} {a : Option Addr} {n b off : Nat} {f : Nat → ByteArray} (h : StrsAt w a n b off f) (hb : Below w.heap.size w w') : StrsAt w' a n b off f :=
  ⟨h.1, fun j hj => cell_later hb (h.2 j hj)⟩
theorem BytesAt.later {base : Nat} {w w' : World} {a : Option Addr} {n b off : Nat} {f : Nat → Int} (h : BytesAt w a n b off f) (hb : Below w.heap.size w w') : BytesAt w' a n b off f :=
  ⟨h.1, fun j hj => cell_later hb (h.2 j hj)⟩

theorem zzrec_any (n bo : Nat) (tx : Nat → ByteArray) (act : Nat → Int) (it : Nat → ByteArray) (w : World) (hn : n ≤ 4096) (hbo : bo < w.heap.size) (hO : OpsAt w bo n tx act it) (hwf : WF tx act n) (h0 : ∀ j, 0 ≤ act j) (ht : ∀ j, (tx j).size ≤ maxLen) (hi : ∀ j, (it j).size ≤ maxLen) :
    Calls Try.prog 12 #[.slice (some ⟨bo, 0, none⟩) n n] w fun e w' => e = .returned (.tuple #[.bool (allTo (okR tx act it) n), .bool (allTo (okC tx act it) n), .bool (allTo (okS tx act it) n)]) ∧ Below w.heap.size w w' := by
  have KR := hid (rec_any n bo tx act it w hn hbo hO hwf h0 ht hi)
  clear hO hwf h0 ht hi
  go_enter Try.func12, Try.ntmps12
  go_wp2_with (go_at_call 31; refine KR.out.mono ?_; rintro e w' ⟨rfl, hb⟩)
  go_ret3
  exact ⟨rfl, hb⟩

set_option maxRecDepth 100000 in
set_option maxHeartbeats 1600000 in
theorem law_rec (a1 a2 a3 : Option Addr) (n1 n2 n3 c1 c2 c3 b1 o1 b2 o2 b3 o3 : Nat) (tx : Nat → ByteArray) (act : Nat → Int) (it : Nat → ByteArray) (w : World) (h1 : n1 ≤ 9223372036854775807) (h2 : n2 ≤ 9223372036854775807) (h3 : n3 ≤ 9223372036854775807)
    (hs1 : StrsAt w a1 n1 b1 o1 tx) (hs2 : BytesAt w a2 n2 b2 o2 act) (hs3 : StrsAt w a3 n3 b3 o3 it) (h0 : ∀ j, 0 ≤ act j) (ht : ∀ j, (tx j).size ≤ maxLen) (hi : ∀ j, (it j).size ≤ maxLen) :
    Calls Try.prog 3 #[.slice a1 n1 c1, .slice a2 n2 c2, .slice a3 n3 c3] w fun e w' => e = .returned (.bool true) ∧ Below w.heap.size w w' := by
  have HS1 := hid hs1
  have HS2 := hid hs2
  have HS3 := hid hs3
  have HT := hid ht
  have HI := hid hi
  have H0 := hid h0
  clear hs1 hs2 hs3 ht hi h0
  have KZ := hid (zz9 a1 a2 a3 n1 n2 n3 c1 c2 c3 b1 o1 b3 o3 tx it w h1 h2 h3 HS1.out HS3.out (fun j => by have := HT.out j; unfold maxLen at this; omega) (fun j => by have := HI.out j; unfold maxLen at this; omega))
  go_enter Try.func3, Try.ntmps3
  go_wp2_with fail
  refine KZ.out.mono ?_
  rintro e w' ⟨hr, rfl⟩
  clear KZ
  rcases hr with ⟨rfl, hsm⟩ | ⟨rfl, _⟩
  rotate_left
  · go_wp2
    go_ret
    exact ⟨rfl, Below.refl _ _⟩
  obtain ⟨sm1, sm3⟩ := hsm
  have SM1 := hid sm1
  have SM3 := hid sm3
  clear sm1 sm3
  by_cases g1 : n1 ≤ 4096
  rotate_left
  · go_wp2
    go_ret
    exact ⟨rfl, Below.refl _ _⟩
  by_cases g2 : n2 ≤ 4096
  rotate_left
  · go_wp2
    go_ret
    exact ⟨rfl, Below.refl _ _⟩
  by_cases g3 : n3 ≤ 4096
  rotate_left
  · go_wp2
    go_ret
    exact ⟨rfl, Below.refl _ _⟩
  have K1 := hid (sb_any a1 n1 c1 b1 o1 tx w g1 HS1.out SM1.out)
  have K3 := hid (sb_any a3 n3 c3 b3 o3 it w g3 HS3.out SM3.out)
  go_wp2_with fail
  refine K1.out.mono ?_
  rintro e w' ⟨⟨r1, r10, r11, rfl⟩, rfl⟩
  go_wp2_with fail
  refine K3.out.mono ?_
  rintro e w' ⟨⟨r3, r30, r31, rfl⟩, rfl⟩
  clear K1 K3
  by_cases g4 : (n2 : Int) + r1 + r3 ≤ 1048576
  rotate_left
  · go_wp2
    go_ret
    exact ⟨rfl, Below.refl _ _⟩
  by_cases g5 : n1 = n2
  rotate_left
  · have q : ¬ ((n1 : Int) = (n2 : Int)) := by omega
    have q2 : ((n1 : Int) != (n2 : Int)) = true := by simp; omega
    go_wp2
    go_ret
    exact ⟨rfl, Below.refl _ _⟩
  subst g5
  by_cases g6 : n3 = n1
  rotate_left
  · have q : ¬ ((n3 : Int) = (n1 : Int)) := by omega
    have q2 : ((n3 : Int) != (n1 : Int)) = true := by simp; omega
    go_wp2
    go_ret
    exact ⟨rfl, Below.refl _ _⟩
  subst g6
  have KW := hid (wf_any a1 a2 n3 c1 c2 b1 o1 b2 o2 tx act w g1 HS1.out HS2.out)
  go_wp2_with fail
  refine KW.out.mono ?_
  rintro e w' ⟨hr, m, rfl⟩
  clear KW
  have BM := hid (below_drewN w m)
  rcases hr with ⟨rfl, hwf⟩ | ⟨rfl, _⟩
  rotate_left
  · go_wp2
    go_ret
    exact ⟨rfl, BM.out⟩
  have HWF := hid hwf
  clear hwf
  have KO := hid (ops_any a1 a2 a3 n3 c1 c2 c3 b1 o1 b2 o2 b3 o3 tx act it (w.drewN m) g1 (HS1.out.later (base := 0) BM.out) (HS2.out.later (base := 0) BM.out) (HS3.out.later (base := 0) BM.out))
  go_wp2_with fail
  refine KO.out.mono ?_
  rintro e wA ⟨rfl, hA1, hA2, hA3⟩
  have HA1 := hid hA1
  have HA3 := hid (show Below w.heap.size w wA from BM.out.trans hA3)
  clear hA1 hA3 KO
  have KR := hid (zzrec_any n3 w.heap.size tx act it wA g1 hA2 HA1.out HWF.out H0.out HT.out HI.out)
  go_wp2_with fail
  refine KR.out.mono ?_
  rintro e wB ⟨rfl, hB⟩
  have HB := hid (show Below w.heap.size w wB from HA3.out.trans (hB.mono HA3.out.size))
  clear hB KR
  have KM := hid (model_any a1 a2 a3 n3 c1 c2 c3 b1 o1 b2 o2 b3 o3 tx act it wB g1 (HS1.out.later (base := 0) HB.out) (HS2.out.later (base := 0) HB.out) (HS3.out.later (base := 0) HB.out))
  obtain ⟨e1, e2, e3⟩ := model_is (it := it) HWF.out
  rw [e1, e2, e3] at KM
  clear e1 e2 e3
  generalize allTo (okR tx act it) n3 = R1 at *
  generalize allTo (okC tx act it) n3 = R2 at *
  generalize allTo (okS tx act it) n3 = R3 at *
  go_wp2_with fail
  refine KM.out.mono ?_
  rintro e wC ⟨rfl, hC⟩
  have HC := hid (show Below w.heap.size w wC from HB.out.trans (hC.mono HB.out.size))
  clear hC KM
  cases R1 <;> cases R2 <;> cases R3
  all_goals
    go_wp2
    go_ret
    exact ⟨rfl, HC.out⟩
end Go.Proofs.Qxb6600445a

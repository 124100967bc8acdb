import Derived.WalkKit
import Derived.WalkSpells
import Derived.Maps.OwnSet
import Derived.RegionTactic
namespace Go.Proofs.Qxb6600445a
open Go.Maps (Keyed)
set_option linter.unusedVariables false

/-- an element reads as its own value -/
def raw (v : Value) : Option (DataW Value × List MemPlace) := some (.held v, [])

/-- block b is a map of c entries; f says what stands at each key -/
def mapF (w : World) (P : Program) (k : TypeId) (b c : Nat) (f : Lit → Option Value) : Prop :=
  ∃ D : DataW Value, w.ownsMap P k raw b c D ∧ Go.Maps.size D = c ∧ ∀ v l, keyOf P k v = some l → Go.Maps.has D l = (f l).isSome ∧ ∀ z, D.atKey l (.held z) = .held ((f l).getD z)

section
variable {P : Program} {k : TypeId} {w : World} {b c : Nat} {f : Lit → Option Value}

theorem mapF_made (w : World) (P : Program) (k : TypeId) : mapF (w.alloc (.map #[] 0)) P k w.heap.size 0 (fun _ => none) :=
  ⟨.map [], World.ownsMap_made w P k raw, rfl, fun v l h => ⟨rfl, fun z => rfl⟩⟩

theorem mapF.kept {w' : World} {row : Option Nat} (h : mapF w P k b c f) (hg : w.grownBy w' row) (hne : some b ≠ row) : mapF w' P k b c f := by
  obtain ⟨D, h1, h2⟩ := h
  exact ⟨D, h1.kept hg hne, h2⟩

theorem mapF.of_block {w' : World} (h : mapF w P k b c f) (hb : w'.heap[b]? = w.heap[b]?) : mapF w' P k b c f := by
  obtain ⟨D, ⟨es, clock, h1, h3⟩, h2⟩ := h
  exact ⟨D, ⟨es, clock, hb.trans h1, h3⟩, h2⟩

theorem mapF.lt (h : mapF w P k b c f) : b < w.heap.size := by
  obtain ⟨D, h1, _⟩ := h
  exact h1.lt

theorem mapF.isMap (h : mapF w P k b c f) : ∃ es cl, w.heap[b]? = some (.map es cl) := by
  obtain ⟨D, ⟨es, clock, h1, _⟩, _⟩ := h
  exact ⟨es, clock, h1⟩

theorem mapF.look {t e : TypeId} (h : mapF w P k b c f) (K : Keyed P k) (ht : P.underlying t = some (.map k e)) {z : Value} (hz : (zeroValue e).run P w = .ok z w) {key : Value} {kl : Lit} (hkey : keyOf P k key = some kl) :
    (Instr.lookup t (.map (some b)) key false).run P w = .ok ((f kl).getD z) w := by
  obtain ⟨D, h1, h2, h3⟩ := h
  obtain ⟨v, ps, hrun, hv⟩ := h1.lookup K ht hz (zd := .held z) (zp := []) rfl hkey
  rw [(h3 key kl hkey).2 z] at hv
  simp [raw] at hv
  rw [hrun, hv.1]

theorem mapF.look_ok {t e : TypeId} (h : mapF w P k b c f) (K : Keyed P k) (ht : P.underlying t = some (.map k e)) {z : Value} (hz : (zeroValue e).run P w = .ok z w) {key : Value} {kl : Lit} (hkey : keyOf P k key = some kl) :
    (Instr.lookup t (.map (some b)) key true).run P w = .ok (.tuple #[(f kl).getD z, .bool (f kl).isSome]) w := by
  obtain ⟨D, h1, h2, h3⟩ := h
  obtain ⟨v, ps, hrun, hv⟩ := h1.look_ok K ht hz (zd := .held z) (zp := []) rfl hkey
  rw [(h3 key kl hkey).2 z] at hv
  simp [raw] at hv
  rw [hrun, hv.1, (h3 key kl hkey).1]

theorem mapF.len {t e : TypeId} (h : mapF w P k b c f) (ht : P.underlying t = some (.map k e)) (ty : TypeId) : (Builtin.len_ #[t] ty #[.map (some b)]).run P w = .ok (.int .i64 c) w := by
  obtain ⟨D, h1, h2, h3⟩ := h
  rw [h1.len ht ty, h2]

theorem mapF.put {t e : TypeId} (h : mapF w P k b c f) (K : Keyed P k) (ht : P.underlying t = some (.map k e)) (hn : c < maxLen) {key val : Value} {kl : Lit} (hkey : keyOf P k key = some kl) (f' : Lit → Option Value) (hs1 : f' kl = some val) (ho : ∀ x, x ≠ kl → f' x = f x) :
    ∃ w', (Instr.mapUpdate t (.map (some b)) key val).run P w = .ok () w' ∧ mapF w' P k b (if (f kl).isSome then c else c + 1) f' ∧ w.mapTurned w' b := by
  obtain ⟨D, h1, h2, h3⟩ := h
  obtain ⟨w', hrun, h4, h5⟩ := h1.store K ht hn (val := val) hkey (d := .held val) (ps := []) rfl
  have hs : Go.Maps.size (D.put kl (.held val)) = if (f kl).isSome then c else c + 1 := by
    rw [Go.Maps.size_put (h1.tidy K), (h3 key kl hkey).1, h2]
  refine ⟨w', hrun, ⟨D.put kl (.held val), ?_, hs, fun v l hl => ?_⟩, h5⟩
  · obtain ⟨es, clock, a1, a2, a3, a4⟩ := h4
    refine ⟨es, clock, a1, a2, ?_, a4⟩
    have := congrArg Go.Maps.size a4
    rw [hs, Go.Maps.size_eq, length_sorted] at this
    simp at this
    omega
  · by_cases e : l = kl
    · subst e
      rw [hs1]
      exact ⟨Go.Maps.has_put_same h1.isMap (K.key hl) _, fun z => Go.Maps.atKey_put_same h1.isMap (K.key hl) _ _⟩
    · rw [ho l e]
      rw [Go.Maps.has_put_other e]
      exact ⟨(h3 v l hl).1, fun z => by rw [Go.Maps.atKey_put_other e]; exact (h3 v l hl).2 z⟩

theorem mapF.del {t e : TypeId} (h : mapF w P k b c f) (K : Keyed P k) (ht : P.underlying t = some (.map k e)) {key : Value} {kl : Lit} (hkey : keyOf P k key = some kl) (ty : TypeId) (f' : Lit → Option Value) (hs1 : f' kl = none) (ho : ∀ x, x ≠ kl → f' x = f x) :
    ∃ w', (Builtin.delete_ #[t, k] ty #[.map (some b), key]).run P w = .ok (.tuple #[]) w' ∧ mapF w' P k b (if (f kl).isSome then c - 1 else c) f' ∧ w.mapTurned w' b := by
  obtain ⟨D, h1, h2, h3⟩ := h
  obtain ⟨w', hrun, h4, h5⟩ := h1.drop K ht hkey ty
  have hs : Go.Maps.size (D.del kl) = if (f kl).isSome then c - 1 else c := by
    have := Go.Maps.size_del (k := kl) (h1.tidy K)
    rw [(h3 key kl hkey).1, h2] at this
    split at this <;> simp_all <;> omega
  refine ⟨w', hrun, ⟨D.del kl, ?_, hs, fun v l hl => ?_⟩, h5⟩
  · obtain ⟨es, clock, a1, a2, a3, a4⟩ := h4
    refine ⟨es, clock, a1, a2, ?_, a4⟩
    have := congrArg Go.Maps.size a4
    rw [hs, Go.Maps.size_eq, length_sorted] at this
    simp at this
    omega
  · by_cases e : l = kl
    · subst e
      rw [hs1]
      exact ⟨Go.Maps.has_del_same, fun z => Go.Maps.atKey_del_same _⟩
    · rw [ho l e]
      rw [Go.Maps.has_del_other e]
      exact ⟨(h3 v l hl).1, fun z => by rw [Go.Maps.atKey_del_other e]; exact (h3 v l hl).2 z⟩
end

/-! ### at the operation -/
section
variable {P : Program} (w : World) {o : Oper} {a : Act} {K0 : Act → World → Prop} {Q : Exit → Act → World → Prop}

theorem wp_putF (m x v : Operand) (t : TypeId) (hop : o.op = Op.mapUpdate t m x v)
    (k e : TypeId) (K : Keyed P k) (ht : P.underlying t = some (.map k e)) (b c : Nat) (f : Lit → Option Value)
    (hm : a.eval m = .map (some b)) (hF : mapF w P k b c f) (hn : c < maxLen) (key val : Value) (kl : Lit) (hx : a.eval x = key) (hv : a.eval v = val) (hkey : keyOf P k key = some kl) (f' : Lit → Option Value) (hs1 : f' kl = some val) (ho : ∀ x, x ≠ kl → f' x = f x)
    (hK : ∀ w', mapF w' P k b (if (f kl).isSome then c else c + 1) f' → w.mapTurned w' b → K0 (a.put o.dst undef) w') : o.wp P a w K0 Q := by
  obtain ⟨w', hrun, h1, h2⟩ := hF.put K ht hn (val := val) hkey f' hs1 ho
  unfold Oper.wp
  simp [execOp, hop, hm, hx, hv, hrun, Result.andThen]
  exact hK w' h1 h2

theorem wpList_putF {ops : Array Oper} {rest : List Oper} (hg : o.guard = none) (m x v : Operand) (t : TypeId) (hop : o.op = Op.mapUpdate t m x v)
    (k e : TypeId) (K : Keyed P k) (ht : P.underlying t = some (.map k e)) (b c : Nat) (f : Lit → Option Value)
    (hm : a.eval m = .map (some b)) (hF : mapF w P k b c f) (hn : c < maxLen) (key val : Value) (kl : Lit) (hx : a.eval x = key) (hv : a.eval v = val) (hkey : keyOf P k key = some kl) (f' : Lit → Option Value) (hs1 : f' kl = some val) (ho : ∀ x, x ≠ kl → f' x = f x)
    (hK : ∀ w', mapF w' P k b (if (f kl).isSome then c else c + 1) f' → w.mapTurned w' b → wpList P ops Q rest (a.put o.dst undef) w') : wpList P ops Q (o :: rest) a w :=
  wpList_plain hg fun K' hK' => wp_putF w m x v t hop k e K ht b c f hm hF hn key val kl hx hv hkey f' hs1 ho fun w' h1 h2 => hK' _ _ (hK w' h1 h2)
end
end Go.Proofs.Qxb6600445a

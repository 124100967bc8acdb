import Derived.Test.Qxb6600445aRecM
namespace Go.Proofs.Qxb6600445a
open Go.RowKit
open Go.Maps (Keyed)
set_option linter.unusedVariables false

def cutV (m : Nat) : Value → Value
  | .slice (some a) _ cap => .slice (some a) m cap
  | v => v
theorem owns_take {w : World} {base : Nat} {e : TypeId} {v : Value} {n m : Nat} {xs : List Value} (h : w.ownsRow base e 1 v n xs) (hm : m ≤ n) : w.ownsRow base e 1 (cutV m v) m (xs.take m) := by
  obtain ⟨h1, h2⟩ := h
  refine ⟨by simp; omega, ?_⟩
  rcases h2 with ⟨rfl, h0⟩ | ⟨g, cap, cur, rfl, hb, hg, hc, hcm, hcs, ht⟩
  · exact .inl ⟨rfl, by omega⟩
  · refine .inr ⟨g, cap, cur, rfl, hb, hg, by omega, hcm, hcs, ?_⟩
    rw [← ht, List.take_take]
    congr 1
    omega
theorem cutV_block (m : Nat) (v : Value) : (cutV m v).ownBlock = v.ownBlock := by
  cases v <;> try rfl
  rename_i o n c
  cases o <;> rfl

section
variable {B nb c : Nat} {w0 w w' : World} {X : ByteArray → Option Nat} {ob : ByteArray → Nat} {E : ByteArray → Int} {O : ByteArray → ByteArray → Bool} {Wl RF WR : ByteArray → List ByteArray} {vW vR vP : ByteArray → Value} {t x : ByteArray} {a : Int}

/-- it.writes = it.writes[:m] -/
theorem St.takeW (H : St B nb w0 w c X ob E O Wl RF WR vW vR vP t a x) {y : ByteArray} {b : Nat} (hy : X y = some b) (m : Nat) (hm : m ≤ (Wl y).length) :
    St B nb w0 (w.setCell ⟨b, 0, none⟩ (cutV m (vW y))) (c + 1) X ob E O (up Wl y ((Wl y).take m)) RF WR (up vW y (cutV m (vW y))) vR vP t a x := by
  have hl := (H.mem.lens y).1
  have hs := H.mem.size
  obtain ⟨hbx, _, _, hbB⟩ := H.mem.itm y b hy
  have bW : (vW y).ownBlock ≠ some b := fun e => by
    obtain ⟨_, cur, hcur⟩ := own_block (H.mem.rowW y) e
    rw [hbx] at hcur; simp [item] at hcur
  have nbb : nb ≠ b := fun e => by
    have := H.box; rw [e, hbx] at this; simp [item, Go.Proofs.Qxb6600445a.box] at this
  have S : ∀ k, k ≠ b → (w.setCell ⟨b, 0, none⟩ (cutV m (vW y))).heap[k]? = w.heap[k]? := fun k hk => heap_setCell_other w ⟨b, 0, none⟩ k _ hk
  refine ⟨H.mem.setW y b hy _ _ ?_ ?_ ?_ (by simp) (fun k hk h1 h2 => S k h1) (fun g' hg' => .inl (by rw [cutV_block] at hg'; exact hg')), (S nb nbb).trans H.box, H.keepers (by simp) rfl rfl rfl (fun j hj => S j (by omega))⟩
  · exact heap_setCell_same w b 0 _ 67 _ hbx
  · have h1 := owns_take (H.mem.rowW y) hm
    have h2 := own_of_block (w' := w.setCell ⟨b, 0, none⟩ (cutV m (vW y))) h1 (fun g hg => S g (fun e => by rw [cutV_block] at hg; rw [e] at hg; exact bW hg))
    rw [List.length_take, Nat.min_eq_left hm]
    simpa [strs] using h2
  · simp; omega

theorem turned_keep (H : St B nb w0 w c X ob E O Wl RF WR vW vR vP t a x) {m : Nat} (hm : ∃ es cl, w.heap[m]? = some (.map es cl)) (hmB : B ≤ m) (hT : w.mapTurned w' m) : w'.heap[nb]? = some (box t a x) ∧ Below B w0 w' := by
  have G := hT.grown
  obtain ⟨es, cl, hm⟩ := hm
  have lnb := getElem_lt H.box
  have hs := H.mem.size
  refine ⟨(G.block nb lnb (fun e => ?_)).trans H.box, H.keepers G.size G.os G.tape G.output (fun j hj => G.block j (by omega) (by simp; omega))⟩
  cases e
  have := H.box
  rw [hm] at this
  cases this

/-- it.open[s] = true -/
theorem St.putOpen (H : St B nb w0 w c X ob E O Wl RF WR vW vR vP t a x) {y : ByteArray} {b : Nat} (hy : X y = some b) {s : ByteArray} (hs : s.size ≤ maxLen) (hc : c < 1000000) :
    ∃ w', (Instr.mapUpdate 65 (.map (some (ob y))) (.string s) (.bool true)).run Try.prog w = .ok () w' ∧ St B nb w0 w' (c + 1) X ob E (up O y (up (O y) s true)) Wl RF WR vW vR vP t a x := by
  obtain ⟨_, ⟨n, hn, h⟩, hob, _⟩ := H.mem.itm y b hy
  obtain ⟨w', hr, hF, hT⟩ := h.put law44 Try.underlying65 (by unfold maxLen; omega) (val := .bool true) (key44 hs) (keyF (up (fun t => if O y t then some (.bool true) else none) s (some (.bool true)))) (keyF_up _ _ _).1 (keyF_up _ _ _).2
  obtain ⟨k1, k2⟩ := turned_keep H h.isMap (by omega) hT
  refine ⟨w', hr, H.mem.setO (n := if (keyF (fun t => if O y t then some (.bool true) else none) (kl s)).isSome then n else n + 1) (Nat.le_succ c) y b hy _ (by split <;> omega) hT ?_, k1, k2⟩
  have e : (fun t => if up (O y) s true t then some (Value.bool true) else none) = up (fun t => if O y t then some (.bool true) else none) s (some (.bool true)) := by
    funext r
    unfold up
    by_cases h : r = s <;> simp [h]
  rw [e]
  exact hF

/-- delete(it.open, s) -/
theorem St.delOpen (H : St B nb w0 w c X ob E O Wl RF WR vW vR vP t a x) {y : ByteArray} {b : Nat} (hy : X y = some b) {s : ByteArray} (hs : s.size ≤ maxLen) :
    ∃ w', (Builtin.delete_ #[65, 44] 0 #[.map (some (ob y)), .string s]).run Try.prog w = .ok (.tuple #[]) w' ∧ St B nb w0 w' c X ob E (up O y (up (O y) s false)) Wl RF WR vW vR vP t a x := by
  obtain ⟨_, ⟨n, hn, h⟩, hob, _⟩ := H.mem.itm y b hy
  obtain ⟨w', hr, hF, hT⟩ := h.del law44 Try.underlying65 (key44 hs) 0 (keyF (up (fun t => if O y t then some (.bool true) else none) s none)) (keyF_up _ _ _).1 (keyF_up _ _ _).2
  obtain ⟨k1, k2⟩ := turned_keep H h.isMap (by omega) hT
  refine ⟨w', hr, H.mem.setO (n := if (keyF (fun t => if O y t then some (.bool true) else none) (kl s)).isSome then n - 1 else n) (Nat.le_refl c) y b hy _ (by split <;> omega) hT ?_, k1, k2⟩
  have e : (fun t => if up (O y) s false t then some (Value.bool true) else none) = up (fun t => if O y t then some (.bool true) else none) s none := by
    funext r
    unfold up
    by_cases h : r = s <;> simp [h]
  rw [e]
  exact hF

/-- ended[s] = a -/
theorem St.putEnded (H : St B nb w0 w c X ob E O Wl RF WR vW vR vP t a x) {s : ByteArray} (hs : s.size ≤ maxLen) (hc : c < 1000000) {a' : Int} (ha : a' ≠ 0) :
    ∃ w', (Instr.mapUpdate 61 (.map (some (B + 1))) (.string s) (.int .u8 a')).run Try.prog w = .ok () w' ∧ St B nb w0 w' (c + 1) X ob (up E s a') O Wl RF WR vW vR vP t a x := by
  obtain ⟨n, hn, h⟩ := H.mem.ended
  obtain ⟨w', hr, hF, hT⟩ := h.put law44 Try.underlying61 (by unfold maxLen; omega) (val := .int .u8 a') (key44 hs) (keyF (up (fun t => if E t = 0 then none else some (.int .u8 (E t))) s (some (.int .u8 a')))) (keyF_up _ _ _).1 (keyF_up _ _ _).2
  obtain ⟨k1, k2⟩ := turned_keep H h.isMap (by omega) hT
  exact ⟨w', hr, H.mem.putEnded s a' ha (by split <;> omega) hT hF, k1, k2⟩

/-- delete(wrote, s) -/
theorem St.delWrote (H : St B nb w0 w c X ob E O Wl RF WR vW vR vP t a x) {s : ByteArray} (hs : s.size ≤ maxLen) :
    ∃ w', (Builtin.delete_ #[62, 44] 0 #[.map (some (B + 2)), .string s]).run Try.prog w = .ok (.tuple #[]) w' ∧ St B nb w0 w' c X ob E O Wl RF (up WR s []) vW vR (up vP s nilS) t a x := by
  obtain ⟨n, f, hn, h, hf⟩ := H.mem.wrote
  obtain ⟨w', hr, hF, hT⟩ := h.del law44 Try.underlying62 (key44 hs) 0 (keyF (up f s none)) (keyF_up _ _ _).1 (keyF_up _ _ _).2
  obtain ⟨k1, k2⟩ := turned_keep H h.isMap (by omega) hT
  exact ⟨w', hr, H.mem.delWrote s (by split <;> omega) hf hT hF, k1, k2⟩
/-- delete(readFrom, s) -/
theorem St.delRead (H : St B nb w0 w c X ob E O Wl RF WR vW vR vP t a x) {s : ByteArray} (hs : s.size ≤ maxLen) :
    ∃ w', (Builtin.delete_ #[63, 44] 0 #[.map (some (B + 3)), .string s]).run Try.prog w = .ok (.tuple #[]) w' ∧ St B nb w0 w' c X ob E O Wl (up RF s []) WR vW (up vR s nilS) vP t a x := by
  obtain ⟨n, f, hn, h, hf⟩ := H.mem.readF
  obtain ⟨w', hr, hF, hT⟩ := h.del law44 Try.underlying63 (key44 hs) 0 (keyF (up f s none)) (keyF_up _ _ _).1 (keyF_up _ _ _).2
  obtain ⟨k1, k2⟩ := turned_keep H h.isMap (by omega) hT
  exact ⟨w', hr, H.mem.delRead s (by split <;> omega) hf hT hF, k1, k2⟩

/-- wrote[s] = append(wrote[s], it) -/
theorem St.addWrote (H : St B nb w0 w c X ob E O Wl RF WR vW vR vP t a x) {y : ByteArray} {b : Nat} (hy : X y = some b) {s : ByteArray} (hsz : s.size ≤ maxLen) (hc : c < 1000000) :
    ∃ g cap w1 w2, (Builtin.append_ #[68, 68] 68 #[vP s, .slice (some ⟨w.heap.size, 0, none⟩) 1 1]).run Try.prog (w.alloc (.cells #[pt b] 64)) = .ok (.slice (some ⟨g, 0, none⟩) ((WR s).length + 1) cap) w1 ∧ w1.heap[nb]? = some (Go.Proofs.Qxb6600445a.box t a x) ∧
      (Instr.mapUpdate 62 (.map (some (B + 2))) (.string s) (.slice (some ⟨g, 0, none⟩) ((WR s).length + 1) cap)).run Try.prog w1 = .ok () w2 ∧
      St B nb w0 w2 (c + 1) X ob E O Wl RF (up WR s (WR s ++ [y])) vW vR (up vP s (.slice (some ⟨g, 0, none⟩) ((WR s).length + 1) cap)) t a x := by
  obtain ⟨i0, hi, hz0, hz1, hz2⟩ := info_parts info64
  have hl := (H.mem.lens s).2.2
  have hs := H.mem.size
  have e1 : (w.alloc (.cells #[pt b] 64)).heap.size = w.heap.size + 1 := by simp
  have hb : Below w.heap.size w (w.alloc (.cells #[pt b] 64)) := (Below.refl _ _).alloc (Nat.le_refl _) _
  have hrow := own_of_block (w' := w.alloc (.cells #[pt b] 64)) (H.mem.rowP s) (fun g hg => hb.block g (by obtain ⟨_, cur, h⟩ := own_block (H.mem.rowP s) hg; exact getElem_lt h))
  obtain ⟨g, cap, w1, hr, hown, hgr, hat, hlt⟩ := run_append_lies (P := Try.prog) (w.alloc (.cells #[pt b] 64)) 68 68 (B + 4) 64 i0 (.pointer none) 1 8 Try.underlying68 hi hz0 hz1 hz2 (by rfl) (by decide) (vP s) (WR s).length _ hrow ⟨w.heap.size, 0, none⟩ 1 1 [pt b] (by rfl) (World.news_of_block (heap_alloc_new w _)) (by simp [Value.oneCell', pt]) (by decide) (by unfold maxLen; omega) (by omega) (by omega) _ rfl
  have lnb := getElem_lt H.box
  have nbP : (vP s).ownBlock ≠ some nb := H.nbRow (2, s)
  have K : ∀ k, k < w.heap.size → (vP s).ownBlock ≠ some k → w1.heap[k]? = w.heap[k]? := fun k hk hne => (hgr.block k (by omega) (fun e => hne e.symm)).trans (hb.block k hk)
  obtain ⟨n, f, hn, h, hf⟩ := H.mem.wrote
  have low : ∀ k, k < B + 4 → (vP s).ownBlock ≠ some k := fun k hk e => by have := (own_block (H.mem.rowP s) e).1; omega
  have h' := h.of_block (K (B + 2) h.lt (low _ (by omega)))
  obtain ⟨w2, hr2, hF, hT⟩ := h'.put law44 Try.underlying62 (by unfold maxLen; omega) (val := .slice (some ⟨g, 0, none⟩) ((WR s).length + 1) cap) (key44 hsz) (keyF (up f s (some (.slice (some ⟨g, 0, none⟩) ((WR s).length + 1) cap)))) (keyF_up _ _ _).1 (keyF_up _ _ _).2
  have G := hT.grown
  have szz := hgr.size
  have K2 : ∀ k, k < w.heap.size → k ≠ B + 2 → (vP s).ownBlock ≠ some k → w2.heap[k]? = w.heap[k]? := fun k hk h1 h2 => (G.block k (by omega) (by simp; omega)).trans (K k hk h2)
  have nbne : nb ≠ B + 2 := map_ne h H.box
  have b1 := (K nb lnb nbP).trans H.box
  have hgB : g ≠ B + 2 := by
    rcases hat with h | h
    · have := low g
      intro e
      exact this (by omega) h
    · omega
  refine ⟨g, cap, w1, w2, hr, b1, hr2, H.mem.addWrote s y b hy _ ?_ hf hF ?_ (by have := G.size; omega) K2 (fun g' hg' => ?_), (K2 nb lnb nbne nbP).trans H.box, H.keepers (by have := G.size; omega) (G.os.trans hgr.os) (G.tape.trans hgr.tape) (G.output.trans hgr.output) (fun j hj => K2 j (by omega) (by omega) (low j (by omega)))⟩
  · split <;> omega
  · exact own_of_block hown (fun g' hg' => by simp [Value.ownBlock] at hg'; subst hg'; exact G.block g hlt (by simp; omega))
  · simp [Value.ownBlock] at hg'
    subst hg'
    rcases hat with h | h
    · exact .inl h
    · right; omega

/-- readFrom[s] = append(readFrom[s], r) -/
theorem St.addRead (H : St B nb w0 w c X ob E O Wl RF WR vW vR vP t a x) (r : ByteArray) {s : ByteArray} (hsz : s.size ≤ maxLen) (hc : c < 1000000) :
    ∃ g cap w1 w2, (Builtin.append_ #[39, 39] 39 #[vR s, .slice (some ⟨w.heap.size, 0, none⟩) 1 1]).run Try.prog (w.alloc (.cells #[.string r] 44)) = .ok (.slice (some ⟨g, 0, none⟩) ((RF s).length + 1) cap) w1 ∧ w1.heap[nb]? = some (Go.Proofs.Qxb6600445a.box t a x) ∧
      (Instr.mapUpdate 63 (.map (some (B + 3))) (.string s) (.slice (some ⟨g, 0, none⟩) ((RF s).length + 1) cap)).run Try.prog w1 = .ok () w2 ∧
      St B nb w0 w2 (c + 1) X ob E O Wl (up RF s (RF s ++ [r])) WR vW (up vR s (.slice (some ⟨g, 0, none⟩) ((RF s).length + 1) cap)) vP t a x := by
  obtain ⟨i0, hi, hz0, hz1, hz2⟩ := info_parts info44
  have hl := (H.mem.lens s).2.1
  have hs := H.mem.size
  have e1 : (w.alloc (.cells #[.string r] 44)).heap.size = w.heap.size + 1 := by simp
  have hb : Below w.heap.size w (w.alloc (.cells #[.string r] 44)) := (Below.refl _ _).alloc (Nat.le_refl _) _
  have hrow := own_of_block (w' := w.alloc (.cells #[.string r] 44)) (H.mem.rowR s) (fun g hg => hb.block g (by obtain ⟨_, cur, h⟩ := own_block (H.mem.rowR s) hg; exact getElem_lt h))
  obtain ⟨g, cap, w1, hr, hown, hgr, hat, hlt⟩ := run_append_lies (P := Try.prog) (w.alloc (.cells #[.string r] 44)) 39 39 (B + 4) 44 i0 (.string ByteArray.empty) 1 16 Try.underlying39 hi hz0 hz1 hz2 (by rfl) (by decide) (vR s) (RF s).length _ hrow ⟨w.heap.size, 0, none⟩ 1 1 [.string r] (by rfl) (World.news_of_block (heap_alloc_new w _)) (by simp [Value.oneCell']) (by decide) (by unfold maxLen; omega) (by omega) (by omega) _ rfl
  have lnb := getElem_lt H.box
  have nbP : (vR s).ownBlock ≠ some nb := H.nbRow (1, s)
  have K : ∀ k, k < w.heap.size → (vR s).ownBlock ≠ some k → w1.heap[k]? = w.heap[k]? := fun k hk hne => (hgr.block k (by omega) (fun e => hne e.symm)).trans (hb.block k hk)
  obtain ⟨n, f, hn, h, hf⟩ := H.mem.readF
  have low : ∀ k, k < B + 4 → (vR s).ownBlock ≠ some k := fun k hk e => by have := (own_block (H.mem.rowR s) e).1; omega
  have h' := h.of_block (K (B + 3) h.lt (low _ (by omega)))
  obtain ⟨w2, hr2, hF, hT⟩ := h'.put law44 Try.underlying63 (by unfold maxLen; omega) (val := .slice (some ⟨g, 0, none⟩) ((RF s).length + 1) cap) (key44 hsz) (keyF (up f s (some (.slice (some ⟨g, 0, none⟩) ((RF s).length + 1) cap)))) (keyF_up _ _ _).1 (keyF_up _ _ _).2
  have G := hT.grown
  have szz := hgr.size
  have K2 : ∀ k, k < w.heap.size → k ≠ B + 3 → (vR s).ownBlock ≠ some k → w2.heap[k]? = w.heap[k]? := fun k hk h1 h2 => (G.block k (by omega) (by simp; omega)).trans (K k hk h2)
  have nbne : nb ≠ B + 3 := map_ne h H.box
  have b1 := (K nb lnb nbP).trans H.box
  have hgB : g ≠ B + 3 := by
    rcases hat with h | h
    · have := low g
      intro e
      exact this (by omega) h
    · omega
  refine ⟨g, cap, w1, w2, hr, b1, hr2, H.mem.addRead s r _ ?_ hf hF ?_ (by have := G.size; omega) K2 (fun g' hg' => ?_), (K2 nb lnb nbne nbP).trans H.box, H.keepers (by have := G.size; omega) (G.os.trans hgr.os) (G.tape.trans hgr.tape) (G.output.trans hgr.output) (fun j hj => K2 j (by omega) (by omega) (low j (by omega)))⟩
  · split <;> omega
  · exact own_of_block hown (fun g' hg' => by simp [Value.ownBlock] at hg'; subst hg'; exact G.block g hlt (by simp; omega))
  · simp [Value.ownBlock] at hg'
    subst hg'
    rcases hat with h | h
    · exact .inl h
    · right; omega
end
end Go.Proofs.Qxb6600445a

import Derived.Test.Qxb6616460aLawA
namespace Go.Proofs.Qxb6616460a
open Go.RowKit
set_option linter.unusedVariables false

/-- What zzScribble may touch: its own block, and arrays of peers and of cells in [lo, hi). -/
structure Scr (lo hi x : Nat) (w W : World) : Prop where
  os : W.os = w.os
  tape : W.tape = w.tape
  output : W.output = w.output
  size : W.heap.size = w.heap.size
  same : ∀ k, k < lo ∨ hi ≤ k → k ≠ x → W.heap[k]? = w.heap[k]?
  kept : Kept [34, 47, 65] w W
  box : ∀ (k : Nat) (cur : Array Value) (fr : Nat × Nat), w.heap[k]? = some (.cells cur 34 fr) → k ≠ x → W.heap[k]? = some (.cells cur 34 fr)

theorem Scr.refl (lo hi x : Nat) (w : World) : Scr lo hi x w w := ⟨rfl, rfl, rfl, rfl, fun _ _ _ => rfl, Kept.refl _ _, fun _ _ _ h _ => h⟩
theorem Scr.drew {lo hi x : Nat} {w W : World} (h : Scr lo hi x w W) : Scr lo hi x w W.drew := ⟨h.os, h.tape, h.output, h.size, h.same, h.kept, h.box⟩
theorem Scr.setCell {lo hi x : Nat} {w W : World} (h : Scr lo hi x w W) {b : Nat} {cur : Array Value} {t : TypeId} {fr : Nat × Nat} (hb : W.heap[b]? = some (.cells cur t fr)) (ht : b = x ∧ t = 34 ∨ (lo ≤ b ∧ b < hi) ∧ (t = 47 ∨ t = 65)) (o : Nat) (v : Value) : Scr lo hi x w (W.setCell ⟨b, o, none⟩ v) := by
  have hk : ∀ k, k ≠ b → (W.setCell ⟨b, o, none⟩ v).heap[k]? = W.heap[k]? := fun k e => Below.heap_setCell W ⟨b, o, none⟩ v k e
  refine ⟨h.os, h.tape, h.output, (size_setCell W _ v).trans h.size, fun k hk1 hk2 => ?_, fun k c u f hk1 hu => ?_, fun k c f hk1 hk2 => ?_⟩
  · rw [hk k (by rintro rfl; rcases ht with ⟨e, _⟩ | ⟨⟨h1, h2⟩, _⟩ <;> omega)]
    exact h.same k hk1 hk2
  · have h1 := h.kept k c u f hk1 hu
    rw [hk k ?_]
    · exact h1
    · rintro rfl
      rw [hb] at h1
      cases h1
      rcases ht with ⟨_, rfl⟩ | ⟨_, rfl | rfl⟩ <;> simp at hu
  · have h1 := h.box k c f hk1 hk2
    rw [hk k ?_]
    · exact h1
    · rintro rfl
      rw [hb] at h1
      cases h1
      rcases ht with ⟨e, _⟩ | ⟨_, h3 | h3⟩
      · exact hk2 e
      · simp at h3
      · simp at h3

/-- The state of zzScribble. -/
structure SInv (lo hi x : Nat) (w W : World) (R : Array Value) (g n : Nat) (A : Nat → Option Addr) (N C : Nat → Nat) (B : Nat) : Prop where
  scr : Scr lo hi x w W
  blk : W.heap[x]? = some (.cells R 34 (0, 0))
  peers : 0 < n → lo ≤ g ∧ g < hi ∧ ∃ cur, W.heap[g]? = some (.cells cur 47 (0, 0)) ∧ ∀ j, j < n → (∃ z, cur[j * 14 + 1]? = some (.int .i64 z)) ∧ (∃ s, cur[j * 14 + 5]? = some (.string s) ∧ s.size ≤ B) ∧ cur[j * 14 + 2]? = some (.slice (A j) (N j) (C j))
  cells : ∀ j, j < n → 0 < N j → ∃ h, A j = some ⟨h, 0, none⟩ ∧ lo ≤ h ∧ h < hi ∧ ∃ cur, W.heap[h]? = some (.cells cur 65 (0, 0)) ∧ ∀ m, m < N j → ∃ s, cur[m * 7 + 5]? = some (.string s) ∧ s.size ≤ B

section
variable {lo hi x : Nat} {w W : World} {R : Array Value} {g n : Nat} {A : Nat → Option Addr} {N C : Nat → Nat} {B : Nat}
theorem SInv.drew (h : SInv lo hi x w W R g n A N C B) : SInv lo hi x w W.drew R g n A N C B := ⟨h.scr.drew, h.blk, h.peers, h.cells⟩
theorem SInv.mono (h : SInv lo hi x w W R g n A N C B) {B' : Nat} (hB : B ≤ B') : SInv lo hi x w W R g n A N C B' := by
  refine ⟨h.scr, h.blk, fun hn => ?_, fun j hj hN => ?_⟩
  · obtain ⟨h1, h2, cur, h3, h4⟩ := h.peers hn
    refine ⟨h1, h2, cur, h3, fun j hj => ?_⟩
    obtain ⟨h5, ⟨s, h6, h7⟩, h8⟩ := h4 j hj
    exact ⟨h5, ⟨s, h6, Nat.le_trans h7 hB⟩, h8⟩
  · obtain ⟨h', h1, h2, h3, cur, h4, h5⟩ := h.cells j hj hN
    refine ⟨h', h1, h2, h3, cur, h4, fun m hm => ?_⟩
    obtain ⟨s, h6, h7⟩ := h5 m hm
    exact ⟨s, h6, Nat.le_trans h7 hB⟩

theorem frozen_of {W : World} {b : Nat} {cur : Array Value} {t : TypeId} (h : W.heap[b]? = some (.cells cur t (0, 0))) (o : Nat) : W.frozen? ⟨b, o, none⟩ = false := by
  unfold World.frozen?; rw [show (⟨b, o, none⟩ : Addr).block = b from rfl, h]; simp

/-- The cells that a round reads. -/
theorem SInv.at1 (h : SInv lo hi x w W R g n A N C B) {j : Nat} (hj : j < n) : (∃ z, W.cell? ⟨g, j * 14 + 1, none⟩ = some (.int .i64 z)) ∧ (∃ s, W.cell? ⟨g, j * 14 + 5, none⟩ = some (.string s) ∧ s.size ≤ B) ∧ W.cell? ⟨g, j * 14 + 2, none⟩ = some (.slice (A j) (N j) (C j)) ∧ (∀ o, W.frozen? ⟨g, o, none⟩ = false) := by
  obtain ⟨h1, h2, cur, h3, h4⟩ := h.peers (by omega)
  obtain ⟨⟨z, h5⟩, ⟨s, h6, h7⟩, h8⟩ := h4 j hj
  exact ⟨⟨z, by rw [cell_of_row W _ _ _ _ _ h3]; exact h5⟩, ⟨s, by rw [cell_of_row W _ _ _ _ _ h3]; exact h6, h7⟩, by rw [cell_of_row W _ _ _ _ _ h3]; exact h8, frozen_of h3⟩
theorem SInv.at2 (h : SInv lo hi x w W R g n A N C B) {j m : Nat} (hj : j < n) (hm : m < N j) : ∃ h', A j = some ⟨h', 0, none⟩ ∧ (∃ s, W.cell? ⟨h', m * 7 + 5, none⟩ = some (.string s) ∧ s.size ≤ B) ∧ (∀ o, W.frozen? ⟨h', o, none⟩ = false) := by
  obtain ⟨h', h1, h2, h3, cur, h4, h5⟩ := h.cells j hj (by omega)
  obtain ⟨s, h6, h7⟩ := h5 m hm
  exact ⟨h', h1, ⟨s, by rw [cell_of_row W _ _ _ _ _ h4]; exact h6, h7⟩, frozen_of h4⟩
theorem SInv.atx (h : SInv lo hi x w W R g n A N C B) (k : Nat) (v : Value) (hv : R[k]? = some v) : W.cell? ⟨x, k, none⟩ = some v := by
  rw [cell_of_row W _ _ _ _ _ h.blk]; exact hv

/-- A store into the peers' array: a number, or a cause. -/
theorem SInv.set1 (h : SInv lo hi x w W R g n A N C B) {j o : Nat} (hj : j < n) (v : Value) (hv : (o = j * 14 + 1 ∧ ∃ z, v = .int .i64 z) ∨ (o = j * 14 + 5 ∧ ∃ s, v = .string s ∧ s.size ≤ B + 1)) : SInv lo hi x w (W.setCell ⟨g, o, none⟩ v) R g n A N C (B + 1) := by
  obtain ⟨h1, h2, cur, h3, h4⟩ := h.peers (by omega)
  have hx : x ≠ g := by rintro rfl; have := h.blk; rw [h3] at this; cases this
  refine ⟨h.scr.setCell h3 (.inr ⟨⟨h1, h2⟩, .inl rfl⟩) o v, (Below.heap_setCell W ⟨g, o, none⟩ v x hx).trans h.blk, fun _ => ⟨h1, h2, _, setCell_blk h3 o v, fun i hi => ?_⟩, fun i hi hN => ?_⟩
  · obtain ⟨⟨z, h5⟩, ⟨s, h6, h7⟩, h8⟩ := h4 i hi
    simp only [Array.getElem?_setIfInBounds]
    rcases hv with ⟨rfl, z', rfl⟩ | ⟨rfl, s', rfl, hs'⟩
    · have hlt : j * 14 + 1 < cur.size := by
        obtain ⟨⟨z2, h9⟩, _⟩ := h4 j hj
        exact (Array.getElem?_eq_some_iff.1 h9).1
      refine ⟨?_, ⟨s, ?_, by omega⟩, ?_⟩
      · by_cases e : j * 14 + 1 = i * 14 + 1
        · rw [if_pos e, if_pos hlt]; exact ⟨z', rfl⟩
        · rw [if_neg e]; exact ⟨z, h5⟩
      · rw [if_neg (by omega)]; exact h6
      · rw [if_neg (by omega)]; exact h8
    · have hlt : j * 14 + 5 < cur.size := by
        obtain ⟨_, ⟨s2, h9, _⟩, _⟩ := h4 j hj
        exact (Array.getElem?_eq_some_iff.1 h9).1
      refine ⟨⟨z, ?_⟩, ?_, ?_⟩
      · rw [if_neg (by omega)]; exact h5
      · by_cases e : j * 14 + 5 = i * 14 + 5
        · rw [if_pos e, if_pos hlt]; exact ⟨s', rfl, hs'⟩
        · rw [if_neg e]; exact ⟨s, h6, by omega⟩
      · rw [if_neg (by omega)]; exact h8
  · obtain ⟨h', e1, e2, e3, cur', e4, e5⟩ := h.cells i hi hN
    have hg : h' ≠ g := by rintro rfl; rw [h3] at e4; cases e4
    refine ⟨h', e1, e2, e3, cur', (Below.heap_setCell W ⟨g, o, none⟩ v h' hg).trans e4, fun m hm => ?_⟩
    obtain ⟨s, h6, h7⟩ := e5 m hm
    exact ⟨s, h6, by omega⟩

/-- A store into an array of cells: a cause. -/
theorem SInv.set2 (h : SInv lo hi x w W R g n A N C B) {j m h' : Nat} (hj : j < n) (hm : m < N j) (hA : A j = some ⟨h', 0, none⟩) (s' : ByteArray) (hs' : s'.size ≤ B + 1) : SInv lo hi x w (W.setCell ⟨h', m * 7 + 5, none⟩ (.string s')) R g n A N C (B + 1) := by
  obtain ⟨h1, e1, e2, e3, cur, e4, e5⟩ := h.cells j hj (by omega)
  rw [hA] at e1
  injection e1 with e1
  injection e1 with e1 _
  subst e1
  have hx : x ≠ h' := by rintro rfl; have := h.blk; rw [e4] at this; cases this
  refine ⟨h.scr.setCell e4 (.inr ⟨⟨e2, e3⟩, .inr rfl⟩) _ _, (Below.heap_setCell W ⟨h', m * 7 + 5, none⟩ _ x hx).trans h.blk, fun hn => ?_, fun i hi hN => ?_⟩
  · obtain ⟨f1, f2, cur', f3, f4⟩ := h.peers hn
    have hg : g ≠ h' := by rintro rfl; rw [f3] at e4; cases e4
    refine ⟨f1, f2, cur', (Below.heap_setCell W ⟨h', m * 7 + 5, none⟩ _ g hg).trans f3, fun i hi => ?_⟩
    obtain ⟨h5, ⟨s, h6, h7⟩, h8⟩ := f4 i hi
    exact ⟨h5, ⟨s, h6, by omega⟩, h8⟩
  · obtain ⟨h2, f1, f2, f3, cur', f4, f5⟩ := h.cells i hi hN
    by_cases e : h2 = h'
    · subst e
      rw [e4] at f4
      injection f4 with f4
      injection f4 with f4 _ _
      subst f4
      refine ⟨h2, f1, f2, f3, _, setCell_blk e4 _ _, fun q hq => ?_⟩
      obtain ⟨s, h6, h7⟩ := f5 q hq
      have hlt : m * 7 + 5 < cur.size := by
        obtain ⟨s2, h9, _⟩ := e5 m hm
        exact (Array.getElem?_eq_some_iff.1 h9).1
      simp only [Array.getElem?_setIfInBounds]
      by_cases eq : m * 7 + 5 = q * 7 + 5
      · rw [if_pos eq, if_pos hlt]; exact ⟨s', rfl, hs'⟩
      · rw [if_neg eq]; exact ⟨s, h6, by omega⟩
    · refine ⟨h2, f1, f2, f3, cur', (Below.heap_setCell W ⟨h', m * 7 + 5, none⟩ _ h2 e).trans f4, fun q hq => ?_⟩
      obtain ⟨s, h6, h7⟩ := f5 q hq
      exact ⟨s, h6, by omega⟩
end
end Go.Proofs.Qxb6616460a

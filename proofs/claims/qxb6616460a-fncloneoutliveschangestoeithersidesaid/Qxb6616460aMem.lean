import Derived.Test.Qxb6616460aLeaf
import Derived.Deep.MidRow
namespace Go.Proofs.Qxb6616460a
open Go.RowKit
set_option linter.unusedVariables false

theorem cell_lt {w : World} {a : Addr} {v : Value} (h : w.cell? a = some v) : a.block < w.heap.size := by
  rcases Nat.lt_or_ge a.block w.heap.size with h' | h'
  · exact h'
  · simp [World.cell?, Array.getElem?_eq_none h'] at h

/-- An array of n elements of k cells each, in a block of its own; its first elements read as 'rows'. -/
structure Arr (w : World) (g t k n : Nat) (rows : List (List Value)) : Prop where
  blk : ∃ cur, w.heap[g]? = some (.cells cur t (0, 0)) ∧ cur.size = n * k
  len : ∀ (j : Nat) (r : List Value), rows[j]? = some r → r.length = k
  val : ∀ (j : Nat) (r : List Value), rows[j]? = some r → ∀ (i : Nat) (v : Value), r[i]? = some v → w.cell? ⟨g, j * k + i, none⟩ = some v

theorem Arr.lt {w : World} {g t k n : Nat} {rows : List (List Value)} (h : Arr w g t k n rows) : g < w.heap.size := by
  obtain ⟨cur, hc, _⟩ := h.blk
  exact heap_lt hc

theorem Arr.of_blk {w w' : World} {g t k n : Nat} {rows : List (List Value)} (h : Arr w g t k n rows) (e : w'.heap[g]? = w.heap[g]?) : Arr w' g t k n rows := by
  obtain ⟨cur, hc, hs⟩ := h.blk
  exact ⟨⟨cur, e.trans hc, hs⟩, h.len, fun j r hr i v hv => (World.cell?_of_block (w := w) (a := ⟨g, j * k + i, none⟩) e).trans (h.val j r hr i v hv)⟩

theorem Arr.there {w : World} {g t k n : Nat} {rows : List (List Value)} (h : Arr w g t k n rows) (j i : Nat) (hj : j < n) (hi : i < k) : (∃ v, w.cell? ⟨g, j * k + i, none⟩ = some v) ∧ w.frozen? ⟨g, j * k + i, none⟩ = false := by
  obtain ⟨cur, hc, hs⟩ := h.blk
  have hlt : j * k + i < cur.size := by
    rw [hs]
    calc j * k + i < j * k + k := by omega
      _ = (j + 1) * k := by rw [Nat.add_mul, Nat.one_mul]
      _ ≤ n * k := Nat.mul_le_mul_right _ (by omega)
  refine ⟨⟨cur[j * k + i], ?_⟩, ?_⟩
  · rw [cell_of_row w g _ cur t _ hc]; exact Array.getElem?_eq_getElem hlt
  · unfold World.frozen?; rw [hc]; simp

theorem setCell_blk {w : World} {g : Nat} {cur : Array Value} {t : TypeId} {fr : Nat × Nat} (h : w.heap[g]? = some (.cells cur t fr)) (o : Nat) (v : Value) :
    (w.setCell ⟨g, o, none⟩ v).heap[g]? = some (.cells (cur.setIfInBounds o v) t fr) := by
  simp only [World.setCell, Array.getElem?_modify]
  simp [h]

theorem setCells_blk (g : Nat) (t : TypeId) (fr : Nat × Nat) : ∀ (vs : List Value) (o : Nat) (w : World) (cur : Array Value), w.heap[g]? = some (.cells cur t fr) →
    ∃ cur', (w.setCells g o vs).heap[g]? = some (.cells cur' t fr) ∧ cur'.size = cur.size
  | [], _, w, cur, h => ⟨cur, h, rfl⟩
  | v :: vs, o, w, cur, h => by
    obtain ⟨c, h1, h2⟩ := setCells_blk g t fr vs (o + 1) _ _ (setCell_blk h o v)
    exact ⟨c, h1, by rw [h2]; simp⟩

theorem setCells_other (g k : Nat) (hk : k ≠ g) : ∀ (vs : List Value) (o : Nat) (w : World), (w.setCells g o vs).heap[k]? = w.heap[k]?
  | [], _, _ => rfl
  | v :: vs, o, w => by
    rw [World.setCells, setCells_other g k hk vs (o + 1)]
    exact Below.heap_setCell w ⟨g, o, none⟩ v k hk

/-- One element more. -/
theorem Arr.push {w : World} {g t k n : Nat} {rows : List (List Value)} (h : Arr w g t k n rows) (r : List Value) (hr : r.length = k) (hl : rows.length < n) :
    Arr (w.setCells g (rows.length * k) r) g t k n (rows ++ [r]) := by
  obtain ⟨cur, hc, hs⟩ := h.blk
  obtain ⟨c', h1, h2⟩ := setCells_blk g t (0, 0) r (rows.length * k) w cur hc
  refine ⟨⟨c', h1, h2.trans hs⟩, fun j q hq => ?_, fun j q hq i v hv => ?_⟩
  · by_cases hj : j < rows.length
    · rw [List.getElem?_append_left hj] at hq
      exact h.len j q hq
    · rw [List.getElem?_append_right (by omega)] at hq
      have := List.mem_of_getElem? hq
      simp at this
      rw [this]; exact hr
  by_cases hj : j < rows.length
  · rw [List.getElem?_append_left hj] at hq
    have hi : i < k := by
      have := (List.getElem?_eq_some_iff.1 hv).1
      rw [h.len j q hq] at this
      exact this
    rw [World.cell?_setCells_out g r _ w ⟨g, j * k + i, none⟩ (fun _ _ => .inl ?_)]
    · exact h.val j q hq i v hv
    · show j * k + i < rows.length * k
      calc j * k + i < j * k + k := by omega
        _ = (j + 1) * k := by rw [Nat.add_mul, Nat.one_mul]
        _ ≤ rows.length * k := Nat.mul_le_mul_right _ (by omega)
  · have hj' : j = rows.length := by
      have := (List.getElem?_eq_some_iff.1 hq).1
      simp at this; omega
    subst hj'
    rw [List.getElem?_append_right (Nat.le_refl _)] at hq
    simp at hq
    subst hq
    have hi := (List.getElem?_eq_some_iff.1 hv).1
    rw [World.cell?_setCells_in g r _ w (fun m hm => ?_) i hi]
    · rw [(List.getElem?_eq_some_iff.1 hv).2]
    · obtain ⟨⟨x, hx⟩, _⟩ := h.there rows.length m hl (by omega)
      rw [hx]; rfl

theorem Arr.made (w : World) (z : Array Value) (t k n : Nat) : Arr (w.alloc (.cells (madeCells z (n * k)) t)) w.heap.size t k n [] :=
  ⟨⟨_, heap_alloc_last w _, size_madeCells _ _⟩, fun j r h => by simp at h, fun j r h => by simp at h⟩

/-- A slice of the call's own: nil, or at the head of an array from 'lo' on. -/
def SliceOK (w : World) (lo t k : Nat) (v : Value) (rows : List (List Value)) : Prop :=
  (v = .slice none 0 0 ∧ rows = []) ∨ ∃ g cap, v = .slice (some ⟨g, 0, none⟩) rows.length cap ∧ lo ≤ g ∧ rows.length ≤ cap ∧ cap ≤ maxLen ∧ Arr w g t k cap rows

/-- What was there is there, but for blocks of the kinds T. -/
def Kept (T : List Nat) (w w' : World) : Prop := ∀ (k : Nat) (cur : Array Value) (t : TypeId) (fr : Nat × Nat), w.heap[k]? = some (.cells cur t fr) → t ∉ T → w'.heap[k]? = some (.cells cur t fr)

theorem Kept.of_below {T : List Nat} {w w' : World} (h : Below w.heap.size w w') : Kept T w w' := fun k cur t fr hk _ => (h.block k (heap_lt hk)).trans hk
theorem Kept.trans {T : List Nat} {a b c : World} (h : Kept T a b) (h' : Kept T b c) : Kept T a c := fun k cur t fr hk ht => h' k cur t fr (h k cur t fr hk ht) ht
theorem Kept.refl (T : List Nat) (w : World) : Kept T w w := fun _ _ _ _ h _ => h
theorem Kept.mono {T T' : List Nat} {w w' : World} (h : Kept T w w') (hT : ∀ t, t ∈ T → t ∈ T') : Kept T' w w' := fun k cur t fr hk ht => h k cur t fr hk (fun h' => ht (hT t h'))
theorem Kept.grown {T : List Nat} {w w' : World} {g : Nat} (h : w.grownBy w' (some g)) {cur : Array Value} {t : TypeId} {fr : Nat × Nat} (hg : w.heap[g]? = some (.cells cur t fr)) (ht : t ∈ T) : Kept T w w' := fun k c u f hk hu => by
  by_cases e : k = g
  · subst e; rw [hg] at hk; cases hk; exact absurd ht hu
  · exact (h.block k (heap_lt hk) (fun h' => e (Option.some.inj h'))).trans hk

theorem Arr.kept {T : List Nat} {w w' : World} {g t k n : Nat} {rows : List (List Value)} (h : Arr w g t k n rows) (hk : Kept T w w') (ht : t ∉ T) : Arr w' g t k n rows := by
  obtain ⟨cur, hc, _⟩ := h.blk
  exact h.of_blk ((hk g cur t _ hc ht).trans hc.symm)
theorem SliceOK.kept {T : List Nat} {w w' : World} {lo t k : Nat} {v : Value} {rows : List (List Value)} (h : SliceOK w lo t k v rows) (hk : Kept T w w') (ht : t ∉ T) : SliceOK w' lo t k v rows := by
  rcases h with h | ⟨g, cap, h1, h2, h3, h4, h5⟩
  · exact .inl h
  · exact .inr ⟨g, cap, h1, h2, h3, h4, h5.kept hk ht⟩
theorem SliceOK.below {w w' : World} {lo t k : Nat} {v : Value} {rows : List (List Value)} (h : SliceOK w lo t k v rows) (hb : Below w.heap.size w w') : SliceOK w' lo t k v rows := h.kept (T := []) (Kept.of_below hb) (by simp)
theorem CellOK.kept {T : List Nat} {w w' : World} {cs : List Value} {c : ZC} (h : CellOK w cs c) (hk : Kept T w w') (ht : 112 ∉ T) : CellOK w' cs c := by
  rcases h with h | ⟨h1, k, h2, h3⟩
  · exact .inl h
  · exact .inr ⟨h1, k, h2, hk k _ _ _ h3 ht⟩

/-- An array that came in. -/
def InArr (w : World) (ao : Option Addr) (k : Nat) (rows : List (List Value)) : Prop :=
  rows = [] ∨ ∃ b o, ao = some ⟨b, o, none⟩ ∧ b < w.heap.size ∧ ∀ (j : Nat) (r : List Value), rows[j]? = some r → ∀ (i : Nat) (v : Value), r[i]? = some v → w.cell? ⟨b, o + j * k + i, none⟩ = some v
theorem InArr.below {w w' : World} {B : Nat} {ao : Option Addr} {k : Nat} {rows : List (List Value)} (h : InArr w ao k rows) (hb : Below B w w') (hB : w.heap.size ≤ B) : InArr w' ao k rows := by
  rcases h with h | ⟨b, o, h1, h2, h3⟩
  · exact .inl h
  · exact .inr ⟨b, o, h1, Nat.lt_of_lt_of_le h2 hb.size, fun j r hr i v hv => (hb.cell (p := ⟨b, o + j * k + i, none⟩) (Nat.lt_of_lt_of_le h2 hB)).trans (h3 j r hr i v hv)⟩

/-- A list of rows of k cells, end to end. -/
theorem flatten_at (k : Nat) : ∀ (rows : List (List Value)), (∀ r ∈ rows, r.length = k) → ∀ (j : Nat) (r : List Value), rows[j]? = some r → ∀ i, i < k → rows.flatten[j * k + i]? = r[i]?
  | [], _, j, r, h, _, _ => by simp at h
  | q :: rows, hl, 0, r, h, i, hi => by
    simp at h; subst h
    rw [List.flatten_cons, Nat.zero_mul, Nat.zero_add, List.getElem?_append_left (by rw [hl q (by simp)]; exact hi)]
  | q :: rows, hl, j + 1, r, h, i, hi => by
    have hq : q.length = k := hl q (by simp)
    rw [List.flatten_cons, List.getElem?_append_right (by rw [hq, Nat.add_mul]; omega), hq, show (j + 1) * k + i - k = j * k + i by rw [Nat.add_mul]; omega]
    exact flatten_at k rows (fun r hr => hl r (by simp [hr])) j r (by simpa using h) i hi
theorem flatten_len (k : Nat) : ∀ (rows : List (List Value)), (∀ r ∈ rows, r.length = k) → rows.flatten.length = rows.length * k
  | [], _ => by simp
  | q :: rows, hl => by
    rw [List.flatten_cons, List.length_append, hl q (by simp), flatten_len k rows (fun r hr => hl r (by simp [hr])), List.length_cons, Nat.add_mul]; omega

theorem setCells_below (g : Nat) : ∀ (vs : List Value) (o : Nat) (w : World), Below g w (w.setCells g o vs)
  | [], _, w => Below.refl _ _
  | v :: vs, o, w => ((Below.refl g w).setCell (p := ⟨g, o, none⟩) (Nat.le_refl _) v).trans (setCells_below g vs (o + 1) _)
theorem size_setCells (g : Nat) : ∀ (vs : List Value) (o : Nat) (w : World), (w.setCells g o vs).heap.size = w.heap.size
  | [], _, _ => rfl
  | v :: vs, o, w => by rw [World.setCells, size_setCells g vs]; simp [World.setCell]

/-- The end of a round that lays one element more into its own array. -/
theorem round_end {wr wt : World} {g t k n m : Nat} {rows : List (List Value)} (ht : Below wr.heap.size wr wt) (ha : Arr wr g t k n rows) (r : List Value) (hr : r.length = k) (hm : rows.length = m) (hl : m < n) (X : Obj) :
    Below g wr ((wt.setCells g (m * k) r).alloc X).drew ∧ Arr ((wt.setCells g (m * k) r).alloc X).drew g t k n (rows ++ [r]) := by
  subst hm
  have hg := ha.lt
  have hg' : g < wt.heap.size := Nat.lt_of_lt_of_le hg ht.size
  refine ⟨(((ht.mono (Nat.le_of_lt hg)).trans (setCells_below g r _ wt)).alloc (by rw [size_setCells]; omega) X).drew, ?_⟩
  have h1 := (ha.of_blk (ht.block g hg)).push r hr hl
  exact h1.of_blk (Below.heap_alloc _ _ _ (by rw [size_setCells]; exact hg'))

theorem round_end2 {wr wt : World} {g t k n m : Nat} {rows : List (List Value)} (ht : Below wr.heap.size wr wt) (ha : Arr wr g t k n rows) (r : List Value) (hr : r.length = k) (hm : rows.length = m) (hl : m < n) :
    Below g wr (wt.setCells g (m * k) r) ∧ Arr (wt.setCells g (m * k) r) g t k n (rows ++ [r]) ∧ Kept [t] wr (wt.setCells g (m * k) r) ∧ Kept [t] wt (wt.setCells g (m * k) r) := by
  subst hm
  have hg := ha.lt
  have h1 := (ha.of_blk (ht.block g hg)).push r hr hl
  obtain ⟨cur, hc, _⟩ := ha.blk
  have hk2 : Kept [t] wt (wt.setCells g (rows.length * k) r) := fun j c u f hj hu => by
    by_cases e : j = g
    · subst e
      have e2 := (ht.block j hg).trans hc
      rw [hj] at e2
      cases e2
      simp at hu
    · exact (setCells_other g j e r _ wt).trans hj
  exact ⟨((ht.mono (Nat.le_of_lt hg)).trans (setCells_below g r _ wt)), h1, (Kept.of_below ht).trans hk2, hk2⟩

theorem below7 {g : Nat} {wr W : World} (h : Below g wr W) (o0 o1 o2 o3 o4 o5 o6 : Nat) (v0 v1 v2 v3 v4 v5 v6 : Value) : Below g wr (((((((W.setCell ⟨g, o0, none⟩ v0).setCell ⟨g, o1, none⟩ v1).setCell ⟨g, o2, none⟩ v2).setCell ⟨g, o3, none⟩ v3).setCell ⟨g, o4, none⟩ v4).setCell ⟨g, o5, none⟩ v5).setCell ⟨g, o6, none⟩ v6) :=
  (((((((h.setCell (p := ⟨g, o0, none⟩) (Nat.le_refl _) v0).setCell (p := ⟨g, o1, none⟩) (Nat.le_refl _) v1).setCell (p := ⟨g, o2, none⟩) (Nat.le_refl _) v2).setCell (p := ⟨g, o3, none⟩) (Nat.le_refl _) v3).setCell (p := ⟨g, o4, none⟩) (Nat.le_refl _) v4).setCell (p := ⟨g, o5, none⟩) (Nat.le_refl _) v5).setCell (p := ⟨g, o6, none⟩) (Nat.le_refl _) v6)

theorem cells_snoc {w w' : World} {crow : List (List Value)} {cells : List ZC} {k : Nat} (h : ∀ (j : Nat) (r : List Value) (c : ZC), crow[j]? = some r → cells[j]? = some c → CellOK w r c) (hk : Kept [65] w w') (hl : crow.length = k) (r0 : List Value) (c0 : ZC)
    (hc : cells[k]? = some c0) (h0 : CellOK w' r0 c0) : ∀ (j : Nat) (r : List Value) (c : ZC), (crow ++ [r0])[j]? = some r → cells[j]? = some c → CellOK w' r c := by
  intro j r c hr hcc
  by_cases hj : j < crow.length
  · rw [List.getElem?_append_left hj] at hr
    exact (h j r c hr hcc).kept hk (by decide)
  · have hj' : j = crow.length := by
      have := (List.getElem?_eq_some_iff.1 hr).1
      simp at this; omega
    subst hj'
    rw [List.getElem?_append_right (Nat.le_refl _)] at hr
    simp at hr
    subst hr
    rw [hl, hc] at hcc
    cases hcc
    exact h0

theorem take_snoc (L : List (List Value)) (k : Nat) (r : List Value) (h : L[k]? = some r) : L.take (k + 1) = L.take k ++ [r] := by
  rw [List.take_add_one, h]; rfl
theorem take_len (L : List (List Value)) (k : Nat) (h : k ≤ L.length) : (L.take k).length = k := by rw [List.length_take]; omega
end Go.Proofs.Qxb6616460a

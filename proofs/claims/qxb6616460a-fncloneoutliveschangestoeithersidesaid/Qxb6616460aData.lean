import Derived.Test.Qxb6616460aMem
import Derived.Deep.DeepCutAuto
namespace Go.Proofs.Qxb6616460a
open Go.RowKit
set_option linter.unusedVariables false

/-- A peer as the law is handed it. -/
structure ZP where
  peer : ByteArray
  res : Int
  a2 : Option Addr
  c2 : Nat
  cells : List ZC
  eu : Bool
  all : Bool
  cause : ByteArray
  a6 : Option Addr
  c6 : Nat
  tais : List (List Value)
  so : Bool
  sr : Int
  sc : ByteArray
  a10 : Option Addr
  c10 : Nat
  sched : List (List Value)
  a11 : Option Addr
  c11 : Nat
  canc : List (List Value)
  a12 : Option Addr
  c12 : Nat
  enbs : List (List Value)
  rel : Int
def prow (p : ZP) (v2 v6 v10 v11 v12 : Value) : List Value := [.string p.peer, .int .i64 p.res, v2, .bool p.eu, .bool p.all, .string p.cause, v6, .bool p.so, .int .i64 p.sr, .string p.sc, v10, v11, v12, .int .i64 p.rel]
def zrow (p : ZP) : List Value := prow p (.slice p.a2 p.cells.length p.c2) (.slice p.a6 p.tais.length p.c6) (.slice p.a10 p.sched.length p.c10) (.slice p.a11 p.canc.length p.c11) (.slice p.a12 p.enbs.length p.c12)

def IsTai (r : List Value) : Prop := ∃ a b x, r = [.string a, .string b, .int .u16 x]
def IsSch (r : List Value) : Prop := ∃ a b x, r = [.string a, .string b, .int .u32 x]
def IsCan (r : List Value) : Prop := ∃ a b x y, r = [.string a, .string b, .int .u32 x, .int .u16 y]
def IsEnb (r : List Value) : Prop := ∃ a b x y, r = [.string a, .string b, .int .u8 x, .int .u32 y]

/-- What is known of a peer that came in. -/
structure InOK (w : World) (p : ZP) : Prop where
  i2 : InArr w p.a2 9 (p.cells.map ZC.row)
  i6 : InArr w p.a6 3 p.tais
  i10 : InArr w p.a10 3 p.sched
  i11 : InArr w p.a11 4 p.canc
  i12 : InArr w p.a12 4 p.enbs
  n2 : p.a2 = none → p.cells = [] ∧ p.c2 = 0
  n6 : p.a6 = none → p.tais = [] ∧ p.c6 = 0
  n10 : p.a10 = none → p.sched = [] ∧ p.c10 = 0
  n11 : p.a11 = none → p.canc = [] ∧ p.c11 = 0
  n12 : p.a12 = none → p.enbs = [] ∧ p.c12 = 0
  k6 : ∀ r ∈ p.tais, IsTai r
  k10 : ∀ r ∈ p.sched, IsSch r
  k11 : ∀ r ∈ p.canc, IsCan r
  k12 : ∀ r ∈ p.enbs, IsEnb r

/-- The lengths are small. -/
structure Small (p : ZP) : Prop where
  b2 : p.cells.length ≤ 1048576
  b6 : p.tais.length ≤ 1048576
  b10 : p.sched.length ≤ 1048576
  b11 : p.canc.length ≤ 1048576
  b12 : p.enbs.length ≤ 1048576

theorem heap3 (w : World) (a b c : Obj) : (((w.alloc a).alloc b).alloc c).heap[w.heap.size]? = some a ∧ (((w.alloc a).alloc b).alloc c).heap[w.heap.size + 1]? = some b ∧ (((w.alloc a).alloc b).alloc c).heap[w.heap.size + 2]? = some c := by
  have e1 : (w.alloc a).heap.size = w.heap.size + 1 := by simp
  have e2 : ((w.alloc a).alloc b).heap.size = w.heap.size + 2 := by simp
  refine ⟨?_, ?_, ?_⟩
  · rw [Below.heap_alloc _ _ _ (by omega), Below.heap_alloc _ _ _ (by omega)]; exact heap_alloc_new w a
  · rw [Below.heap_alloc _ _ _ (by omega), ← e1]; exact heap_alloc_new _ b
  · rw [← e2]; exact heap_alloc_new _ c

theorem neq48 (W : World) (a : Option Addr) (n c : Nat) : (binOp .neq 48 (.slice a n c) (.slice none 0 0)).run Try.prog W = .ok (.bool (!a.isNone)) W := run_neq_slice_nil_any W 48 68 a n c 0 0 Try.underlying48
theorem neq49 (W : World) (a : Option Addr) (n c : Nat) : (binOp .neq 49 (.slice a n c) (.slice none 0 0)).run Try.prog W = .ok (.bool (!a.isNone)) W := run_neq_slice_nil_any W 49 70 a n c 0 0 Try.underlying49
theorem neq50 (W : World) (a : Option Addr) (n c : Nat) : (binOp .neq 50 (.slice a n c) (.slice none 0 0)).run Try.prog W = .ok (.bool (!a.isNone)) W := run_neq_slice_nil_any W 50 73 a n c 0 0 Try.underlying50
theorem neq51 (W : World) (a : Option Addr) (n c : Nat) : (binOp .neq 51 (.slice a n c) (.slice none 0 0)).run Try.prog W = .ok (.bool (!a.isNone)) W := run_neq_slice_nil_any W 51 75 a n c 0 0 Try.underlying51
theorem neq52 (W : World) (a : Option Addr) (n c : Nat) : (binOp .neq 52 (.slice a n c) (.slice none 0 0)).run Try.prog W = .ok (.bool (!a.isNone)) W := run_neq_slice_nil_any W 52 77 a n c 0 0 Try.underlying52

theorem size_setCell (w : World) (a : Addr) (v : Value) : (w.setCell a v).heap.size = w.heap.size := by simp [World.setCell]

theorem Arr.made' (w : World) (a : Addr) (v : Value) (z : Array Value) (t k n : Nat) : Arr ((w.setCell a v).alloc (.cells (madeCells z (n * k)) t)) w.heap.size t k n [] := by
  have h := Arr.made (w.setCell a v) z t k n
  rw [size_setCell] at h
  exact h

theorem grown_below {a b c : World} {r : Option Nat} {B : Nat} (h : a.grownBy b r) (hb : Below B b c) (hB : a.heap.size ≤ B) : a.grownBy c r :=
  ⟨hb.os.trans h.os, hb.tape.trans h.tape, hb.output.trans h.output, Nat.le_trans h.size hb.size, fun k hk hn => (hb.block k (by omega)).trans (h.block k hk hn)⟩

/-- The cells that were built. -/
def CellsOK (w : World) (lo : Nat) (v : Value) (cells : List ZC) : Prop := ∃ crow, SliceOK w lo 65 7 v crow ∧ crow.length = cells.length ∧ ∀ (j : Nat) (r : List Value) (c : ZC), crow[j]? = some r → cells[j]? = some c → CellOK w r c
theorem CellsOK.kept {T : List Nat} {w w' : World} {lo : Nat} {v : Value} {cells : List ZC} (h : CellsOK w lo v cells) (hk : Kept T w w') (h65 : 65 ∉ T) (h112 : 112 ∉ T) : CellsOK w' lo v cells := by
  obtain ⟨crow, h1, h2, h3⟩ := h
  exact ⟨crow, h1.kept hk h65, h2, fun j r c hr hc => (h3 j r c hr hc).kept hk h112⟩

theorem SliceOK.is {w : World} {lo t k : Nat} {v : Value} {rows : List (List Value)} (h : SliceOK w lo t k v rows) : ∃ a n c, v = .slice a n c := by
  rcases h with ⟨h, _⟩ | ⟨g, cap, h, _⟩
  · exact ⟨_, _, _, h⟩
  · exact ⟨_, _, _, h⟩
theorem SliceOK.mono {w : World} {lo lo' t k : Nat} {v : Value} {rows : List (List Value)} (h : SliceOK w lo t k v rows) (hl : lo' ≤ lo) : SliceOK w lo' t k v rows := by
  rcases h with h | ⟨g, cap, h1, h2, h3⟩
  · exact .inl h
  · exact .inr ⟨g, cap, h1, Nat.le_trans hl h2, h3⟩
theorem CellsOK.is {w : World} {lo : Nat} {v : Value} {cells : List ZC} (h : CellsOK w lo v cells) : ∃ a n c, v = .slice a n c := by
  obtain ⟨crow, h1, _⟩ := h
  exact h1.is
theorem CellsOK.mono {w : World} {lo lo' : Nat} {v : Value} {cells : List ZC} (h : CellsOK w lo v cells) (hl : lo' ≤ lo) : CellsOK w lo' v cells := by
  obtain ⟨crow, h1, h2⟩ := h
  exact ⟨crow, h1.mono hl, h2⟩
theorem Kept.setCells {T : List Nat} {w : World} {g : Nat} {cur : Array Value} {t : TypeId} {fr : Nat × Nat} (hg : w.heap[g]? = some (.cells cur t fr)) (ht : t ∈ T) (o : Nat) (vs : List Value) : Kept T w (w.setCells g o vs) := fun k c u f hk hu => by
  by_cases e : k = g
  · subst e; rw [hg] at hk; cases hk; exact absurd ht hu
  · exact (setCells_other g k e vs o w).trans hk
theorem setCells_whole (g : Nat) (t : TypeId) (fr : Nat × Nat) : ∀ (vs pre cur : List Value) (w : World), w.heap[g]? = some (.cells (pre ++ cur).toArray t fr) → cur.length = vs.length → (w.setCells g pre.length vs).heap[g]? = some (.cells (pre ++ vs).toArray t fr)
  | [], pre, cur, w, h, hl => by
    have : cur = [] := List.eq_nil_of_length_eq_zero hl
    subst this; exact h
  | v :: vs, pre, [], w, h, hl => by simp at hl
  | v :: vs, pre, x :: cur, w, h, hl => by
    have h1 := setCell_blk h pre.length v
    have e : (pre ++ x :: cur).toArray.setIfInBounds pre.length v = ((pre ++ [v]) ++ cur).toArray := by simp
    rw [e] at h1
    have h2 := setCells_whole g t fr vs (pre ++ [v]) cur _ h1 (by simpa using hl)
    simpa [World.setCells] using h2

/-! ### The whole status -/
theorem Kept.setCell {T : List Nat} {w : World} {g : Nat} {cur : Array Value} {t : TypeId} {fr : Nat × Nat} (hg : w.heap[g]? = some (.cells cur t fr)) (ht : t ∈ T) (o : Nat) (v : Value) : Kept T w (w.setCell ⟨g, o, none⟩ v) := fun k c u f hk hu => by
  by_cases e : k = g
  · subst e; rw [hg] at hk; cases hk; exact absurd ht hu
  · exact (Below.heap_setCell w ⟨g, o, none⟩ v k e).trans hk

/-- A peer that was built or copied: its fourteen cells, and what they lead to. -/
def PeerOK (w : World) (lo : Nat) (r : List Value) (p : ZP) : Prop :=
  ∃ v2 v6 v10 v11 v12, r = prow p v2 v6 v10 v11 v12 ∧ CellsOK w lo v2 p.cells ∧ SliceOK w 0 100 3 v6 p.tais ∧ SliceOK w 0 102 3 v10 p.sched ∧ SliceOK w 0 104 4 v11 p.canc ∧ SliceOK w 0 107 4 v12 p.enbs

/-- No kind that lies under a peer is among T. -/
def Outer (T : List Nat) : Prop := 65 ∉ T ∧ 112 ∉ T ∧ 100 ∉ T ∧ 102 ∉ T ∧ 104 ∉ T ∧ 107 ∉ T

theorem PeerOK.kept {T : List Nat} {w w' : World} {lo : Nat} {r : List Value} {p : ZP} (h : PeerOK w lo r p) (hk : Kept T w w') (hT : Outer T) : PeerOK w' lo r p := by
  obtain ⟨v2, v6, v10, v11, v12, h1, h2, h3, h4, h5, h6⟩ := h
  obtain ⟨t1, t2, t3, t4, t5, t6⟩ := hT
  exact ⟨v2, v6, v10, v11, v12, h1, h2.kept hk t1 t2, h3.kept hk t3, h4.kept hk t4, h5.kept hk t5, h6.kept hk t6⟩
theorem PeerOK.mono {w : World} {lo lo' : Nat} {r : List Value} {p : ZP} (h : PeerOK w lo r p) (hl : lo' ≤ lo) : PeerOK w lo' r p := by
  obtain ⟨v2, v6, v10, v11, v12, h1, h2, h3⟩ := h
  exact ⟨v2, v6, v10, v11, v12, h1, h2.mono hl, h3⟩
theorem PeerOK.one {w : World} {lo : Nat} {r : List Value} {p : ZP} (h : PeerOK w lo r p) : r.length = 14 ∧ r.toArray.size = 14 ∧ r.toArray.all (·.oneCell') = true := by
  obtain ⟨v2, v6, v10, v11, v12, rfl, h2, h6, h10, h11, h12⟩ := h
  obtain ⟨x2, y2, z2, rfl⟩ := h2.is
  obtain ⟨x6, y6, z6, rfl⟩ := h6.is
  obtain ⟨x10, y10, z10, rfl⟩ := h10.is
  obtain ⟨x11, y11, z11, rfl⟩ := h11.is
  obtain ⟨x12, y12, z12, rfl⟩ := h12.is
  exact ⟨rfl, rfl, by simp [prow, Value.oneCell']⟩

def PeersOK (w : World) (lo : Nat) (v : Value) (ps : List ZP) : Prop := ∃ rows, SliceOK w lo 47 14 v rows ∧ rows.length = ps.length ∧ ∀ (j : Nat) (r : List Value) (p : ZP), rows[j]? = some r → ps[j]? = some p → PeerOK w lo r p
theorem PeersOK.kept {T : List Nat} {w w' : World} {lo : Nat} {v : Value} {ps : List ZP} (h : PeersOK w lo v ps) (hk : Kept T w w') (hT : Outer T) (h47 : 47 ∉ T) : PeersOK w' lo v ps := by
  obtain ⟨rows, h1, h2, h3⟩ := h
  exact ⟨rows, h1.kept hk h47, h2, fun j r p hr hp => (h3 j r p hr hp).kept hk hT⟩
theorem PeersOK.is {w : World} {lo : Nat} {v : Value} {ps : List ZP} (h : PeersOK w lo v ps) : ∃ a n c, v = .slice a n c := by
  obtain ⟨rows, h1, _⟩ := h
  exact h1.is
theorem PeersOK.mono {w : World} {lo lo' : Nat} {v : Value} {ps : List ZP} (h : PeersOK w lo v ps) (hl : lo' ≤ lo) : PeersOK w lo' v ps := by
  obtain ⟨rows, h1, h2, h3⟩ := h
  exact ⟨rows, h1.mono hl, h2, fun j r p hr hp => (h3 j r p hr hp).mono hl⟩

theorem peers_snoc {w w' : World} {lo : Nat} {rows : List (List Value)} {ps : List ZP} {k : Nat} (h : ∀ (j : Nat) (r : List Value) (p : ZP), rows[j]? = some r → ps[j]? = some p → PeerOK w lo r p) (hk : Kept [47] w w') (hl : rows.length = k) (r0 : List Value) (p0 : ZP)
    (hp : ps[k]? = some p0) (h0 : PeerOK w' lo r0 p0) : ∀ (j : Nat) (r : List Value) (p : ZP), (rows ++ [r0])[j]? = some r → ps[j]? = some p → PeerOK w' lo r p := by
  intro j r p hr hpp
  by_cases hj : j < rows.length
  · rw [List.getElem?_append_left hj] at hr
    exact (h j r p hr hpp).kept hk (by unfold Outer; decide)
  · have hj' : j = rows.length := by
      have := (List.getElem?_eq_some_iff.1 hr).1
      simp at this; omega
    subst hj'
    rw [List.getElem?_append_right (Nat.le_refl _)] at hr
    simp at hr
    subst hr
    rw [hl, hp] at hpp
    cases hpp
    exact h0

/-- The warning that the status points to. -/
def WarnOK (w : World) (v : Value) (hw : Bool) (id : ByteArray) (mid : Int) (text : ByteArray) : Prop :=
  (hw = false ∧ v = .pointer none) ∨ (hw = true ∧ ∃ (k : Nat) (cur : Array Value), v = .pointer (some ⟨k, 0, none⟩) ∧ w.heap[k]? = some (.cells cur 93 (0, 0)) ∧ cur[0]? = some (.int .u16 mid) ∧ cur[3]? = some (.string text) ∧ cur[12]? = some (.string id))
theorem WarnOK.kept {T : List Nat} {w w' : World} {v : Value} {hw : Bool} {id : ByteArray} {mid : Int} {text : ByteArray} (h : WarnOK w v hw id mid text) (hk : Kept T w w') (ht : 93 ∉ T) : WarnOK w' v hw id mid text := by
  rcases h with h | ⟨h1, k, cur, h2, h3, h4⟩
  · exact .inl h
  · exact .inr ⟨h1, k, cur, h2, hk k _ _ _ h3 ht, h4⟩
theorem WarnOK.is {w : World} {v : Value} {hw : Bool} {id : ByteArray} {mid : Int} {text : ByteArray} (h : WarnOK w v hw id mid text) : ∃ a, v = .pointer a := by
  rcases h with ⟨_, h⟩ | ⟨_, k, cur, h, _⟩
  · exact ⟨_, h⟩
  · exact ⟨_, h⟩

/-- A status' six cells. -/
def srow (vw : Value) (st : Int) (vp : Value) : List Value := [vw, .int .i64 st, .int .u64 0, .int .i64 0, .pointer none, vp]

/-- The peers as the law is handed them. -/
structure PIn (w : World) (a : Option Addr) (cap : Nat) (ps : List ZP) : Prop where
  arr : InArr w a 14 (ps.map zrow)
  nil : a = none → ps = [] ∧ cap = 0
  ok : ∀ p ∈ ps, InOK w p
theorem InOK.below {w w' : World} {p : ZP} {B : Nat} (h : InOK w p) (hb : Below B w w') (hB : w.heap.size ≤ B) : InOK w' p :=
  ⟨h.i2.below hb hB, h.i6.below hb hB, h.i10.below hb hB, h.i11.below hb hB, h.i12.below hb hB, h.n2, h.n6, h.n10, h.n11, h.n12, h.k6, h.k10, h.k11, h.k12⟩
theorem PIn.below {w w' : World} {a : Option Addr} {cap : Nat} {ps : List ZP} {B : Nat} (h : PIn w a cap ps) (hb : Below B w w') (hB : w.heap.size ≤ B) : PIn w' a cap ps :=
  ⟨h.arr.below hb hB, h.nil, fun p hp => (h.ok p hp).below hb hB⟩
theorem PIn.isSome {w : World} {a : Option Addr} {cap : Nat} {ps : List ZP} (h : PIn w a cap ps) {k : Nat} {p : ZP} (hp : ps[k]? = some p) : ∃ b o, a = some ⟨b, o, none⟩ ∧ b < w.heap.size ∧ w.rangeAt b (o + k * 14) (zrow p) := by
  rcases h.arr with h0 | ⟨b, o, h1, h2, h3⟩
  · have := congrArg List.length h0
    have h4 := (List.getElem?_eq_some_iff.1 hp).1
    simp at this
    rw [this] at h4
    simp at h4
  · exact ⟨b, o, h1, h2, fun j v hv => h3 k (zrow p) (by simp [hp]) j v hv⟩

theorem neq23 (W : World) (a : Option Addr) (n c : Nat) : (binOp .neq 23 (.slice a n c) (.slice none 0 0)).run Try.prog W = .ok (.bool (!a.isNone)) W := run_neq_slice_nil_any W 23 54 a n c 0 0 Try.underlying23

/-- A peer's row, read out of the middle of its array. -/
theorem load54 (W : World) (b o : Nat) (cs : Array Value) (hc : W.rangeAt b o cs.toList) (hn : cs.size = 14) : (Instr.loadAt 54 (.pointer (some ⟨b, o, none⟩))).run Try.prog W = .ok (.agg cs) W := by
  have h := run_loadAt_mid (P := Try.prog) W b o 54 cs.toList _ hc Try.underlying54 rfl (by rw [Array.length_toList, hn]; kernel_rfl)
  simpa using h
theorem load47 (W : World) (b o : Nat) (cs : Array Value) (hc : W.rangeAt b o cs.toList) (hn : cs.size = 14) : (Instr.loadAt 47 (.pointer (some ⟨b, o, none⟩))).run Try.prog W = .ok (.agg cs) W := by
  have h := run_loadAt_mid (P := Try.prog) W b o 47 cs.toList _ hc Try.underlying47 rfl (by rw [Array.length_toList, hn]; kernel_rfl)
  simpa using h
theorem store47 (W : World) (b o : Nat) (cs : Array Value) (ht : W.there b o 14) (hn : cs.size = 14) (h1 : cs.all (·.oneCell') = true) : (Instr.storeAt 47 (.pointer (some ⟨b, o, none⟩)) (.agg cs)).run Try.prog W = .ok () (W.setCells b o cs.toList) :=
  run_storeAt_mid (P := Try.prog) W b o 47 cs (by rw [hn]; exact ht) (by rw [hn]; kernel_rfl) h1
theorem Arr.range {w : World} {g t k n : Nat} {rows : List (List Value)} (h : Arr w g t k n rows) {j : Nat} {r : List Value} (hr : rows[j]? = some r) : w.rangeAt g (j * k) r := fun i v hv => h.val j r hr i v hv
theorem Arr.there' {w : World} {g t k n : Nat} {rows : List (List Value)} (h : Arr w g t k n rows) (j : Nat) (hj : j < n) : w.there g (j * k) k := fun i hi => by
  obtain ⟨⟨v, e1⟩, e2⟩ := h.there j i hj hi
  exact ⟨by rw [e1]; rfl, e2⟩
theorem Below.range {B : Nat} {w w' : World} (hb : Below B w w') {b o : Nat} {cs : List Value} (h : w.rangeAt b o cs) (hl : b < B) : w'.rangeAt b o cs := fun j v hv => (hb.cell (p := ⟨b, o + j, none⟩) hl).trans (h j v hv)
theorem Below.there {B : Nat} {w w' : World} (hb : Below B w w') {b o n : Nat} (h : w.there b o n) (hl : b < B) : w'.there b o n := fun j hj => by
  obtain ⟨h1, h2⟩ := h j hj
  exact ⟨by rw [hb.cell (p := ⟨b, o + j, none⟩) hl]; exact h1, by rw [hb.frozen (p := ⟨b, o + j, none⟩) hl]; exact h2⟩
end Go.Proofs.Qxb6616460a

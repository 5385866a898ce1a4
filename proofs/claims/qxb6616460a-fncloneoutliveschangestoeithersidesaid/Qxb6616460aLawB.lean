import Derived.Test.Qxb6616460aScr
import Derived.Deep.Slices
namespace Go.Proofs.Qxb6616460a
open Go.RowKit
set_option linter.unusedVariables false

theorem Arr.scr {lo hi x : Nat} {w W : World} (hs : Scr lo hi x w W) (hx : x < hi) {g t k n : Nat} {rows : List (List Value)} (h : Arr w g t k n rows) (hg : hi ≤ g) : Arr W g t k n rows := h.of_blk (hs.same g (.inr hg) (by omega))
theorem SliceOK.scr {lo hi x : Nat} {w W : World} (hs : Scr lo hi x w W) (hx : x < hi) {t k : Nat} {v : Value} {rows : List (List Value)} (h : SliceOK w hi t k v rows) : SliceOK W hi t k v rows := by
  rcases h with h | ⟨g, cap, h1, h2, h3, h4, h5⟩
  · exact .inl h
  · exact .inr ⟨g, cap, h1, h2, h3, h4, h5.scr hs hx h2⟩
theorem CellsOK.scr {lo hi x : Nat} {w W : World} (hs : Scr lo hi x w W) (hx : x < hi) {v : Value} {cells : List ZC} (h : CellsOK w hi v cells) : CellsOK W hi v cells := by
  obtain ⟨crow, h1, h2, h3⟩ := h
  exact ⟨crow, h1.scr hs hx, h2, fun j r c hr hc => (h3 j r c hr hc).kept hs.kept (by decide)⟩
theorem PeersOK.scr {lo hi x : Nat} {w W : World} (hs : Scr lo hi x w W) (hx : x < hi) {v : Value} {ps : List ZP} (h : PeersOK w hi v ps) : PeersOK W hi v ps := by
  obtain ⟨rows, h1, h2, h3⟩ := h
  refine ⟨rows, h1.scr hs hx, h2, fun j r p hr hp => ?_⟩
  obtain ⟨v2, v6, v10, v11, v12, e, c2, c6, c10, c11, c12⟩ := h3 j r p hr hp
  exact ⟨v2, v6, v10, v11, v12, e, c2.scr hs hx, c6.kept hs.kept (by decide), c10.kept hs.kept (by decide), c11.kept hs.kept (by decide), c12.kept hs.kept (by decide)⟩

/-- A status whose arrays lie from 'hi' on stands where another was written into. -/
theorem Laid.scr {w0 w W : World} {blk : Nat} {pw : Option Addr} {st : Int} {ao : Option Addr} {cp lo hi x : Nat} {hw : Bool} {id : ByteArray} {mid : Int} {text : ByteArray} {ps : List ZP} (h : Laid w0 w blk pw st ao cp hi hw id mid text ps) (hs : Scr lo hi x w W) (hx : x < hi) (hne : blk ≠ x) (hlo : w0.heap.size ≤ lo) (hx0 : w0.heap.size ≤ x) : Laid w0 W blk pw st ao cp hi hw id mid text ps :=
  ⟨h.bel.trans ⟨hs.os, hs.tape, hs.output, Nat.le_of_eq hs.size.symm, fun k hk => hs.same k (.inl (by omega)) (by omega)⟩, h.new, h.low, hs.box blk _ _ h.blk hne, h.warn.kept hs.kept (by decide), h.peers.scr hs hx⟩

theorem CellOK.cause {w : World} {r : List Value} {c : ZC} (h : CellOK w r c) : r[5]? = some (.string c.cause) := by
  rcases h with ⟨_, rfl⟩ | ⟨_, k, rfl, _⟩ <;> rfl

/-- The beginning of zzScribble. -/
theorem scr_start {w0 wS w : World} {x : Nat} {pw : Option Addr} {st : Int} {ao : Option Addr} {cp lo : Nat} {hw : Bool} {id : ByteArray} {mid : Int} {text : ByteArray} {ps : List ZP} (h : Laid w0 wS x pw st ao cp lo hw id mid text ps) (hb : Below wS.heap.size wS w) (hg : ps.length ≤ 1048576 ∧ ∀ p ∈ ps, Good p) :
    ∃ g A N C, (0 < ps.length → ao = some ⟨g, 0, none⟩) ∧ (∀ j, j < ps.length → N j ≤ 1048576) ∧ SInv lo wS.heap.size x w w (srow (.pointer pw) st (.slice ao ps.length cp)).toArray g ps.length A N C 1048576 := by
  obtain ⟨rows, h1, h2, h3⟩ := h.peers
  have hpick : ∀ j, j < ps.length → ∃ q : Option Addr × Nat × Nat, ∃ r p, rows[j]? = some r ∧ ps[j]? = some p ∧ PeerOK wS lo r p ∧ r[2]? = some (.slice q.1 q.2.1 q.2.2) ∧ CellsOK wS lo (.slice q.1 q.2.1 q.2.2) p.cells ∧ q.2.1 = p.cells.length := fun j hj => by
    have hr := List.getElem?_eq_getElem (l := rows) (i := j) (by omega)
    have hp := List.getElem?_eq_getElem (l := ps) (i := j) hj
    have hok := h3 j _ _ hr hp
    have hok2 := hok
    obtain ⟨v2, v6, v10, v11, v12, e, c2, _⟩ := hok2
    obtain ⟨a, c, e2, _⟩ := c2.at
    refine ⟨(a, (ps[j]).cells.length, c), rows[j], ps[j], hr, hp, hok, ?_, ?_, rfl⟩
    · rw [e, ← e2]; rfl
    · rw [← e2]; exact c2
  obtain ⟨q, hq⟩ := Deep.choose_lt hpick
  have hsm : ∀ j (hj : j < ps.length), Good ps[j] := fun j hj => hg.2 _ (List.getElem_mem hj)
  have hcells : ∀ j, j < ps.length → 0 < (q j).2.1 → ∃ h, (q j).1 = some ⟨h, 0, none⟩ ∧ lo ≤ h ∧ h < wS.heap.size ∧ ∃ cur, w.heap[h]? = some (.cells cur 65 (0, 0)) ∧ ∀ m, m < (q j).2.1 → ∃ s, cur[m * 7 + 5]? = some (.string s) ∧ s.size ≤ 1048576 := fun j hj hN => by
    obtain ⟨r, p, hr, hp, hok, hr2, hc, hl⟩ := hq j hj
    obtain ⟨crow, c1, c2, c3⟩ := hc
    rcases c1 with ⟨c4, rfl⟩ | ⟨g', cap', c4, c5, c6, c7, c8⟩
    · simp at c2; omega
    · injection c4 with e1 e2 e3
      obtain ⟨cur, c9, c10⟩ := c8.blk
      refine ⟨g', e1, c5, c8.lt, cur, (hb.block g' c8.lt).trans c9, fun m hm => ?_⟩
      have hm1 : m < crow.length := by omega
      have hm2 : m < p.cells.length := by omega
      have hcm := c3 m _ _ (List.getElem?_eq_getElem hm1) (List.getElem?_eq_getElem hm2)
      have hv := c8.val m _ (List.getElem?_eq_getElem hm1) 5 _ hcm.cause
      rw [cell_of_row wS g' _ cur 65 _ c9] at hv
      have hgood : Good p := hg.2 p (List.mem_of_getElem? hp)
      exact ⟨_, hv, hgood.causes _ (List.getElem_mem hm2)⟩
  have hblk : w.heap[x]? = some (.cells (srow (.pointer pw) st (.slice ao ps.length cp)).toArray 34 (0, 0)) := (hb.block x (heap_lt h.blk)).trans h.blk
  have hNs : ∀ j, j < ps.length → (q j).2.1 ≤ 1048576 := fun j hj => by
    obtain ⟨r, p, hr, hp, hok, hr2, hc, hl⟩ := hq j hj
    have hgood : Good p := hg.2 p (List.mem_of_getElem? hp)
    rw [hl]
    exact hgood.small.b2
  rcases h1 with ⟨e, rfl⟩ | ⟨g, cap, e, h4, h5, h6, h7⟩
  · have hz : ps.length = 0 := h2.symm
    exact ⟨0, fun j => (q j).1, fun j => (q j).2.1, fun j => (q j).2.2, fun hn => by omega, hNs, ⟨Scr.refl _ _ _ _, hblk, fun hn => by omega, hcells⟩⟩
  · injection e with e1 e2 e3
    obtain ⟨cur, c9, c10⟩ := h7.blk
    refine ⟨g, fun j => (q j).1, fun j => (q j).2.1, fun j => (q j).2.2, fun _ => e1, hNs, ⟨Scr.refl _ _ _ _, hblk, fun hn => ⟨h4, h7.lt, cur, (hb.block g h7.lt).trans c9, fun j hj => ?_⟩, hcells⟩⟩
    obtain ⟨r, p, hr, hp, hok, hr2, hc, hl⟩ := hq j hj
    have hv := h7.val j r hr
    have hgood : Good p := hg.2 p (List.mem_of_getElem? hp)
    have hcell : ∀ i v, r[i]? = some v → cur[j * 14 + i]? = some v := fun i v hi => by
      have := hv i v hi
      rw [cell_of_row wS g _ cur 47 _ c9] at this
      exact this
    obtain ⟨v2, v6, v10, v11, v12, rfl, _⟩ := hok
    exact ⟨⟨p.res, hcell 1 _ rfl⟩, ⟨p.cause, hcell 5 _ rfl, hgood.cause⟩, hcell 2 _ hr2⟩

/-- A call of ZZclone, its answer written out; where it lies. -/
theorem cloned2 {w0 w : World} {blk : Nat} {pw : Option Addr} {st : Int} {ao : Option Addr} {cp lo : Nat} {hw : Bool} {id : ByteArray} {mid : Int} {text : ByteArray} {ps : List ZP} (h : Laid w0 w blk pw st ao cp lo hw id mid text ps) (hg : ps.length ≤ 1048576 ∧ ∀ p ∈ ps, Good p) :
    Calls Try.prog 8 #[.pointer (some ⟨blk, 0, none⟩)] w fun e w' => ∃ ao' cp', e = .returned (.agg #[.pointer pw, .int .i64 st, .int .u64 0, .int .i64 0, .pointer none, .slice ao' ps.length cp']) ∧ ∀ X, X = Obj.cells (srow (.pointer pw) st (.slice ao' ps.length cp')).toArray 34 → Hid (Laid w0 (w'.alloc X) w'.heap.size pw st ao' cp' w.heap.size hw id mid text ps ∧ Below w.heap.size w (w'.alloc X) ∧ w.heap.size ≤ w'.heap.size) := by
  refine (zzclone_any _ pw st ps blk lo w h.blk h.peers (fun p hp => (hg.2 p hp).small) hg.1).mono ?_
  rintro e w' ⟨vp, rfl, h2, h3⟩
  obtain ⟨ao', cp', rfl, _⟩ := h2.at
  refine ⟨ao', cp', rfl, fun X hX => ?_⟩
  have hb : Below w'.heap.size w' (w'.alloc X) := (Below.refl _ _).alloc (Nat.le_refl _) _
  have hb2 : Below w.heap.size w (w'.alloc X) := h3.trans (hb.mono h3.size)
  have h4 := h.below hb2
  exact ⟨⟨h4.bel, Nat.le_trans h.bel.size h3.size, h.bel.size, by rw [← hX]; exact heap_alloc_last w' X, h4.warn, h2.kept (T := []) (Kept.of_below hb) (by unfold Outer; decide) (by decide)⟩, hb2, h3.size⟩

/-- A call of zzScribble. -/
theorem scribbled {w0 wS w : World} {x : Nat} {pw : Option Addr} {st : Int} {ao : Option Addr} {cp lo : Nat} {hw : Bool} {id : ByteArray} {mid : Int} {text : ByteArray} {ps : List ZP} (h : Laid w0 wS x pw st ao cp lo hw id mid text ps) (hb : Below wS.heap.size wS w) (hg : ps.length ≤ 1048576 ∧ ∀ p ∈ ps, Good p) :
    Calls Try.prog 11 #[.pointer (some ⟨x, 0, none⟩)] w fun e w' => ∃ v, e = .returned v ∧ Hid (Scr lo wS.heap.size x w w') := by
  obtain ⟨g, A, N, C, h1, h2, h3⟩ := scr_start h hb hg
  refine (scribble_any lo wS.heap.size x g ps.length cp ao pw st A N C w h1 hg.1 h2 h3).mono ?_
  rintro e w' ⟨⟨v, rfl⟩, hs⟩
  exact ⟨v, rfl, hs⟩
end Go.Proofs.Qxb6616460a

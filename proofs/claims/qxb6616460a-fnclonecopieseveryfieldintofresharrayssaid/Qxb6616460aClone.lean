import Derived.Test.Qxb6616460aStatus
import Derived.Test.Qxb6616460aCloneA
namespace Go.Proofs.Qxb6616460a
open Go.RowKit
set_option linter.unusedVariables false

/-- What the walk asks of the peers' slice: its length, and its rows. -/
theorem PeersOK.at {w : World} {lo : Nat} {v : Value} {ps : List ZP} (h : PeersOK w lo v ps) : ∃ (ao : Option Addr) (c : Nat), v = .slice ao ps.length c ∧ ∀ (k : Nat) (p : ZP), ps[k]? = some p → ∃ g r, ao = some ⟨g, 0, none⟩ ∧ lo ≤ g ∧ g < w.heap.size ∧ w.rangeAt g (k * 14) r ∧ PeerOK w lo r p := by
  obtain ⟨rows, h1, h2, h3⟩ := h
  rcases h1 with ⟨rfl, rfl⟩ | ⟨g, cap, rfl, h4, h5, h6, h7⟩
  · refine ⟨none, 0, by rw [← h2]; rfl, fun k p hp => ?_⟩
    have := (List.getElem?_eq_some_iff.1 hp).1
    rw [← h2] at this
    simp at this
  · refine ⟨some ⟨g, 0, none⟩, cap, by rw [h2], fun k p hp => ?_⟩
    have hk := (List.getElem?_eq_some_iff.1 hp).1
    rw [← h2] at hk
    exact ⟨g, rows[k], rfl, h4, h7.lt, h7.range (List.getElem?_eq_getElem hk), h3 k _ p (List.getElem?_eq_getElem hk) hp⟩

theorem PeerOK.split {w : World} {lo : Nat} {r : List Value} {p : ZP} (h : PeerOK w lo r p) : ∃ x2 y2 z2 x6 y6 z6 x10 y10 z10 x11 y11 z11 x12 y12 z12, r = [.string p.peer, .int .i64 p.res, .slice x2 y2 z2, .bool p.eu, .bool p.all, .string p.cause, .slice x6 y6 z6, .bool p.so, .int .i64 p.sr, .string p.sc, .slice x10 y10 z10, .slice x11 y11 z11, .slice x12 y12 z12, .int .i64 p.rel] ∧ CellsOK w lo (.slice x2 y2 z2) p.cells ∧ ∀ (w' : World) (T : List Nat) (lo' : Nat) (a2 : Option Addr) (b2 c2 : Nat), Kept T w w' → Outer T → CellsOK w' lo' (.slice a2 b2 c2) p.cells → PeerOK w' lo' [.string p.peer, .int .i64 p.res, .slice a2 b2 c2, .bool p.eu, .bool p.all, .string p.cause, .slice x6 y6 z6, .bool p.so, .int .i64 p.sr, .string p.sc, .slice x10 y10 z10, .slice x11 y11 z11, .slice x12 y12 z12, .int .i64 p.rel] p := by
  obtain ⟨v2, v6, v10, v11, v12, rfl, h2', h6, h10, h11, h12⟩ := h
  obtain ⟨x2, y2, z2, rfl⟩ := h2'.is
  obtain ⟨x6, y6, z6, rfl⟩ := h6.is
  obtain ⟨x10, y10, z10, rfl⟩ := h10.is
  obtain ⟨x11, y11, z11, rfl⟩ := h11.is
  obtain ⟨x12, y12, z12, rfl⟩ := h12.is
  refine ⟨x2, y2, z2, x6, y6, z6, x10, y10, z10, x11, y11, z11, x12, y12, z12, rfl, h2', fun w' T lo' a2 b2 c2 hk hT hc => ?_⟩
  obtain ⟨t1, t2, t3, t4, t5, t6⟩ := hT
  exact ⟨_, _, _, _, _, rfl, hc, h6.kept hk t3, h10.kept hk t4, h11.kept hk t5, h12.kept hk t6⟩

/-- The cells of a peer, copied. -/
theorem appendCells (W : World) (lo : Nat) (v : Value) (cells : List ZC) (h : CellsOK W lo v cells) (hl : cells.length ≤ 1048576) :
    ∃ a2 b2 c2 W', (Builtin.append_ #[41, 41] 41 #[.slice none 0 0, v]).run Try.prog W = .ok (.slice a2 b2 c2) W' ∧ CellsOK W' W.heap.size (.slice a2 b2 c2) cells ∧ Below W.heap.size W W' := by
  obtain ⟨crow, h1, h2, h3⟩ := h
  have hone : ∀ r ∈ crow, r.length = 7 ∧ ∀ u ∈ r, u.oneCell' = true := fun r hr => by
    obtain ⟨j, hj, rfl⟩ := List.getElem_of_mem hr
    exact (h3 j _ _ (List.getElem?_eq_getElem hj) (List.getElem?_eq_getElem (by omega))).one
  obtain ⟨v', W', hr, hs, hb⟩ := append41 W lo v crow h1 hone (by omega)
  obtain ⟨a2, b2, c2, rfl⟩ := hs.is
  exact ⟨a2, b2, c2, W', hr, ⟨crow, hs, h2, fun j r c hr hc => (h3 j r c hr hc).kept (T := []) (Kept.of_below hb) (by simp)⟩, hb⟩

theorem clone_mid {wr : World} {g n k : Nat} {rows : List (List Value)} (r : List Value) (X : Obj) (harr : Arr wr g 47 14 n rows) (hrl : rows.length = k) (hlt : k < n) (hr : r.length = 14) :
    Below g wr ((wr.setCells g (k * 14) r).alloc X) ∧ Arr ((wr.setCells g (k * 14) r).alloc X) g 47 14 n (rows ++ [r]) ∧ Kept [47] wr ((wr.setCells g (k * 14) r).alloc X) ∧ ((wr.setCells g (k * 14) r).alloc X).heap[wr.heap.size]? = some X := by
  obtain ⟨h1, h2, h3, _⟩ := round_end2 (Below.refl wr.heap.size wr) harr r hr hrl hlt
  have hz := size_setCells g r (k * 14) wr
  have hg := harr.lt
  refine ⟨h1.alloc (by rw [hz]; omega) X, h2.of_blk (Below.heap_alloc _ _ _ (by rw [hz]; exact hg)), h3.trans (Kept.of_below ((Below.refl _ _).alloc (Nat.le_refl _) X)), ?_⟩
  have := heap_alloc_last (wr.setCells g (k * 14) r) X
  rw [hz] at this
  exact this

theorem clone_round {w wr W7 W8 : World} {g n k : Nat} {rows : List (List Value)} {ps : List ZP} {p : ZP} {r r2 : List Value} {v : Value} (hbw : Below w.heap.size w wr) (harr : Arr wr g 47 14 n rows) (hrl : rows.length = k) (hlt : k < n) (hpk : ∀ (j : Nat) (r : List Value) (p : ZP), rows[j]? = some r → ps[j]? = some p → PeerOK wr w.heap.size r p) (hp : ps[k]? = some p)
    (ha7 : Arr W7 g 47 14 n (rows ++ [r])) (hb7 : Below g wr W7) (hk7 : Kept [47] wr W7) (hb8 : Below W7.heap.size W7 W8) (hr2 : r.set 2 v = r2) (hc8 : CellsOK W8 w.heap.size v p.cells)
    (hnew : ∀ w', Kept [47] w w' → CellsOK w' w.heap.size v p.cells → PeerOK w' w.heap.size r2 p) :
    Below g wr (W8.setCell ⟨g, k * 14 + 2, none⟩ v) ∧ Arr (W8.setCell ⟨g, k * 14 + 2, none⟩ v) g 47 14 n (rows ++ [r2]) ∧ (rows ++ [r2]).length = k + 1 ∧ ∀ (j : Nat) (r : List Value) (p : ZP), (rows ++ [r2])[j]? = some r → ps[j]? = some p → PeerOK (W8.setCell ⟨g, k * 14 + 2, none⟩ v) w.heap.size r p := by
  subst hrl
  have hg7 := ha7.lt
  have ha8 := ha7.of_blk (hb8.block g hg7)
  obtain ⟨cur, hcur, _⟩ := ha8.blk
  have hkk : Kept [47] W8 (W8.setCell ⟨g, rows.length * 14 + 2, none⟩ v) := Kept.setCell hcur (by decide) _ v
  have hk9 : Kept [47] wr (W8.setCell ⟨g, rows.length * 14 + 2, none⟩ v) := (hk7.trans (Kept.of_below hb8)).trans hkk
  have hkw : Kept [47] w (W8.setCell ⟨g, rows.length * 14 + 2, none⟩ v) := (Kept.of_below hbw).trans hk9
  have ha9 := ha8.fix 2 v (by decide) hlt
  rw [hr2] at ha9
  refine ⟨(hb7.trans (hb8.mono (Nat.le_of_lt hg7))).setCell (p := ⟨g, rows.length * 14 + 2, none⟩) (Nat.le_refl _) v, ha9, by simp, ?_⟩
  exact peers_snoc hpk hk9 rfl r2 p hp (hnew _ hkw (hc8.kept hkk (by decide) (by decide)))

set_option maxHeartbeats 1600000 in
set_option maxRecDepth 100000 in
theorem clone_any (vp : Value) (pw : Option Addr) (st : Int) (ps : List ZP) (xs lo : Nat) (w : World) (hx : w.heap[xs]? = some (.cells (srow (.pointer pw) st vp).toArray 34 (0, 0))) (hp : PeersOK w lo vp ps) (hs : ∀ p ∈ ps, Small p) (hl : ps.length ≤ 1048576) :
    Calls Try.prog 14 #[.pointer (some ⟨xs, 0, none⟩)] w fun e w' => ∃ vp', e = .returned (.agg (srow (.pointer pw) st vp').toArray) ∧ PeersOK w' w.heap.size vp' ps ∧ Below w.heap.size w w' := by
  obtain ⟨ao, cp, rfl, hrow⟩ := hp.at
  have HX : Hid (w.heap[xs]? = some (.cells (srow (.pointer pw) st (.slice ao ps.length cp)).toArray 34 (0, 0))) := hx
  have hxl : xs < w.heap.size := heap_lt hx
  have k0 := cell_of_row w xs 0 _ _ _ hx
  have k1 := cell_of_row w xs 1 _ _ _ hx
  have k2 := cell_of_row w xs 2 _ _ _ hx
  have k3 := cell_of_row w xs 3 _ _ _ hx
  have k4 := cell_of_row w xs 4 _ _ _ hx
  have k5 := cell_of_row w xs 5 _ _ _ hx
  simp only [srow, List.getElem?_toArray, List.getElem?_cons_zero, List.getElem?_cons_succ] at k0 k1 k2 k3 k4 k5
  clear hx
  go_enter Try.func14, Try.ntmps14
  go_upto_region 2 with fail
  have hcut : SSt w ((w.alloc (.cells #[.pointer none, .int .i64 0, .int .u64 0, .int .i64 0, .pointer none, .slice none 0 0] 34)).alloc (.cells #[.pointer pw, .int .i64 st, .int .u64 0, .int .i64 0, .pointer none, .slice ao ps.length cp] 34)) (.pointer pw) st (.slice ao ps.length cp) := ⟨((Below.refl _ _).alloc (Nat.le_refl _) _).alloc (by simp) _, by simp, ⟨_, (heap2 w _ _).1, by simp⟩, (heap2 w _ _).2⟩
  clear k0 k1 k2 k3 k4
  generalize (w.alloc (.cells #[.pointer none, .int .i64 0, .int .u64 0, .int .i64 0, .pointer none, .slice none 0 0] 34)).alloc (.cells #[.pointer pw, .int .i64 st, .int .u64 0, .int .i64 0, .pointer none, .slice ao ps.length cp] 34) = wd at hcut ⊢
  replace k5 := (hcut.bel.cell (p := ⟨xs, 5, none⟩) hxl).trans k5
  obtain ⟨pp, ff⟩ := hcut.sc 5 _ rfl
  have hsz := hcut.sz
  have hsz2 : w.heap.size + 1 < wd.heap.size := by omega
  have n1 : xs ≠ w.heap.size + 1 := by omega
  have n2 : w.heap.size + 1 ≠ xs := by omega
  have n3 : xs < wd.heap.size := by omega
  have hm := run_make32 ps.length wd hl
  go_wp2
  go_loopw [21] (fun i w' => ∃ k : Nat, ∃ rows : List (List Value), k ≤ ps.length ∧ i = .int .i64 k ∧ SSt w w' (.pointer pw) st (.slice (some ⟨wd.heap.size, 0, none⟩) ps.length ps.length) ∧ Arr w' wd.heap.size 47 14 ps.length rows ∧ rows.length = k ∧ ∀ (j : Nat) (r : List Value) (p : ZP), rows[j]? = some r → ps[j]? = some p → PeerOK w' w.heap.size r p) (fun i _ => ps.length - (intOf i).toNat)
  case atStart =>
    have h1 := hcut.step 5 (.slice (some ⟨wd.heap.size, 0, none⟩) ps.length ps.length) (vw' := .pointer pw) (st' := st) (vp' := (.slice (some ⟨wd.heap.size, 0, none⟩) ps.length ps.length)) rfl
    have h2 := h1.below ((Below.refl _ _).alloc (Nat.le_refl _) (.cells (madeCells z14 (ps.length * 14)) 47)) h1.sz
    exact ⟨0, [], Nat.zero_le _, rfl, h2, Arr.made' wd _ _ _ 47 14 ps.length, rfl, fun j r c h => by simp at h⟩
  case round =>
    obtain ⟨k, rows, hk, rfl, hst, harr, hrl, hpk⟩ := hrel
    have HST : Hid (SSt w wr (.pointer pw) st (.slice (some ⟨wd.heap.size, 0, none⟩) ps.length ps.length)) := hst
    have HR : Hid (Arr wr wd.heap.size 47 14 ps.length rows ∧ rows.length = k ∧ ∀ (j : Nat) (r : List Value) (p : ZP), rows[j]? = some r → ps[j]? = some p → PeerOK wr w.heap.size r p) := ⟨harr, hrl, hpk⟩
    obtain ⟨p5, f5⟩ := hst.sc 5 _ rfl
    clear hst harr hrl hpk pp ff hm hcut k5 n1 n2 n3
    by_cases hlt : k < ps.length
    · obtain ⟨p, hpp⟩ : ∃ p, ps[k]? = some p := ⟨_, List.getElem?_eq_getElem hlt⟩
      obtain ⟨gs, r, hao, hlog, hg0, hrg, hpo⟩ := hrow k p hpp
      subst hao
      have hsm : Small p := hs p (List.mem_of_getElem? hpp)
      obtain ⟨x2, y2, z2, x6, y6, z6, x10, y10, z10, x11, y11, z11, x12, y12, z12, rfl, hcells, hnew⟩ := hpo.split
      have hrg2 := Below.range HST.out.bel hrg hg0
      have r0 : wr.cell? ⟨gs, k * 14, none⟩ = some (.string p.peer) := hrg2 0 _ rfl
      have r1 : wr.cell? ⟨gs, k * 14 + 1, none⟩ = some (.int .i64 p.res) := hrg2 1 _ rfl
      have r2 : wr.cell? ⟨gs, k * 14 + 2, none⟩ = some (.slice x2 y2 z2) := hrg2 2 _ rfl
      have r3 : wr.cell? ⟨gs, k * 14 + 3, none⟩ = some (.bool p.eu) := hrg2 3 _ rfl
      have r4 : wr.cell? ⟨gs, k * 14 + 4, none⟩ = some (.bool p.all) := hrg2 4 _ rfl
      have r5 : wr.cell? ⟨gs, k * 14 + 5, none⟩ = some (.string p.cause) := hrg2 5 _ rfl
      have r6 : wr.cell? ⟨gs, k * 14 + 6, none⟩ = some (.slice x6 y6 z6) := hrg2 6 _ rfl
      have r7 : wr.cell? ⟨gs, k * 14 + 7, none⟩ = some (.bool p.so) := hrg2 7 _ rfl
      have r8 : wr.cell? ⟨gs, k * 14 + 8, none⟩ = some (.int .i64 p.sr) := hrg2 8 _ rfl
      have r9 : wr.cell? ⟨gs, k * 14 + 9, none⟩ = some (.string p.sc) := hrg2 9 _ rfl
      have r10 : wr.cell? ⟨gs, k * 14 + 10, none⟩ = some (.slice x10 y10 z10) := hrg2 10 _ rfl
      have r11 : wr.cell? ⟨gs, k * 14 + 11, none⟩ = some (.slice x11 y11 z11) := hrg2 11 _ rfl
      have r12 : wr.cell? ⟨gs, k * 14 + 12, none⟩ = some (.slice x12 y12 z12) := hrg2 12 _ rfl
      have r13 : wr.cell? ⟨gs, k * 14 + 13, none⟩ = some (.int .i64 p.rel) := hrg2 13 _ rfl
      obtain ⟨⟨u0', g0⟩, e0⟩ := HR.out.1.there k 0 hlt (by decide)
      obtain ⟨⟨u1', g1⟩, e1⟩ := HR.out.1.there k 1 hlt (by decide)
      obtain ⟨⟨u2', g2⟩, e2⟩ := HR.out.1.there k 2 hlt (by decide)
      obtain ⟨⟨u3', g3⟩, e3⟩ := HR.out.1.there k 3 hlt (by decide)
      obtain ⟨⟨u4', g4⟩, e4⟩ := HR.out.1.there k 4 hlt (by decide)
      obtain ⟨⟨u5', g5⟩, e5⟩ := HR.out.1.there k 5 hlt (by decide)
      obtain ⟨⟨u6', g6⟩, e6⟩ := HR.out.1.there k 6 hlt (by decide)
      obtain ⟨⟨u7', g7⟩, e7⟩ := HR.out.1.there k 7 hlt (by decide)
      obtain ⟨⟨u8', g8⟩, e8⟩ := HR.out.1.there k 8 hlt (by decide)
      obtain ⟨⟨u9', g9⟩, e9⟩ := HR.out.1.there k 9 hlt (by decide)
      obtain ⟨⟨u10', g10⟩, e10⟩ := HR.out.1.there k 10 hlt (by decide)
      obtain ⟨⟨u11', g11⟩, e11⟩ := HR.out.1.there k 11 hlt (by decide)
      obtain ⟨⟨u12', g12⟩, e12⟩ := HR.out.1.there k 12 hlt (by decide)
      obtain ⟨⟨u13', g13⟩, e13⟩ := HR.out.1.there k 13 hlt (by decide)
      replace g0 : wr.cell? ⟨wd.heap.size, k * 14, none⟩ = some u0' := g0
      replace e0 : wr.frozen? ⟨wd.heap.size, k * 14, none⟩ = false := e0
      have HGr : Hid (wd.heap.size < wr.heap.size) := HR.out.1.lt
      have HP : Hid (ps[k]? = some p) := hpp
      have HC : Hid (CellsOK w lo (.slice x2 y2 z2) p.cells) := hcells
      have HN : Hid (∀ (w' : World) (T : List Nat) (lo' : Nat) (a2 : Option Addr) (b2 c2 : Nat), Kept T w w' → Outer T → CellsOK w' lo' (.slice a2 b2 c2) p.cells → PeerOK w' lo' [.string p.peer, .int .i64 p.res, .slice a2 b2 c2, .bool p.eu, .bool p.all, .string p.cause, .slice x6 y6 z6, .bool p.so, .int .i64 p.sr, .string p.sc, .slice x10 y10 z10, .slice x11 y11 z11, .slice x12 y12 z12, .int .i64 p.rel] p) := hnew
      have HSM : Hid (Small p) := hsm
      have n4 : wd.heap.size < wr.heap.size := HGr.out
      have n5 : wd.heap.size ≠ w.heap.size + 1 := by omega
      have n6 : w.heap.size + 1 ≠ wd.heap.size := by omega
      have n7 : w.heap.size + 1 < wr.heap.size := by omega
      have n8 : gs < wr.heap.size := by omega
      have n9 : wd.heap.size ≠ wr.heap.size := by omega
      have n10 : wr.heap.size ≠ wd.heap.size := by omega
      clear hrg hrg2 hpp hcells hnew hpo hsm
      go_upto_region 7 with fail
      obtain ⟨hb7, ha7, hk7, hX7⟩ := clone_mid [.string p.peer, .int .i64 p.res, .slice x2 y2 z2, .bool p.eu, .bool p.all, .string p.cause, .slice x6 y6 z6, .bool p.so, .int .i64 p.sr, .string p.sc, .slice x10 y10 z10, .slice x11 y11 z11, .slice x12 y12 z12, .int .i64 p.rel] (.cells #[.string p.peer, .int .i64 p.res, .slice x2 y2 z2, .bool p.eu, .bool p.all, .string p.cause, .slice x6 y6 z6, .bool p.so, .int .i64 p.sr, .string p.sc, .slice x10 y10 z10, .slice x11 y11 z11, .slice x12 y12 z12, .int .i64 p.rel] 47) HR.out.1 HR.out.2.1 hlt rfl
      simp only [World.setCells, Nat.add_assoc, Nat.reduceAdd] at hb7 ha7 hk7 hX7
      clear r0 r1 r2 r3 r4 r5 r6 r7 r8 r9 r10 r11 r12 r13 g0 g1 g2 g3 g4 g5 g6 g7 g8 g9 g10 g11 g12 g13 e0 e1 e2 e3 e4 e5 e6 e7 e8 e9 e10 e11 e12 e13
      generalize ((((((((((((((wr.setCell ⟨wd.heap.size, k * 14, none⟩ (.string p.peer)).setCell ⟨wd.heap.size, k * 14 + 1, none⟩ (.int .i64 p.res)).setCell ⟨wd.heap.size, k * 14 + 2, none⟩ (.slice x2 y2 z2)).setCell ⟨wd.heap.size, k * 14 + 3, none⟩ (.bool p.eu)).setCell ⟨wd.heap.size, k * 14 + 4, none⟩ (.bool p.all)).setCell ⟨wd.heap.size, k * 14 + 5, none⟩ (.string p.cause)).setCell ⟨wd.heap.size, k * 14 + 6, none⟩ (.slice x6 y6 z6)).setCell ⟨wd.heap.size, k * 14 + 7, none⟩ (.bool p.so)).setCell ⟨wd.heap.size, k * 14 + 8, none⟩ (.int .i64 p.sr)).setCell ⟨wd.heap.size, k * 14 + 9, none⟩ (.string p.sc)).setCell ⟨wd.heap.size, k * 14 + 10, none⟩ (.slice x10 y10 z10)).setCell ⟨wd.heap.size, k * 14 + 11, none⟩ (.slice x11 y11 z11)).setCell ⟨wd.heap.size, k * 14 + 12, none⟩ (.slice x12 y12 z12)).setCell ⟨wd.heap.size, k * 14 + 13, none⟩ (.int .i64 p.rel)).alloc (.cells #[.string p.peer, .int .i64 p.res, .slice x2 y2 z2, .bool p.eu, .bool p.all, .string p.cause, .slice x6 y6 z6, .bool p.so, .int .i64 p.sr, .string p.sc, .slice x10 y10 z10, .slice x11 y11 z11, .slice x12 y12 z12, .int .i64 p.rel] 47) = W7 at hb7 ha7 hk7 hX7 ⊢
      have HB7 : Hid (Below wd.heap.size wr W7) := hb7
      have HA7 : Hid (Arr W7 wd.heap.size 47 14 ps.length (rows ++ [[.string p.peer, .int .i64 p.res, .slice x2 y2 z2, .bool p.eu, .bool p.all, .string p.cause, .slice x6 y6 z6, .bool p.so, .int .i64 p.sr, .string p.sc, .slice x10 y10 z10, .slice x11 y11 z11, .slice x12 y12 z12, .int .i64 p.rel]])) := ha7
      have HK7 : Hid (Kept [47] wr W7) := hk7
      have p7 := (hb7.cell (p := ⟨w.heap.size + 1, 5, none⟩) hsz2).trans p5
      have t7 : W7.cell? ⟨wr.heap.size, 2, none⟩ = some (.slice x2 y2 z2) := cell_of_row W7 _ 2 _ _ _ hX7
      obtain ⟨a2, b2, c2, W8, hr8, hc8, hb8⟩ := appendCells W7.drew lo _ p.cells ((HC.out.kept (T := [47]) ((Kept.of_below HST.out.bel).trans hk7) (by decide) (by decide)).kept (T := [47]) (Kept.of_below (Below.refl _ _).drew) (by decide) (by decide)) HSM.out.b2
      replace hb8 : Below W7.heap.size W7 W8 := ((Below.refl W7.heap.size W7).drew).trans hb8
      have HB8 : Hid (Below W7.heap.size W7 W8) := hb8
      have HC8 : Hid (CellsOK W8 w.heap.size (.slice a2 b2 c2) p.cells) := hc8.mono (Nat.le_trans (by omega) hb7.size)
      have p8 := (hb8.cell (p := ⟨w.heap.size + 1, 5, none⟩) (cell_lt p7)).trans p7
      have t8 := (hb8.cell (p := ⟨wr.heap.size, 2, none⟩) (cell_lt t7)).trans t7
      obtain ⟨⟨y8, g8⟩, e8⟩ := (ha7.of_blk (hb8.block _ ha7.lt)).there k 2 hlt (by decide)
      clear hb7 ha7 hk7 hX7 hc8 hb8 p5 f5
      go_region_held3 (fun W => W.cell? ⟨w.heap.size + 1, 5, none⟩ = some (.slice (some ⟨wd.heap.size, 0, none⟩) ps.length ps.length) ∧ W.cell? ⟨wr.heap.size, 2, none⟩ = some (.slice x2 y2 z2)) (go_keep) ((refine step_append_run (by rfl) _ _ 41 (by rfl) _ _ (by rfl) (by rfl) _ _ hr8 ?_))
      rename_i hh
      clear hh p7 t7 p8 t8 g8 e8 hr8
      go_wp2
      go_roundw
      case rel =>
        obtain ⟨hr1, hr2, hr4⟩ := HR.out
        obtain ⟨h1, h2, h3, h4⟩ := clone_round (r2 := [.string p.peer, .int .i64 p.res, .slice a2 b2 c2, .bool p.eu, .bool p.all, .string p.cause, .slice x6 y6 z6, .bool p.so, .int .i64 p.sr, .string p.sc, .slice x10 y10 z10, .slice x11 y11 z11, .slice x12 y12 z12, .int .i64 p.rel]) HST.out.bel hr1 hr2 hlt hr4 HP.out HA7.out HB7.out HK7.out HB8.out rfl HC8.out (fun w' hk hc => HN.out w' [47] _ _ _ _ hk (by unfold Outer; decide) hc)
        have hst5 := HST.out.below h1 (by omega)
        exact ⟨k + 1, rows ++ [[.string p.peer, .int .i64 p.res, .slice a2 b2 c2, .bool p.eu, .bool p.all, .string p.cause, .slice x6 y6 z6, .bool p.so, .int .i64 p.sr, .string p.sc, .slice x10 y10 z10, .slice x11 y11 z11, .slice x12 y12 z12, .int .i64 p.rel]], by omega, by go_num, hst5, h2, h3, h4⟩
      case measure => simp [intOf]; omega
    · have hps : PeersOK wr w.heap.size (.slice (some ⟨wd.heap.size, 0, none⟩) ps.length ps.length) ps := by
        obtain ⟨h1, h2, h3⟩ := HR.out
        have hkn : rows.length = ps.length := by omega
        exact ⟨rows, .inr ⟨wd.heap.size, ps.length, by rw [hkn], by omega, by omega, by unfold maxLen; omega, h1⟩, hkn, h3⟩
      obtain ⟨row, hrow'⟩ : ∃ row, row = (srow (.pointer pw) st (.slice (some ⟨wd.heap.size, 0, none⟩) ps.length ps.length)).toArray := ⟨_, rfl⟩
      have hn : row.size = 6 := by rw [hrow']; rfl
      have hone : row.all (·.oneCell') = true := by rw [hrow']; simp [srow, Value.oneCell']
      obtain ⟨hB5, hK5, hR5, hT5⟩ := HST.out.stored row hn
      have HI : Hid ((Try.prog.info? 34).map (·.size) = some row.size) := by unfold Hid; rw [hn]; kernel_rfl
      have HRow : Hid (row = (srow (.pointer pw) st (.slice (some ⟨wd.heap.size, 0, none⟩) ps.length ps.length)).toArray) := hrow'
      have HP : Hid (wr.heap[w.heap.size + 1]? = some (.cells row 34 (0, 0))) := by unfold Hid; rw [hrow']; exact HST.out.s
      have HT : Hid (wr.there w.heap.size 0 row.size) := hT5
      have H1 : Hid (row.all (·.oneCell') = true) := hone
      have HB5 : Hid (Below w.heap.size w (wr.setCells w.heap.size 0 row.toList)) := hB5
      have HK5 : Hid (Kept [34] wr (wr.setCells w.heap.size 0 row.toList)) := hK5
      have HR5 : Hid ((wr.setCells w.heap.size 0 row.toList).heap[w.heap.size]? = some (.cells row 34 (0, 0))) := hR5
      clear hrow' hn hone hB5 hK5 hR5 hT5 p5 f5
      go_upto_region 9 with fail
      refine wp_region_lit ?_
      refine wpList_load_row (o := ⟨some 40, .load 34 (.tmp 3), _, _, _, _⟩) (by rfl) 34 (.tmp 3) (by rfl) (w.heap.size + 1) (by rfl) 34 row (0, 0) _ HP.out Try.underlying34 (by rfl) HI.out ?_
      refine wpList_store_mid (op := ⟨none, .store 34 (.tmp 2) (.tmp 40), _, _, _, _⟩) (by rfl) 34 (.tmp 2) (.tmp 40) (by rfl) w.heap.size 0 row (by rfl) (by rfl) HT.out HI.out H1.out ?_
      go_wp2
      refine bodyPost_ret (v := .agg row) (results_cell_row Try.results14 _ _ w.heap.size 34 row (0, 0) _ rfl HR5.out Try.underlying34 rfl HI.out) rfl ?_
      have h34 := HK5.out
      exact ⟨_, by rw [HRow.out], hps.kept h34 (by unfold Outer; decide) (by decide), HB5.out⟩
end Go.Proofs.Qxb6616460a

import Derived.Test.Qxb6616460aData
namespace Go.Proofs.Qxb6616460a
open Go.RowKit
set_option linter.unusedVariables false

def BuildsPeer : Prop := ∀ (p : ZP) (w : World), InOK w p → Small p → Calls Try.prog 13 #[.agg (zrow p).toArray] w fun e w' => ∃ r : List Value, e = .returned (.agg r.toArray) ∧ PeerOK w' w.heap.size r p ∧ Below w.heap.size w w'

/-- The state of zzBuildStatus between two of its statements. -/
structure SSt (w0 wr : World) (vw : Value) (st : Int) (vp : Value) : Prop where
  bel : Below w0.heap.size w0 wr
  sz : w0.heap.size + 2 ≤ wr.heap.size
  r : ∃ r, wr.heap[w0.heap.size]? = some (.cells r 34 (0, 0)) ∧ r.size = 6
  s : wr.heap[w0.heap.size + 1]? = some (.cells (srow vw st vp).toArray 34 (0, 0))

theorem heap2 (w : World) (a b : Obj) : ((w.alloc a).alloc b).heap[w.heap.size]? = some a ∧ ((w.alloc a).alloc b).heap[w.heap.size + 1]? = some b := by
  have e1 : (w.alloc a).heap.size = w.heap.size + 1 := by simp
  refine ⟨?_, ?_⟩
  · rw [Below.heap_alloc _ _ _ (by omega)]; exact heap_alloc_new w a
  · rw [← e1]; exact heap_alloc_new _ b

theorem SSt.sc {w0 wr : World} {vw : Value} {st : Int} {vp : Value} (h : SSt w0 wr vw st vp) (k : Nat) (v : Value) (hv : (srow vw st vp)[k]? = some v) : wr.cell? ⟨w0.heap.size + 1, k, none⟩ = some v ∧ wr.frozen? ⟨w0.heap.size + 1, k, none⟩ = false := by
  refine ⟨?_, ?_⟩
  · rw [cell_of_row wr _ k _ _ _ h.s]; simpa using hv
  · unfold World.frozen?; rw [show (⟨w0.heap.size + 1, k, none⟩ : Addr).block = w0.heap.size + 1 from rfl, h.s]; simp
theorem SSt.below {w0 wr wr' : World} {vw : Value} {st : Int} {vp : Value} {B : Nat} (h : SSt w0 wr vw st vp) (hb : Below B wr wr') (hB : w0.heap.size + 2 ≤ B) : SSt w0 wr' vw st vp := by
  obtain ⟨r, hr, hs⟩ := h.r
  exact ⟨h.bel.trans (hb.mono (by omega)), Nat.le_trans h.sz hb.size, ⟨r, (hb.block _ (by omega)).trans hr, hs⟩, (hb.block _ (by omega)).trans h.s⟩
theorem SSt.step {w0 wc : World} {vw vp vw' vp' : Value} {st st' : Int} (h : SSt w0 wc vw st vp) (k : Nat) (v : Value) (hrow : (srow vw st vp).toArray.setIfInBounds k v = (srow vw' st' vp').toArray) :
    SSt w0 (wc.setCell ⟨w0.heap.size + 1, k, none⟩ v) vw' st' vp' := by
  have hsz := h.sz
  have e := size_setCell wc ⟨w0.heap.size + 1, k, none⟩ v
  obtain ⟨r, hr, hs⟩ := h.r
  have hp2 := setCell_blk (g := w0.heap.size + 1) h.s k v
  rw [hrow] at hp2
  exact ⟨h.bel.setCell (by show w0.heap.size ≤ w0.heap.size + 1; omega) _, by rw [e]; exact hsz, ⟨r, (Below.heap_setCell _ _ _ _ (by show w0.heap.size ≠ w0.heap.size + 1; omega)).trans hr, hs⟩, hp2⟩

theorem SSt.stored {w0 wr : World} {vw vp : Value} {st : Int} (h : SSt w0 wr vw st vp) (row : Array Value) (hv : row.size = 6) : Below w0.heap.size w0 (wr.setCells w0.heap.size 0 row.toList) ∧ Kept [34] wr (wr.setCells w0.heap.size 0 row.toList) ∧ (wr.setCells w0.heap.size 0 row.toList).heap[w0.heap.size]? = some (.cells row 34 (0, 0)) ∧ wr.there w0.heap.size 0 row.size := by
  obtain ⟨r, hr, hs⟩ := h.r
  refine ⟨h.bel.trans (setCells_below _ row.toList 0 wr), Kept.setCells hr (by decide) 0 row.toList, ?_, fun j hj => ?_⟩
  · have := setCells_whole w0.heap.size 34 (0, 0) row.toList [] r.toList wr (by simpa using hr) (by simp [hs, hv])
    simpa using this
  · rw [Nat.zero_add]
    refine ⟨?_, ?_⟩
    · rw [cell_of_row wr _ j _ _ _ hr, Array.getElem?_eq_getElem (by omega)]; rfl
    · unfold World.frozen?; rw [show (⟨w0.heap.size, j, none⟩ : Addr).block = w0.heap.size from rfl, hr]; simp

def z14 : Array Value := #[.string ⟨#[]⟩, .int .i64 0, .slice none 0 0, .bool false, .bool false, .string ⟨#[]⟩, .slice none 0 0, .bool false, .int .i64 0, .string ⟨#[]⟩, .slice none 0 0, .slice none 0 0, .slice none 0 0, .int .i64 0]
theorem run_make32 (n : Nat) (w : World) (hn : n ≤ 1048576) :
    (Instr.makeSlice 32 (.int .i64 (n : Int)) (.int .i64 (n : Int))).run Try.prog w = .ok (.slice (some ⟨w.heap.size, 0, none⟩) n n) (w.alloc (.cells (madeCells z14 (n * 14)) 47)) := by
  obtain ⟨i, hi, hz0, hz1, hz2⟩ := info_parts (P := Try.prog) (e := 47) (z := .agg z14) (size := 14) (bytes := 208) (by kernel_rfl)
  have h := run_make (P := Try.prog) w 32 47 i _ Try.underlying32 hi hz0 .i64 .i64 n n (by omega) (Int.le_refl _) (by rw [hz2]; omega) (by omega)
  simp only [Int.toNat_natCast, hz1] at h
  exact h

theorem below14 {g : Nat} {wr W : World} (h : Below g wr W) (o0 o1 o2 o3 o4 o5 o6 o7 o8 o9 o10 o11 o12 o13 : Nat) (v0 v1 v2 v3 v4 v5 v6 v7 v8 v9 v10 v11 v12 v13 : Value) : Below g wr ((((((((((((((W.setCell ⟨g, o0, none⟩ v0).setCell ⟨g, o1, none⟩ v1).setCell ⟨g, o2, none⟩ v2).setCell ⟨g, o3, none⟩ v3).setCell ⟨g, o4, none⟩ v4).setCell ⟨g, o5, none⟩ v5).setCell ⟨g, o6, none⟩ v6).setCell ⟨g, o7, none⟩ v7).setCell ⟨g, o8, none⟩ v8).setCell ⟨g, o9, none⟩ v9).setCell ⟨g, o10, none⟩ v10).setCell ⟨g, o11, none⟩ v11).setCell ⟨g, o12, none⟩ v12).setCell ⟨g, o13, none⟩ v13) :=
  ((((((((((((((h.setCell (p := ⟨g, o0, none⟩) (Nat.le_refl _) v0).setCell (p := ⟨g, o1, none⟩) (Nat.le_refl _) v1).setCell (p := ⟨g, o2, none⟩) (Nat.le_refl _) v2).setCell (p := ⟨g, o3, none⟩) (Nat.le_refl _) v3).setCell (p := ⟨g, o4, none⟩) (Nat.le_refl _) v4).setCell (p := ⟨g, o5, none⟩) (Nat.le_refl _) v5).setCell (p := ⟨g, o6, none⟩) (Nat.le_refl _) v6).setCell (p := ⟨g, o7, none⟩) (Nat.le_refl _) v7).setCell (p := ⟨g, o8, none⟩) (Nat.le_refl _) v8).setCell (p := ⟨g, o9, none⟩) (Nat.le_refl _) v9).setCell (p := ⟨g, o10, none⟩) (Nat.le_refl _) v10).setCell (p := ⟨g, o11, none⟩) (Nat.le_refl _) v11).setCell (p := ⟨g, o12, none⟩) (Nat.le_refl _) v12).setCell (p := ⟨g, o13, none⟩) (Nat.le_refl _) v13)

theorem HB_at (HB : BuildsPeer) {w wr : World} {p : ZP} {cs : Array Value} (hcs : cs = (zrow p).toArray) (hi : InOK w p) (hs : Small p) (hb : Below w.heap.size w wr) {B : Nat} (hB : B ≤ wr.heap.size) : ∀ W : World, Below wr.heap.size wr W → Calls Try.prog 13 #[.agg cs] W fun e w' => ∃ x2 y2 z2 x6 y6 z6 x10 y10 z10 x11 y11 z11 x12 y12 z12, e = .returned (.agg #[.string p.peer, .int .i64 p.res, .slice x2 y2 z2, .bool p.eu, .bool p.all, .string p.cause, .slice x6 y6 z6, .bool p.so, .int .i64 p.sr, .string p.sc, .slice x10 y10 z10, .slice x11 y11 z11, .slice x12 y12 z12, .int .i64 p.rel]) ∧ PeerOK w' B [.string p.peer, .int .i64 p.res, .slice x2 y2 z2, .bool p.eu, .bool p.all, .string p.cause, .slice x6 y6 z6, .bool p.so, .int .i64 p.sr, .string p.sc, .slice x10 y10 z10, .slice x11 y11 z11, .slice x12 y12 z12, .int .i64 p.rel] p ∧ Below wr.heap.size wr w' := fun W hW => by
  subst hcs
  refine (HB p W (hi.below (hb.trans (hW.mono hb.size)) (Nat.le_refl _)) hs).mono ?_
  rintro e w' ⟨r, rfl, h1, h2⟩
  have h1' := h1.mono (Nat.le_trans hB hW.size)
  obtain ⟨v2, v6, v10, v11, v12, rfl, h2', h6, h10, h11, h12⟩ := h1
  obtain ⟨x2, y2, z2, rfl⟩ := h2'.is
  obtain ⟨x6, y6, z6, rfl⟩ := h6.is
  obtain ⟨x10, y10, z10, rfl⟩ := h10.is
  obtain ⟨x11, y11, z11, rfl⟩ := h11.is
  obtain ⟨x12, y12, z12, rfl⟩ := h12.is
  exact ⟨x2, y2, z2, x6, y6, z6, x10, y10, z10, x11, y11, z11, x12, y12, z12, rfl, h1', hW.trans (h2.mono hW.size)⟩

theorem arr14 (cs : Array Value) (h : cs.size = 14) : ∃ c0 c1 c2 c3 c4 c5 c6 c7 c8 c9 c10 c11 c12 c13, cs = #[c0, c1, c2, c3, c4, c5, c6, c7, c8, c9, c10, c11, c12, c13] := by
  obtain ⟨l⟩ := cs
  simp at h
  match l, h with
  | [c0, c1, c2, c3, c4, c5, c6, c7, c8, c9, c10, c11, c12, c13], _ => exact ⟨c0, c1, c2, c3, c4, c5, c6, c7, c8, c9, c10, c11, c12, c13, rfl⟩

set_option maxHeartbeats 800000 in
set_option maxRecDepth 100000 in
theorem buildStatus_any (HB : BuildsPeer) (st : Int) (hw : Bool) (id : ByteArray) (mid : Int) (text : ByteArray) (a : Option Addr) (cap : Nat) (ps : List ZP) (w : World) (hin : PIn w a cap ps) (hs : ∀ p ∈ ps, Small p) (hl : ps.length ≤ 1048576) :
    Calls Try.prog 7 #[.int .i64 st, .bool hw, .string id, .int .u16 mid, .string text, .slice a ps.length cap] w fun e w' => ∃ vw vp, e = .returned (.agg (srow vw st vp).toArray) ∧ WarnOK w' vw hw id mid text ∧ PeersOK w' w.heap.size vp ps ∧ Below w.heap.size w w' := by
  have q23 := neq23
  go_enter Try.func7, Try.ntmps7
  go_upto_if 16 with fail
  go_cut [] (fun w' => ∃ vw, SSt w w' vw 0 (.slice none 0 0) ∧ WarnOK w' vw hw id mid text)
  case first =>
    cases hw
    · go_wp2
      go_meet
      case rel =>
        have h2 := heap2 w
        exact ⟨_, ⟨((Below.refl _ _).alloc (Nat.le_refl _) _).alloc (by simp) _, by simp, ⟨_, (h2 _ _).1, by simp⟩, (h2 _ _).2⟩, .inl ⟨rfl, rfl⟩⟩
    · go_wp2
      go_meet
      case rel =>
        have h3 := heap3 w
        exact ⟨_, ⟨(((Below.refl _ _).alloc (Nat.le_refl _) _).alloc (by simp) _).alloc (by simp; omega) _, by simp, ⟨_, (h3 _ _ _).1, by simp⟩, (h3 _ _ _).2.1⟩, .inr ⟨rfl, _, _, rfl, (h3 _ _ _).2.2, rfl, rfl, rfl⟩⟩
  case rest =>
    obtain ⟨vw, hcut, hwarn⟩ := hcut
    obtain ⟨s1, f1⟩ := hcut.sc 1 _ rfl
    go_upto_if 35 with fail
    have hK : Kept [34] wc (wc.setCell ⟨w.heap.size + 1, 1, none⟩ (.int .i64 st)) := Kept.setCell hcut.s (by decide) 1 _
    replace hcut := hcut.step 1 (.int .i64 st) (vw' := vw) (st' := st) (vp' := .slice none 0 0) rfl
    replace hwarn := hwarn.kept hK (by decide)
    clear s1 f1 hK
    generalize wc.setCell ⟨w.heap.size + 1, 1, none⟩ (.int .i64 st) = wd at hcut hwarn ⊢
    go_cut [] (fun w' => ∃ vp, SSt w w' vw st vp ∧ WarnOK w' vw hw id mid text ∧ PeersOK w' (w.heap.size + 2) vp ps)
    case first =>
      have hsz := hcut.sz
      cases ha : a with
      | none =>
        subst ha
        go_wp2
        go_meet
        case rel => exact ⟨_, hcut, hwarn, [], .inl ⟨rfl, rfl⟩, by rw [(hin.nil rfl).1]; rfl, fun j r c h => by simp at h⟩
      | some x =>
        subst ha
        have hm := run_make32 ps.length wd hl
        obtain ⟨pp, ff⟩ := hcut.sc 5 _ rfl
        have hsz2 : w.heap.size + 1 < wd.heap.size := by omega
        go_wp2
        go_loopw [15] (fun i w' => ∃ k : Nat, ∃ rows : List (List Value), k ≤ ps.length ∧ i = .int .i64 k ∧ SSt w w' vw st (.slice (some ⟨wd.heap.size, 0, none⟩) ps.length ps.length) ∧ WarnOK w' vw hw id mid text ∧ Arr w' wd.heap.size 47 14 ps.length rows ∧ rows.length = k ∧ ∀ (j : Nat) (r : List Value) (p : ZP), rows[j]? = some r → ps[j]? = some p → PeerOK w' (w.heap.size + 2) r p) (fun i _ => ps.length - (intOf i).toNat)
        case atStart =>
          have h1 := hcut.step 5 (.slice (some ⟨wd.heap.size, 0, none⟩) ps.length ps.length) (vw' := vw) (st' := st) (vp' := (.slice (some ⟨wd.heap.size, 0, none⟩) ps.length ps.length)) rfl
          have h2 := h1.below ((Below.refl _ _).alloc (Nat.le_refl _) (.cells (madeCells z14 (ps.length * 14)) 47)) h1.sz
          exact ⟨0, [], Nat.zero_le _, rfl, h2, (hwarn.kept (Kept.setCell (T := [34]) hcut.s (by decide) 5 (.slice (some ⟨wd.heap.size, 0, none⟩) ps.length ps.length)) (by decide)).kept (T := [34]) (Kept.of_below ((Below.refl _ _).alloc (Nat.le_refl _) _)) (by decide), Arr.made' wd _ _ _ 47 14 ps.length, rfl, fun j r c h => by simp at h⟩
        case round =>
          obtain ⟨k, rows, hk, rfl, hst, hwn, harr, hrl, hpk⟩ := hrel
          have HST : Hid (SSt w wr vw st (.slice (some ⟨wd.heap.size, 0, none⟩) ps.length ps.length)) := hst
          have HW : Hid (WarnOK wr vw hw id mid text) := hwn
          have HR : Hid (Arr wr wd.heap.size 47 14 ps.length rows ∧ rows.length = k ∧ ∀ (j : Nat) (r : List Value) (p : ZP), rows[j]? = some r → ps[j]? = some p → PeerOK wr (w.heap.size + 2) r p) := ⟨harr, hrl, hpk⟩
          obtain ⟨p5, f5⟩ := hst.sc 5 _ rfl
          clear hst hwn harr hrl hpk pp ff hm hwarn hcut
          by_cases hlt : k < ps.length
          · obtain ⟨p, hp⟩ : ∃ p, ps[k]? = some p := ⟨_, List.getElem?_eq_getElem hlt⟩
            obtain ⟨b, o, hx, hbl, hrg⟩ := hin.isSome hp
            obtain rfl := Option.some.inj hx
            have hmem := List.mem_of_getElem? hp
            obtain ⟨cs, hcs⟩ : ∃ cs, cs = (zrow p).toArray := ⟨_, rfl⟩
            have hcl : cs.size = 14 := by rw [hcs]; rfl
            obtain ⟨c0, c1, c2, c3, c4, c5, c6, c7, c8, c9, c10, c11, c12, c13, hce⟩ := arr14 cs hcl
            have HBc : Hid (∀ W : World, Below wr.heap.size wr W → Calls Try.prog 13 #[.agg #[c0, c1, c2, c3, c4, c5, c6, c7, c8, c9, c10, c11, c12, c13]] W fun e w' => ∃ x2 y2 z2 x6 y6 z6 x10 y10 z10 x11 y11 z11 x12 y12 z12, e = .returned (.agg #[.string p.peer, .int .i64 p.res, .slice x2 y2 z2, .bool p.eu, .bool p.all, .string p.cause, .slice x6 y6 z6, .bool p.so, .int .i64 p.sr, .string p.sc, .slice x10 y10 z10, .slice x11 y11 z11, .slice x12 y12 z12, .int .i64 p.rel]) ∧ PeerOK w' (w.heap.size + 2) [.string p.peer, .int .i64 p.res, .slice x2 y2 z2, .bool p.eu, .bool p.all, .string p.cause, .slice x6 y6 z6, .bool p.so, .int .i64 p.sr, .string p.sc, .slice x10 y10 z10, .slice x11 y11 z11, .slice x12 y12 z12, .int .i64 p.rel] p ∧ Below wr.heap.size wr w') := HB_at HB (hce.symm.trans hcs) (hin.ok p hmem) (hs p hmem) HST.out.bel HST.out.sz
            have hrg' : w.rangeAt b (o + k * 14) #[c0, c1, c2, c3, c4, c5, c6, c7, c8, c9, c10, c11, c12, c13].toList := by rw [← hce, hcs]; exact hrg
            have hrg2 := Below.range HST.out.bel hrg' hbl
            have HS : Hid (∀ W : World, Below wd.heap.size wr W → W.cell? ⟨w.heap.size + 1, 5, none⟩ = some (.slice (some ⟨wd.heap.size, 0, none⟩) ps.length ps.length) ∧ W.cell? ⟨b, o + k * 14, none⟩ = some c0 ∧ W.cell? ⟨b, o + k * 14 + 1, none⟩ = some c1 ∧ W.cell? ⟨b, o + k * 14 + 2, none⟩ = some c2 ∧ W.cell? ⟨b, o + k * 14 + 3, none⟩ = some c3 ∧ W.cell? ⟨b, o + k * 14 + 4, none⟩ = some c4 ∧ W.cell? ⟨b, o + k * 14 + 5, none⟩ = some c5 ∧ W.cell? ⟨b, o + k * 14 + 6, none⟩ = some c6 ∧ W.cell? ⟨b, o + k * 14 + 7, none⟩ = some c7 ∧ W.cell? ⟨b, o + k * 14 + 8, none⟩ = some c8 ∧ W.cell? ⟨b, o + k * 14 + 9, none⟩ = some c9 ∧ W.cell? ⟨b, o + k * 14 + 10, none⟩ = some c10 ∧ W.cell? ⟨b, o + k * 14 + 11, none⟩ = some c11 ∧ W.cell? ⟨b, o + k * 14 + 12, none⟩ = some c12 ∧ W.cell? ⟨b, o + k * 14 + 13, none⟩ = some c13) := fun W hW => by
              have hr := Below.range hW hrg2 (by omega)
              exact ⟨(hW.cell (p := ⟨w.heap.size + 1, 5, none⟩) hsz2).trans p5, hr 0 _ rfl, hr 1 _ rfl, hr 2 _ rfl, hr 3 _ rfl, hr 4 _ rfl, hr 5 _ rfl, hr 6 _ rfl, hr 7 _ rfl, hr 8 _ rfl, hr 9 _ rfl, hr 10 _ rfl, hr 11 _ rfl, hr 12 _ rfl, hr 13 _ rfl⟩
            have HP : Hid (ps[k]? = some p) := hp
            have HTh : Hid (wr.there wd.heap.size (k * 14) 14) := HR.out.1.there' k hlt
            have HGr : Hid (wd.heap.size < wr.heap.size) := HR.out.1.lt
            obtain ⟨⟨y0', g0⟩, e0⟩ := HR.out.1.there k 0 hlt (by decide)
            obtain ⟨⟨y1', g1⟩, e1⟩ := HR.out.1.there k 1 hlt (by decide)
            obtain ⟨⟨y2', g2⟩, e2⟩ := HR.out.1.there k 2 hlt (by decide)
            obtain ⟨⟨y3', g3⟩, e3⟩ := HR.out.1.there k 3 hlt (by decide)
            obtain ⟨⟨y4', g4⟩, e4⟩ := HR.out.1.there k 4 hlt (by decide)
            obtain ⟨⟨y5', g5⟩, e5⟩ := HR.out.1.there k 5 hlt (by decide)
            obtain ⟨⟨y6', g6⟩, e6⟩ := HR.out.1.there k 6 hlt (by decide)
            obtain ⟨⟨y7', g7⟩, e7⟩ := HR.out.1.there k 7 hlt (by decide)
            obtain ⟨⟨y8', g8⟩, e8⟩ := HR.out.1.there k 8 hlt (by decide)
            obtain ⟨⟨y9', g9⟩, e9⟩ := HR.out.1.there k 9 hlt (by decide)
            obtain ⟨⟨y10', g10⟩, e10⟩ := HR.out.1.there k 10 hlt (by decide)
            obtain ⟨⟨y11', g11⟩, e11⟩ := HR.out.1.there k 11 hlt (by decide)
            obtain ⟨⟨y12', g12⟩, e12⟩ := HR.out.1.there k 12 hlt (by decide)
            obtain ⟨⟨y13', g13⟩, e13⟩ := HR.out.1.there k 13 hlt (by decide)
            clear hrg hrg' hcs hx hmem hp p5 f5 hce hrg2 hcl
            go_wp2
            go_region_held3 (fun W => W.cell? ⟨w.heap.size + 1, 5, none⟩ = some (.slice (some ⟨wd.heap.size, 0, none⟩) ps.length ps.length) ∧ W.cell? ⟨b, o + k * 14, none⟩ = some c0 ∧ W.cell? ⟨b, o + k * 14 + 1, none⟩ = some c1 ∧ W.cell? ⟨b, o + k * 14 + 2, none⟩ = some c2 ∧ W.cell? ⟨b, o + k * 14 + 3, none⟩ = some c3 ∧ W.cell? ⟨b, o + k * 14 + 4, none⟩ = some c4 ∧ W.cell? ⟨b, o + k * 14 + 5, none⟩ = some c5 ∧ W.cell? ⟨b, o + k * 14 + 6, none⟩ = some c6 ∧ W.cell? ⟨b, o + k * 14 + 7, none⟩ = some c7 ∧ W.cell? ⟨b, o + k * 14 + 8, none⟩ = some c8 ∧ W.cell? ⟨b, o + k * 14 + 9, none⟩ = some c9 ∧ W.cell? ⟨b, o + k * 14 + 10, none⟩ = some c10 ∧ W.cell? ⟨b, o + k * 14 + 11, none⟩ = some c11 ∧ W.cell? ⟨b, o + k * 14 + 12, none⟩ = some c12 ∧ W.cell? ⟨b, o + k * 14 + 13, none⟩ = some c13) ((refine HS.out _ ?_; first | (with_reducible exact (Below.refl _ _).drew) | (with_reducible exact (hbb.mono (Nat.le_of_lt HGr.out))) | (with_reducible exact below14 (hbb.mono (Nat.le_of_lt HGr.out)) _ _ _ _ _ _ _ _ _ _ _ _ _ _ _ _ _ _ _ _ _ _ _ _ _ _ _ _))) ((go_at_call 13; refine (HBc.out _ (Below.refl _ _).drew).mono ?_; rintro e w' ⟨x2, y2, z2, x6, y6, z6, x10, y10, z10, x11, y11, z11, x12, y12, z12, rfl, hr3, hbb⟩; have x0' := (hbb.cell (p := ⟨wd.heap.size, k * 14, none⟩) HGr.out).trans g0; have q0' := (hbb.frozen (p := ⟨wd.heap.size, k * 14, none⟩) HGr.out).trans e0; have x1' := (hbb.cell (p := ⟨wd.heap.size, k * 14 + 1, none⟩) HGr.out).trans g1; have q1' := (hbb.frozen (p := ⟨wd.heap.size, k * 14 + 1, none⟩) HGr.out).trans e1; have x2' := (hbb.cell (p := ⟨wd.heap.size, k * 14 + 2, none⟩) HGr.out).trans g2; have q2' := (hbb.frozen (p := ⟨wd.heap.size, k * 14 + 2, none⟩) HGr.out).trans e2; have x3' := (hbb.cell (p := ⟨wd.heap.size, k * 14 + 3, none⟩) HGr.out).trans g3; have q3' := (hbb.frozen (p := ⟨wd.heap.size, k * 14 + 3, none⟩) HGr.out).trans e3; have x4' := (hbb.cell (p := ⟨wd.heap.size, k * 14 + 4, none⟩) HGr.out).trans g4; have q4' := (hbb.frozen (p := ⟨wd.heap.size, k * 14 + 4, none⟩) HGr.out).trans e4; have x5' := (hbb.cell (p := ⟨wd.heap.size, k * 14 + 5, none⟩) HGr.out).trans g5; have q5' := (hbb.frozen (p := ⟨wd.heap.size, k * 14 + 5, none⟩) HGr.out).trans e5; have x6' := (hbb.cell (p := ⟨wd.heap.size, k * 14 + 6, none⟩) HGr.out).trans g6; have q6' := (hbb.frozen (p := ⟨wd.heap.size, k * 14 + 6, none⟩) HGr.out).trans e6; have x7' := (hbb.cell (p := ⟨wd.heap.size, k * 14 + 7, none⟩) HGr.out).trans g7; have q7' := (hbb.frozen (p := ⟨wd.heap.size, k * 14 + 7, none⟩) HGr.out).trans e7; have x8' := (hbb.cell (p := ⟨wd.heap.size, k * 14 + 8, none⟩) HGr.out).trans g8; have q8' := (hbb.frozen (p := ⟨wd.heap.size, k * 14 + 8, none⟩) HGr.out).trans e8; have x9' := (hbb.cell (p := ⟨wd.heap.size, k * 14 + 9, none⟩) HGr.out).trans g9; have q9' := (hbb.frozen (p := ⟨wd.heap.size, k * 14 + 9, none⟩) HGr.out).trans e9; have x10' := (hbb.cell (p := ⟨wd.heap.size, k * 14 + 10, none⟩) HGr.out).trans g10; have q10' := (hbb.frozen (p := ⟨wd.heap.size, k * 14 + 10, none⟩) HGr.out).trans e10; have x11' := (hbb.cell (p := ⟨wd.heap.size, k * 14 + 11, none⟩) HGr.out).trans g11; have q11' := (hbb.frozen (p := ⟨wd.heap.size, k * 14 + 11, none⟩) HGr.out).trans e11; have x12' := (hbb.cell (p := ⟨wd.heap.size, k * 14 + 12, none⟩) HGr.out).trans g12; have q12' := (hbb.frozen (p := ⟨wd.heap.size, k * 14 + 12, none⟩) HGr.out).trans e12; have x13' := (hbb.cell (p := ⟨wd.heap.size, k * 14 + 13, none⟩) HGr.out).trans g13; have q13' := (hbb.frozen (p := ⟨wd.heap.size, k * 14 + 13, none⟩) HGr.out).trans e13))
            rename_i hh
            clear hh HS x0' x1' x2' x3' x4' x5' x6' x7' x8' x9' x10' x11' x12' x13' q0' q1' q2' q3' q4' q5' q6' q7' q8' q9' q10' q11' q12' q13' g0 g1 g2 g3 g4 g5 g6 g7 g8 g9 g10 g11 g12 g13 e0 e1 e2 e3 e4 e5 e6 e7 e8 e9 e10 e11 e12 e13
            go_wp2
            go_roundw
            case rel =>
              obtain ⟨hr1, hr2, hr4⟩ := HR.out
              obtain ⟨hb5, ha5, kk5, kt⟩ := round_end2 hbb hr1 [.string p.peer, .int .i64 p.res, .slice x2 y2 z2, .bool p.eu, .bool p.all, .string p.cause, .slice x6 y6 z6, .bool p.so, .int .i64 p.sr, .string p.sc, .slice x10 y10 z10, .slice x11 y11 z11, .slice x12 y12 z12, .int .i64 p.rel] rfl hr2 hlt
              have hcs5 := peers_snoc hr4 kk5 hr2 [.string p.peer, .int .i64 p.res, .slice x2 y2 z2, .bool p.eu, .bool p.all, .string p.cause, .slice x6 y6 z6, .bool p.so, .int .i64 p.sr, .string p.sc, .slice x10 y10 z10, .slice x11 y11 z11, .slice x12 y12 z12, .int .i64 p.rel] p HP.out (hr3.kept kt (by unfold Outer; decide))
              simp only [World.setCells, Nat.add_assoc, Nat.reduceAdd] at hb5 ha5 hcs5 kk5
              have hst5 := HST.out.below hb5 (by omega)
              have hw5 := HW.out.kept kk5 (by decide)
              repeat apply Exists.intro
              exact ⟨⟨k + 1, rows ++ [[.string p.peer, .int .i64 p.res, .slice x2 y2 z2, .bool p.eu, .bool p.all, .string p.cause, .slice x6 y6 z6, .bool p.so, .int .i64 p.sr, .string p.sc, .slice x10 y10 z10, .slice x11 y11 z11, .slice x12 y12 z12, .int .i64 p.rel]], by omega, by go_num, hst5, hw5, ha5, by simp [hr2], hcs5⟩, rfl⟩
            case measure => simp [intOf]; omega
          · go_wp2
            go_meet
            case rel =>
              obtain ⟨h1, h2, h3⟩ := HR.out
              have hkn : rows.length = ps.length := by omega
              exact ⟨_, HST.out, HW.out, rows, .inr ⟨wd.heap.size, ps.length, by rw [hkn], by omega, by omega, by unfold maxLen; omega, h1⟩, hkn, h3⟩
    case rest =>
      obtain ⟨vp, hcut, hwarn, hps⟩ := hcut
      obtain ⟨row, hrow⟩ : ∃ row, row = (srow vw st vp).toArray := ⟨_, rfl⟩
      have hn : row.size = 6 := by rw [hrow]; rfl
      have hone : row.all (·.oneCell') = true := by
        obtain ⟨a1, rfl⟩ := hwarn.is
        obtain ⟨a2, a3, a4, rfl⟩ := hps.is
        rw [hrow]
        simp [srow, Value.oneCell']
      obtain ⟨hB5, hK5, hR5, hT5⟩ := hcut.stored row hn
      have HI : Hid ((Try.prog.info? 34).map (·.size) = some row.size) := by unfold Hid; rw [hn]; kernel_rfl
      have HRow : Hid (row = (srow vw st vp).toArray) := hrow
      have HP : Hid (wc.heap[w.heap.size + 1]? = some (.cells row 34 (0, 0))) := by unfold Hid; rw [hrow]; exact hcut.s
      have HT : Hid (wc.there w.heap.size 0 row.size) := hT5
      have H1 : Hid (row.all (·.oneCell') = true) := hone
      have HB5 : Hid (Below w.heap.size w (wc.setCells w.heap.size 0 row.toList)) := hB5
      have HK5 : Hid (Kept [34] wc (wc.setCells w.heap.size 0 row.toList)) := hK5
      have HR5 : Hid ((wc.setCells w.heap.size 0 row.toList).heap[w.heap.size]? = some (.cells row 34 (0, 0))) := hR5
      clear hrow hn hone hB5 hK5 hR5 hT5 hcut
      go_upto_region 14 with fail
      refine wp_region_lit ?_
      refine wpList_load_row (o := ⟨some 55, .load 34 (.tmp 13), _, _, _, _⟩) (by rfl) 34 (.tmp 13) (by rfl) (w.heap.size + 1) (by rfl) 34 row (0, 0) _ HP.out Try.underlying34 (by rfl) HI.out ?_
      refine wpList_store_mid (op := ⟨none, .store 34 (.tmp 12) (.tmp 55), _, _, _, _⟩) (by rfl) 34 (.tmp 12) (.tmp 55) (by rfl) w.heap.size 0 row (by rfl) (by rfl) HT.out HI.out H1.out ?_
      go_wp2
      refine bodyPost_ret (v := .agg row) (results_cell_row Try.results7 _ _ w.heap.size 34 row (0, 0) _ rfl HR5.out Try.underlying34 rfl HI.out) rfl ?_
      have h34 := HK5.out
      exact ⟨vw, vp, by rw [HRow.out], hwarn.kept h34 (by decide), (hps.kept h34 (by unfold Outer; decide) (by decide)).mono (by omega), HB5.out⟩
end Go.Proofs.Qxb6616460a

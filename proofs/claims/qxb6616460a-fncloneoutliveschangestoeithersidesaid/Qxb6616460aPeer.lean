import Derived.Test.Qxb6616460aData
import Derived.Deep.DeepCutAuto
namespace Go.Proofs.Qxb6616460a
open Go.RowKit
set_option linter.unusedVariables false

/-- The state of zzBuildPeer between two of its statements. -/
structure BSt (w0 wr : World) (cs : Array Value) (p : ZP) (v2 v6 v10 v11 v12 : Value) : Prop where
  bel : Below w0.heap.size w0 wr
  sz : w0.heap.size + 3 ≤ wr.heap.size
  z : wr.heap[w0.heap.size]? = some (.cells cs 54 (0, 0))
  r : ∃ r, wr.heap[w0.heap.size + 1]? = some (.cells r 47 (0, 0)) ∧ r.size = 14
  pr : wr.heap[w0.heap.size + 2]? = some (.cells (prow p v2 v6 v10 v11 v12).toArray 47 (0, 0))

theorem BSt.zc {w0 wr : World} {cs : Array Value} {p : ZP} {v2 v6 v10 v11 v12 : Value} (h : BSt w0 wr cs p v2 v6 v10 v11 v12) (k : Nat) (v : Value) (hv : cs[k]? = some v) : wr.cell? ⟨w0.heap.size, k, none⟩ = some v := by
  rw [cell_of_row wr _ k _ _ _ h.z]; exact hv
theorem BSt.pc {w0 wr : World} {cs : Array Value} {p : ZP} {v2 v6 v10 v11 v12 : Value} (h : BSt w0 wr cs p v2 v6 v10 v11 v12) (k : Nat) (v : Value) (hv : (prow p v2 v6 v10 v11 v12)[k]? = some v) : wr.cell? ⟨w0.heap.size + 1 + 1, k, none⟩ = some v ∧ wr.frozen? ⟨w0.heap.size + 1 + 1, k, none⟩ = false := by
  refine ⟨?_, ?_⟩
  · rw [cell_of_row wr _ k _ _ _ h.pr]; simpa using hv
  · unfold World.frozen?; rw [show (⟨w0.heap.size + 1 + 1, k, none⟩ : Addr).block = w0.heap.size + 2 from rfl, h.pr]; simp

theorem BSt.below {w0 wr wr' : World} {cs : Array Value} {p : ZP} {v2 v6 v10 v11 v12 : Value} {B : Nat} (h : BSt w0 wr cs p v2 v6 v10 v11 v12) (hb : Below B wr wr') (hB : w0.heap.size + 3 ≤ B) : BSt w0 wr' cs p v2 v6 v10 v11 v12 := by
  obtain ⟨r, hr, hs⟩ := h.r
  exact ⟨h.bel.trans (hb.mono (by omega)), Nat.le_trans h.sz hb.size, (hb.block _ (by omega)).trans h.z, ⟨r, (hb.block _ (by omega)).trans hr, hs⟩, (hb.block _ (by omega)).trans h.pr⟩

theorem BSt.step {w0 wc : World} {cs : Array Value} {p : ZP} {v2 v6 v10 v11 v12 u2 u6 u10 u11 u12 : Value} (h : BSt w0 wc cs p v2 v6 v10 v11 v12) (X : Obj) (k : Nat) (v : Value)
    (hrow : (prow p v2 v6 v10 v11 v12).toArray.setIfInBounds k v = (prow p u2 u6 u10 u11 u12).toArray) :
    BSt w0 ((wc.setCell ⟨w0.heap.size + 1 + 1, k, none⟩ v).alloc X) cs p u2 u6 u10 u11 u12 ∧ wc.grownBy ((wc.setCell ⟨w0.heap.size + 1 + 1, k, none⟩ v).alloc X) (some (w0.heap.size + 2)) := by
  have hsz := h.sz
  have e := size_setCell wc ⟨w0.heap.size + 1 + 1, k, none⟩ v
  have hz : ∀ j, j < wc.heap.size → j ≠ w0.heap.size + 2 → ((wc.setCell ⟨w0.heap.size + 1 + 1, k, none⟩ v).alloc X).heap[j]? = wc.heap[j]? := fun j hj hn => by
    rw [Below.heap_alloc _ _ _ (by omega), Below.heap_setCell _ _ _ _ (by show j ≠ w0.heap.size + 1 + 1; omega)]
  obtain ⟨r, hr, hs⟩ := h.r
  have hp2 := setCell_blk (g := w0.heap.size + 1 + 1) h.pr k v
  rw [hrow] at hp2
  refine ⟨⟨(h.bel.setCell (by show w0.heap.size ≤ w0.heap.size + 1 + 1; omega) _).alloc (by rw [e]; omega) _, ?_, (hz _ (by omega) (by omega)).trans h.z, ⟨r, (hz _ (by omega) (by omega)).trans hr, hs⟩, ?_⟩,
    ⟨rfl, rfl, rfl, ?_, fun j hj hn => hz j hj (fun e => hn (by rw [e]))⟩⟩
  · simp [World.setCell]; omega
  · rw [Below.heap_alloc _ _ _ (by omega)]; exact hp2
  · simp [World.setCell]

theorem run_make41 (n : Nat) (w : World) (hn : n ≤ 1048576) :
    (Instr.makeSlice 41 (.int .i64 (n : Int)) (.int .i64 (n : Int))).run Try.prog w = .ok (.slice (some ⟨w.heap.size, 0, none⟩) n n) (w.alloc (.cells (madeCells #[.string ⟨#[]⟩, .string ⟨#[]⟩, .int .u16 0, .int .u16 0, .int .i64 0, .string ⟨#[]⟩, .pointer none] (n * 7)) 65)) := by
  obtain ⟨i, hi, hz0, hz1, hz2⟩ := info_parts (P := Try.prog) (e := 65) (z := .agg #[.string ⟨#[]⟩, .string ⟨#[]⟩, .int .u16 0, .int .u16 0, .int .i64 0, .string ⟨#[]⟩, .pointer none]) (size := 7) (bytes := 72) (by kernel_rfl)
  have h := run_make (P := Try.prog) w 41 65 i _ Try.underlying41 hi hz0 .i64 .i64 n n (by omega) (Int.le_refl _) (by rw [hz2]; omega) (by omega)
  simp only [Int.toNat_natCast, hz1] at h
  exact h

theorem run_make42 (n : Nat) (w : World) (hn : n ≤ 1048576) :
    (Instr.makeSlice 42 (.int .i64 (n : Int)) (.int .i64 (n : Int))).run Try.prog w = .ok (.slice (some ⟨w.heap.size, 0, none⟩) n n) (w.alloc (.cells (madeCells #[.string ⟨#[]⟩, .string ⟨#[]⟩, .int .u16 0] (n * 3)) 100)) := by
  obtain ⟨i, hi, hz0, hz1, hz2⟩ := info_parts (P := Try.prog) (e := 100) (z := .agg #[.string ⟨#[]⟩, .string ⟨#[]⟩, .int .u16 0]) (size := 3) (bytes := 40) (by kernel_rfl)
  have h := run_make (P := Try.prog) w 42 100 i _ Try.underlying42 hi hz0 .i64 .i64 n n (by omega) (Int.le_refl _) (by rw [hz2]; omega) (by omega)
  simp only [Int.toNat_natCast, hz1] at h
  exact h

theorem run_make43 (n : Nat) (w : World) (hn : n ≤ 1048576) :
    (Instr.makeSlice 43 (.int .i64 (n : Int)) (.int .i64 (n : Int))).run Try.prog w = .ok (.slice (some ⟨w.heap.size, 0, none⟩) n n) (w.alloc (.cells (madeCells #[.string ⟨#[]⟩, .string ⟨#[]⟩, .int .u32 0] (n * 3)) 102)) := by
  obtain ⟨i, hi, hz0, hz1, hz2⟩ := info_parts (P := Try.prog) (e := 102) (z := .agg #[.string ⟨#[]⟩, .string ⟨#[]⟩, .int .u32 0]) (size := 3) (bytes := 40) (by kernel_rfl)
  have h := run_make (P := Try.prog) w 43 102 i _ Try.underlying43 hi hz0 .i64 .i64 n n (by omega) (Int.le_refl _) (by rw [hz2]; omega) (by omega)
  simp only [Int.toNat_natCast, hz1] at h
  exact h

theorem run_make44 (n : Nat) (w : World) (hn : n ≤ 1048576) :
    (Instr.makeSlice 44 (.int .i64 (n : Int)) (.int .i64 (n : Int))).run Try.prog w = .ok (.slice (some ⟨w.heap.size, 0, none⟩) n n) (w.alloc (.cells (madeCells #[.string ⟨#[]⟩, .string ⟨#[]⟩, .int .u32 0, .int .u16 0] (n * 4)) 104)) := by
  obtain ⟨i, hi, hz0, hz1, hz2⟩ := info_parts (P := Try.prog) (e := 104) (z := .agg #[.string ⟨#[]⟩, .string ⟨#[]⟩, .int .u32 0, .int .u16 0]) (size := 4) (bytes := 48) (by kernel_rfl)
  have h := run_make (P := Try.prog) w 44 104 i _ Try.underlying44 hi hz0 .i64 .i64 n n (by omega) (Int.le_refl _) (by rw [hz2]; omega) (by omega)
  simp only [Int.toNat_natCast, hz1] at h
  exact h

theorem run_make45 (n : Nat) (w : World) (hn : n ≤ 1048576) :
    (Instr.makeSlice 45 (.int .i64 (n : Int)) (.int .i64 (n : Int))).run Try.prog w = .ok (.slice (some ⟨w.heap.size, 0, none⟩) n n) (w.alloc (.cells (madeCells #[.string ⟨#[]⟩, .string ⟨#[]⟩, .int .u8 0, .int .u32 0] (n * 4)) 107)) := by
  obtain ⟨i, hi, hz0, hz1, hz2⟩ := info_parts (P := Try.prog) (e := 107) (z := .agg #[.string ⟨#[]⟩, .string ⟨#[]⟩, .int .u8 0, .int .u32 0]) (size := 4) (bytes := 40) (by kernel_rfl)
  have h := run_make (P := Try.prog) w 45 107 i _ Try.underlying45 hi hz0 .i64 .i64 n n (by omega) (Int.le_refl _) (by rw [hz2]; omega) (by omega)
  simp only [Int.toNat_natCast, hz1] at h
  exact h

theorem BSt.rc {w0 wr : World} {cs : Array Value} {p : ZP} {v2 v6 v10 v11 v12 : Value} (h : BSt w0 wr cs p v2 v6 v10 v11 v12) (k : Nat) (hk : k < 14) : (∃ v, wr.cell? ⟨w0.heap.size + 1, k, none⟩ = some v) ∧ wr.frozen? ⟨w0.heap.size + 1, k, none⟩ = false := by
  obtain ⟨r, hr, hs⟩ := h.r
  refine ⟨⟨r[k]'(by omega), ?_⟩, ?_⟩
  · rw [cell_of_row wr _ k _ _ _ hr]; exact Array.getElem?_eq_getElem _
  · unfold World.frozen?; rw [hr]; simp

theorem stored14 {w0 wr : World} {cs : Array Value} {p : ZP} {v2 v6 v10 v11 v12 : Value} (h : BSt w0 wr cs p v2 v6 v10 v11 v12) (vs : List Value) (hv : vs.length = 14) : Below w0.heap.size w0 (wr.setCells (w0.heap.size + 1) 0 vs) ∧ Kept [47] wr (wr.setCells (w0.heap.size + 1) 0 vs) ∧ (wr.setCells (w0.heap.size + 1) 0 vs).heap[w0.heap.size + 1]? = some (.cells vs.toArray 47 (0, 0)) ∧ wr.there (w0.heap.size + 1) 0 14 := by
  obtain ⟨r, hr, hs⟩ := h.r
  refine ⟨h.bel.trans ((setCells_below _ vs 0 wr).mono (by omega)), Kept.setCells hr (by decide) 0 vs, ?_, fun j hj => ?_⟩
  · have := setCells_whole (w0.heap.size + 1) 47 (0, 0) vs [] r.toList wr (by simpa using hr) (by rw [hv]; simpa using hs)
    simpa using this
  · rw [Nat.zero_add]
    obtain ⟨⟨v, e1⟩, e2⟩ := h.rc j hj
    exact ⟨by rw [e1]; rfl, e2⟩

set_option maxHeartbeats 8000000 in
set_option maxRecDepth 100000 in
theorem buildPeer_any (p : ZP) (w : World) (hi : InOK w p) (hs : Small p) : Calls Try.prog 13 #[.agg (zrow p).toArray] w fun e w' => ∃ v2 v6 v10 v11 v12, e = .returned (.agg (prow p v2 v6 v10 v11 v12).toArray) ∧
    (CellsOK w' w.heap.size v2 p.cells ∧ SliceOK w' w.heap.size 100 3 v6 p.tais ∧ SliceOK w' w.heap.size 102 3 v10 p.sched ∧ SliceOK w' w.heap.size 104 4 v11 p.canc ∧ SliceOK w' w.heap.size 107 4 v12 p.enbs) ∧ Below w.heap.size w w' := by
  have q48 := neq48; have q49 := neq49; have q50 := neq50; have q51 := neq51; have q52 := neq52
  have HC : Hid (∀ k v, (zrow p)[k]? = some v → (zrow p).toArray[k]? = some v) := fun k v h => by rw [List.getElem?_toArray]; exact h
  have HN : Hid ((zrow p).toArray.size = 14) := by unfold Hid zrow prow; rfl
  generalize (zrow p).toArray = cs at HC HN
  have c0 := HC.out 0 _ rfl; have c1 := HC.out 1 _ rfl; have c3 := HC.out 3 _ rfl; have c4 := HC.out 4 _ rfl; have c5 := HC.out 5 _ rfl
  have c7 := HC.out 7 _ rfl; have c8 := HC.out 8 _ rfl; have c9 := HC.out 9 _ rfl; have c13 := HC.out 13 _ rfl
  go_enter Try.func13, Try.ntmps13
  go_upto_region 10 with fail
  go_cut [] (fun w' => BSt w w' cs p (.slice none 0 0) (.slice none 0 0) (.slice none 0 0) (.slice none 0 0) (.slice none 0 0))
  case first =>
    go_wp2
    go_meet
    case rel =>
      have h3 := heap3 w
      exact ⟨(((Below.refl _ _).alloc (Nat.le_refl _) _).alloc (by simp) _).alloc (by simp; omega) _, by simp, (h3 _ _ _).1, ⟨_, (h3 _ _ _).2.1, by simp⟩, (h3 _ _ _).2.2⟩
  case rest =>
    clear c0 c1 c3 c4 c5 c7 c8 c9 c13
    have z2 := hcut.zc 2 _ (HC.out 2 _ rfl)
    go_upto_if 42 with fail
    go_cut [] (fun w' => ∃ v2 : Value, BSt w w' cs p v2 (.slice none 0 0) (.slice none 0 0) (.slice none 0 0) (.slice none 0 0) ∧ CellsOK w' (w.heap.size + 3) v2 p.cells)
    case first => as_aux_lemma =>
      cases ha : p.a2 with
      | none =>
        have hb : p.a2.isSome = false := by rw [ha]; rfl
        have HA : Hid (p.a2 = none) := ha
        clear ha
        go_wp2
        go_meet
        case rel => exact ⟨_, hcut, [], .inl ⟨rfl, rfl⟩, by rw [(hi.n2 HA.out).1]; rfl, fun j r c h => by simp at h⟩
      | some x =>
        have hb : p.a2.isSome = true := by rw [ha]; rfl
        rw [ha] at z2
        have HA : Hid (p.a2 = some x) := ha
        clear ha
        have hm := run_make41 p.cells.length wc hs.b2
        obtain ⟨pp, ff⟩ := hcut.pc 2 _ rfl
        have hsz : w.heap.size + 1 + 1 < wc.heap.size := by have := hcut.sz; omega
        go_wp2
        go_loopw [4] (fun i w' => ∃ k : Nat, ∃ crow : List (List Value), k ≤ p.cells.length ∧ i = .int .i64 k ∧ BSt w w' cs p (.slice (some ⟨wc.heap.size, 0, none⟩) p.cells.length p.cells.length) (.slice none 0 0) (.slice none 0 0) (.slice none 0 0) (.slice none 0 0) ∧ wc.grownBy w' (some (w.heap.size + 2)) ∧ Arr w' wc.heap.size 65 7 p.cells.length crow ∧ crow.length = k ∧ ∀ (j : Nat) (r : List Value) (c : ZC), crow[j]? = some r → p.cells[j]? = some c → CellOK w' r c) (fun i _ => p.cells.length - (intOf i).toNat)
        case atStart =>
          obtain ⟨h1, h2⟩ := hcut.step (.cells (madeCells #[.string ⟨#[]⟩, .string ⟨#[]⟩, .int .u16 0, .int .u16 0, .int .i64 0, .string ⟨#[]⟩, .pointer none] (p.cells.length * 7)) 65) 2 (.slice (some ⟨wc.heap.size, 0, none⟩) p.cells.length p.cells.length) rfl
          exact ⟨0, [], Nat.zero_le _, rfl, h1, h2, Arr.made' wc _ _ _ 65 7 p.cells.length, rfl, fun j r c h => by simp at h⟩
        case round =>
          obtain ⟨k, crow, hk, rfl, hbs, hgr, harr, hcl, hck⟩ := hrel
          have HB : Hid (BSt w wr cs p (.slice (some ⟨wc.heap.size, 0, none⟩) p.cells.length p.cells.length) (.slice none 0 0) (.slice none 0 0) (.slice none 0 0) (.slice none 0 0)) := hbs
          have HG : Hid (wc.grownBy wr (some (w.heap.size + 2))) := hgr
          have HR : Hid (Arr wr wc.heap.size 65 7 p.cells.length crow ∧ crow.length = k ∧ ∀ (j : Nat) (r : List Value) (c : ZC), crow[j]? = some r → p.cells[j]? = some c → CellOK wr r c) := ⟨harr, hcl, hck⟩
          have zz := hbs.zc 2 _ (HC.out 2 _ rfl)
          rw [HA.out] at zz
          obtain ⟨p2, f2⟩ := hbs.pc 2 _ rfl
          have hl := hs.b2
          clear hbs hgr harr hcl hck z2 pp ff hm
          by_cases hlt : k < p.cells.length
          · obtain ⟨c, hc⟩ : ∃ c, p.cells[k]? = some c := ⟨_, List.getElem?_eq_getElem hlt⟩
            rcases hi.i2 with h0 | ⟨b, o, hx, hbl, hin⟩
            · have := congrArg List.length h0; simp at this; rw [this] at hlt; simp at hlt
            rw [HA.out] at hx
            obtain rfl := Option.some.inj hx
            have HIN : Hid (∀ j v, c.row[j]? = some v → w.cell? ⟨b, o + k * 9 + j, none⟩ = some v) := fun j v hv => hin k c.row (by simp [hc]) j v hv
            have HI : Hid (p.cells[k]? = some c) := hc
            have HGr : Hid (wc.heap.size < wr.heap.size) := HR.out.1.lt
            obtain ⟨⟨y0, g0⟩, e0⟩ := HR.out.1.there k 0 hlt (by decide)
            obtain ⟨⟨y1, g1⟩, e1⟩ := HR.out.1.there k 1 hlt (by decide)
            obtain ⟨⟨y2, g2⟩, e2⟩ := HR.out.1.there k 2 hlt (by decide)
            obtain ⟨⟨y3, g3⟩, e3⟩ := HR.out.1.there k 3 hlt (by decide)
            obtain ⟨⟨y4, g4⟩, e4⟩ := HR.out.1.there k 4 hlt (by decide)
            obtain ⟨⟨y5, g5⟩, e5⟩ := HR.out.1.there k 5 hlt (by decide)
            obtain ⟨⟨y6, g6⟩, e6⟩ := HR.out.1.there k 6 hlt (by decide)
            clear hc hin hx
            have m1 : w.heap.size + 1 + 1 ≠ wc.heap.size := by omega
            have m2 : wc.heap.size ≠ w.heap.size + 1 + 1 := by omega
            have n3 : wc.heap.size < wr.heap.size := HGr.out
            obtain ⟨mcc, mnc, lac, ci, st, cause, hc, comp, info⟩ := c
            cases hc
            · have HS : Hid (∀ W : World, Below wc.heap.size wr W → W.cell? ⟨w.heap.size + 1 + 1, 2, none⟩ = some (.slice (some ⟨wc.heap.size, 0, none⟩) p.cells.length p.cells.length) ∧ W.cell? ⟨w.heap.size, 2, none⟩ = some (.slice (some ⟨b, o, none⟩) p.cells.length p.c2) ∧ W.cell? ⟨b, o + k * 9, none⟩ = some (.string mcc) ∧ W.cell? ⟨b, o + k * 9 + 1, none⟩ = some (.string mnc) ∧ W.cell? ⟨b, o + k * 9 + 2, none⟩ = some (.int .u16 lac) ∧ W.cell? ⟨b, o + k * 9 + 3, none⟩ = some (.int .u16 ci) ∧ W.cell? ⟨b, o + k * 9 + 4, none⟩ = some (.int .i64 st) ∧ W.cell? ⟨b, o + k * 9 + 5, none⟩ = some (.string cause) ∧ W.cell? ⟨b, o + k * 9 + 6, none⟩ = some (.bool false) ∧ W.cell? ⟨b, o + k * 9 + 7, none⟩ = some (.int .u16 comp) ∧ W.cell? ⟨b, o + k * 9 + 8, none⟩ = some (.int .i64 info)) := fun W hW => ⟨(hW.cell (p := ⟨w.heap.size + 1 + 1, 2, none⟩) (by show w.heap.size + 1 + 1 < wc.heap.size; omega)).trans p2, (hW.cell (p := ⟨w.heap.size, 2, none⟩) (by show w.heap.size < wc.heap.size; omega)).trans zz, (hW.cell (p := ⟨b, o + k * 9, none⟩) (by show b < wc.heap.size; omega)).trans ((HB.out.bel.cell (p := ⟨b, o + k * 9, none⟩) hbl).trans (HIN.out 0 _ rfl)), (hW.cell (p := ⟨b, o + k * 9 + 1, none⟩) (by show b < wc.heap.size; omega)).trans ((HB.out.bel.cell (p := ⟨b, o + k * 9 + 1, none⟩) hbl).trans (HIN.out 1 _ rfl)), (hW.cell (p := ⟨b, o + k * 9 + 2, none⟩) (by show b < wc.heap.size; omega)).trans ((HB.out.bel.cell (p := ⟨b, o + k * 9 + 2, none⟩) hbl).trans (HIN.out 2 _ rfl)), (hW.cell (p := ⟨b, o + k * 9 + 3, none⟩) (by show b < wc.heap.size; omega)).trans ((HB.out.bel.cell (p := ⟨b, o + k * 9 + 3, none⟩) hbl).trans (HIN.out 3 _ rfl)), (hW.cell (p := ⟨b, o + k * 9 + 4, none⟩) (by show b < wc.heap.size; omega)).trans ((HB.out.bel.cell (p := ⟨b, o + k * 9 + 4, none⟩) hbl).trans (HIN.out 4 _ rfl)), (hW.cell (p := ⟨b, o + k * 9 + 5, none⟩) (by show b < wc.heap.size; omega)).trans ((HB.out.bel.cell (p := ⟨b, o + k * 9 + 5, none⟩) hbl).trans (HIN.out 5 _ rfl)), (hW.cell (p := ⟨b, o + k * 9 + 6, none⟩) (by show b < wc.heap.size; omega)).trans ((HB.out.bel.cell (p := ⟨b, o + k * 9 + 6, none⟩) hbl).trans (HIN.out 6 _ rfl)), (hW.cell (p := ⟨b, o + k * 9 + 7, none⟩) (by show b < wc.heap.size; omega)).trans ((HB.out.bel.cell (p := ⟨b, o + k * 9 + 7, none⟩) hbl).trans (HIN.out 7 _ rfl)), (hW.cell (p := ⟨b, o + k * 9 + 8, none⟩) (by show b < wc.heap.size; omega)).trans ((HB.out.bel.cell (p := ⟨b, o + k * 9 + 8, none⟩) hbl).trans (HIN.out 8 _ rfl))⟩
              clear HIN
              obtain ⟨_, _, w0, w1, w2, w3, w4, w5, w6, w7, w8⟩ := HS.out wr (Below.refl _ _)
              go_wp2
              go_region_held3 (fun W => W.cell? ⟨w.heap.size + 1 + 1, 2, none⟩ = some (.slice (some ⟨wc.heap.size, 0, none⟩) p.cells.length p.cells.length) ∧ W.cell? ⟨w.heap.size, 2, none⟩ = some (.slice (some ⟨b, o, none⟩) p.cells.length p.c2) ∧ W.cell? ⟨b, o + k * 9, none⟩ = some (.string mcc) ∧ W.cell? ⟨b, o + k * 9 + 1, none⟩ = some (.string mnc) ∧ W.cell? ⟨b, o + k * 9 + 2, none⟩ = some (.int .u16 lac) ∧ W.cell? ⟨b, o + k * 9 + 3, none⟩ = some (.int .u16 ci) ∧ W.cell? ⟨b, o + k * 9 + 4, none⟩ = some (.int .i64 st) ∧ W.cell? ⟨b, o + k * 9 + 5, none⟩ = some (.string cause) ∧ W.cell? ⟨b, o + k * 9 + 6, none⟩ = some (.bool false) ∧ W.cell? ⟨b, o + k * 9 + 7, none⟩ = some (.int .u16 comp) ∧ W.cell? ⟨b, o + k * 9 + 8, none⟩ = some (.int .i64 info)) ((refine HS.out _ ?_; first | (with_reducible exact (Below.refl _ _).drew) | (with_reducible exact Below.refl _ _) | (with_reducible exact (hbb.mono (Nat.le_of_lt HGr.out))) | (with_reducible exact below7 (hbb.mono (Nat.le_of_lt HGr.out)) _ _ _ _ _ _ _ _ _ _ _ _ _ _) | (with_reducible exact (hbb.mono (Nat.le_of_lt HGr.out)).drew) | (with_reducible exact (below7 (hbb.mono (Nat.le_of_lt HGr.out)) _ _ _ _ _ _ _ _ _ _ _ _ _ _).drew))) ((go_at_call 16; refine (build_none mcc mnc lac ci st cause comp info _).mono ?_; rintro e w' ⟨rfl, hbb⟩; replace hbb : Below wr.heap.size wr w' := ((Below.refl wr.heap.size wr).drew).trans hbb; have x0 := (hbb.cell (p := ⟨wc.heap.size, k * 7, none⟩) n3).trans g0; have q0 := (hbb.frozen (p := ⟨wc.heap.size, k * 7, none⟩) n3).trans e0; have x1 := (hbb.cell (p := ⟨wc.heap.size, k * 7 + 1, none⟩) n3).trans g1; have q1 := (hbb.frozen (p := ⟨wc.heap.size, k * 7 + 1, none⟩) n3).trans e1; have x2 := (hbb.cell (p := ⟨wc.heap.size, k * 7 + 2, none⟩) n3).trans g2; have q2 := (hbb.frozen (p := ⟨wc.heap.size, k * 7 + 2, none⟩) n3).trans e2; have x3 := (hbb.cell (p := ⟨wc.heap.size, k * 7 + 3, none⟩) n3).trans g3; have q3 := (hbb.frozen (p := ⟨wc.heap.size, k * 7 + 3, none⟩) n3).trans e3; have x4 := (hbb.cell (p := ⟨wc.heap.size, k * 7 + 4, none⟩) n3).trans g4; have q4 := (hbb.frozen (p := ⟨wc.heap.size, k * 7 + 4, none⟩) n3).trans e4; have x5 := (hbb.cell (p := ⟨wc.heap.size, k * 7 + 5, none⟩) n3).trans g5; have q5 := (hbb.frozen (p := ⟨wc.heap.size, k * 7 + 5, none⟩) n3).trans e5; have x6 := (hbb.cell (p := ⟨wc.heap.size, k * 7 + 6, none⟩) n3).trans g6; have q6 := (hbb.frozen (p := ⟨wc.heap.size, k * 7 + 6, none⟩) n3).trans e6))
              rename_i hh
              clear hh HS w0 w1 w2 w3 w4 w5 w6 w7 w8 x0 x1 x2 x3 x4 x5 x6 g0 g1 g2 g3 g4 g5 g6 e0 e1 e2 e3 e4 e5 e6 p2 zz f2
              go_wp2
              go_roundw
              case rel =>
                obtain ⟨hr1, hr2, hr3⟩ := HR.out
                obtain ⟨hb5, ha5, kk5, kt⟩ := round_end2 hbb hr1 [.string mcc, .string mnc, .int .u16 lac, .int .u16 ci, .int .i64 st, .string cause, .pointer none] rfl hr2 hlt
                have hcs5 := cells_snoc hr3 kk5 hr2 [.string mcc, .string mnc, .int .u16 lac, .int .u16 ci, .int .i64 st, .string cause, .pointer none] _ HI.out (.inl ⟨rfl, rfl⟩)
                simp only [World.setCells, Nat.add_assoc, Nat.reduceAdd] at hb5 ha5 hcs5
                have hbs5 := HB.out.below hb5 (by omega)
                have hgr5 := grown_below HG.out hb5 (Nat.le_refl _)
                repeat apply Exists.intro
                exact ⟨⟨k + 1, crow ++ [[.string mcc, .string mnc, .int .u16 lac, .int .u16 ci, .int .i64 st, .string cause, .pointer none]], by omega, by go_num, hbs5, hgr5, ha5, by simp [hr2], hcs5⟩, rfl⟩
              case measure => simp [intOf]; omega
            · have HS : Hid (∀ W : World, Below wc.heap.size wr W → W.cell? ⟨w.heap.size + 1 + 1, 2, none⟩ = some (.slice (some ⟨wc.heap.size, 0, none⟩) p.cells.length p.cells.length) ∧ W.cell? ⟨w.heap.size, 2, none⟩ = some (.slice (some ⟨b, o, none⟩) p.cells.length p.c2) ∧ W.cell? ⟨b, o + k * 9, none⟩ = some (.string mcc) ∧ W.cell? ⟨b, o + k * 9 + 1, none⟩ = some (.string mnc) ∧ W.cell? ⟨b, o + k * 9 + 2, none⟩ = some (.int .u16 lac) ∧ W.cell? ⟨b, o + k * 9 + 3, none⟩ = some (.int .u16 ci) ∧ W.cell? ⟨b, o + k * 9 + 4, none⟩ = some (.int .i64 st) ∧ W.cell? ⟨b, o + k * 9 + 5, none⟩ = some (.string cause) ∧ W.cell? ⟨b, o + k * 9 + 6, none⟩ = some (.bool true) ∧ W.cell? ⟨b, o + k * 9 + 7, none⟩ = some (.int .u16 comp) ∧ W.cell? ⟨b, o + k * 9 + 8, none⟩ = some (.int .i64 info)) := fun W hW => ⟨(hW.cell (p := ⟨w.heap.size + 1 + 1, 2, none⟩) (by show w.heap.size + 1 + 1 < wc.heap.size; omega)).trans p2, (hW.cell (p := ⟨w.heap.size, 2, none⟩) (by show w.heap.size < wc.heap.size; omega)).trans zz, (hW.cell (p := ⟨b, o + k * 9, none⟩) (by show b < wc.heap.size; omega)).trans ((HB.out.bel.cell (p := ⟨b, o + k * 9, none⟩) hbl).trans (HIN.out 0 _ rfl)), (hW.cell (p := ⟨b, o + k * 9 + 1, none⟩) (by show b < wc.heap.size; omega)).trans ((HB.out.bel.cell (p := ⟨b, o + k * 9 + 1, none⟩) hbl).trans (HIN.out 1 _ rfl)), (hW.cell (p := ⟨b, o + k * 9 + 2, none⟩) (by show b < wc.heap.size; omega)).trans ((HB.out.bel.cell (p := ⟨b, o + k * 9 + 2, none⟩) hbl).trans (HIN.out 2 _ rfl)), (hW.cell (p := ⟨b, o + k * 9 + 3, none⟩) (by show b < wc.heap.size; omega)).trans ((HB.out.bel.cell (p := ⟨b, o + k * 9 + 3, none⟩) hbl).trans (HIN.out 3 _ rfl)), (hW.cell (p := ⟨b, o + k * 9 + 4, none⟩) (by show b < wc.heap.size; omega)).trans ((HB.out.bel.cell (p := ⟨b, o + k * 9 + 4, none⟩) hbl).trans (HIN.out 4 _ rfl)), (hW.cell (p := ⟨b, o + k * 9 + 5, none⟩) (by show b < wc.heap.size; omega)).trans ((HB.out.bel.cell (p := ⟨b, o + k * 9 + 5, none⟩) hbl).trans (HIN.out 5 _ rfl)), (hW.cell (p := ⟨b, o + k * 9 + 6, none⟩) (by show b < wc.heap.size; omega)).trans ((HB.out.bel.cell (p := ⟨b, o + k * 9 + 6, none⟩) hbl).trans (HIN.out 6 _ rfl)), (hW.cell (p := ⟨b, o + k * 9 + 7, none⟩) (by show b < wc.heap.size; omega)).trans ((HB.out.bel.cell (p := ⟨b, o + k * 9 + 7, none⟩) hbl).trans (HIN.out 7 _ rfl)), (hW.cell (p := ⟨b, o + k * 9 + 8, none⟩) (by show b < wc.heap.size; omega)).trans ((HB.out.bel.cell (p := ⟨b, o + k * 9 + 8, none⟩) hbl).trans (HIN.out 8 _ rfl))⟩
              clear HIN
              obtain ⟨_, _, w0, w1, w2, w3, w4, w5, w6, w7, w8⟩ := HS.out wr (Below.refl _ _)
              go_wp2
              go_region_held3 (fun W => W.cell? ⟨w.heap.size + 1 + 1, 2, none⟩ = some (.slice (some ⟨wc.heap.size, 0, none⟩) p.cells.length p.cells.length) ∧ W.cell? ⟨w.heap.size, 2, none⟩ = some (.slice (some ⟨b, o, none⟩) p.cells.length p.c2) ∧ W.cell? ⟨b, o + k * 9, none⟩ = some (.string mcc) ∧ W.cell? ⟨b, o + k * 9 + 1, none⟩ = some (.string mnc) ∧ W.cell? ⟨b, o + k * 9 + 2, none⟩ = some (.int .u16 lac) ∧ W.cell? ⟨b, o + k * 9 + 3, none⟩ = some (.int .u16 ci) ∧ W.cell? ⟨b, o + k * 9 + 4, none⟩ = some (.int .i64 st) ∧ W.cell? ⟨b, o + k * 9 + 5, none⟩ = some (.string cause) ∧ W.cell? ⟨b, o + k * 9 + 6, none⟩ = some (.bool true) ∧ W.cell? ⟨b, o + k * 9 + 7, none⟩ = some (.int .u16 comp) ∧ W.cell? ⟨b, o + k * 9 + 8, none⟩ = some (.int .i64 info)) ((refine HS.out _ ?_; first | (with_reducible exact (Below.refl _ _).drew) | (with_reducible exact Below.refl _ _) | (with_reducible exact (hbb.mono (Nat.le_of_lt HGr.out))) | (with_reducible exact below7 (hbb.mono (Nat.le_of_lt HGr.out)) _ _ _ _ _ _ _ _ _ _ _ _ _ _) | (with_reducible exact (hbb.mono (Nat.le_of_lt HGr.out)).drew) | (with_reducible exact (below7 (hbb.mono (Nat.le_of_lt HGr.out)) _ _ _ _ _ _ _ _ _ _ _ _ _ _).drew))) ((go_at_call 16; refine (build_some mcc mnc lac ci st cause comp info _).mono ?_; rintro e w' ⟨kb, rfl, hkb, hbb⟩; replace hbb : Below wr.heap.size wr w' := ((Below.refl wr.heap.size wr).drew).trans hbb; have x0 := (hbb.cell (p := ⟨wc.heap.size, k * 7, none⟩) n3).trans g0; have q0 := (hbb.frozen (p := ⟨wc.heap.size, k * 7, none⟩) n3).trans e0; have x1 := (hbb.cell (p := ⟨wc.heap.size, k * 7 + 1, none⟩) n3).trans g1; have q1 := (hbb.frozen (p := ⟨wc.heap.size, k * 7 + 1, none⟩) n3).trans e1; have x2 := (hbb.cell (p := ⟨wc.heap.size, k * 7 + 2, none⟩) n3).trans g2; have q2 := (hbb.frozen (p := ⟨wc.heap.size, k * 7 + 2, none⟩) n3).trans e2; have x3 := (hbb.cell (p := ⟨wc.heap.size, k * 7 + 3, none⟩) n3).trans g3; have q3 := (hbb.frozen (p := ⟨wc.heap.size, k * 7 + 3, none⟩) n3).trans e3; have x4 := (hbb.cell (p := ⟨wc.heap.size, k * 7 + 4, none⟩) n3).trans g4; have q4 := (hbb.frozen (p := ⟨wc.heap.size, k * 7 + 4, none⟩) n3).trans e4; have x5 := (hbb.cell (p := ⟨wc.heap.size, k * 7 + 5, none⟩) n3).trans g5; have q5 := (hbb.frozen (p := ⟨wc.heap.size, k * 7 + 5, none⟩) n3).trans e5; have x6 := (hbb.cell (p := ⟨wc.heap.size, k * 7 + 6, none⟩) n3).trans g6; have q6 := (hbb.frozen (p := ⟨wc.heap.size, k * 7 + 6, none⟩) n3).trans e6))
              rename_i hh
              clear hh HS w0 w1 w2 w3 w4 w5 w6 w7 w8 x0 x1 x2 x3 x4 x5 x6 g0 g1 g2 g3 g4 g5 g6 e0 e1 e2 e3 e4 e5 e6 p2 zz f2
              go_wp2
              go_roundw
              case rel =>
                obtain ⟨hr1, hr2, hr3⟩ := HR.out
                obtain ⟨hb5, ha5, kk5, kt⟩ := round_end2 hbb hr1 [.string mcc, .string mnc, .int .u16 lac, .int .u16 ci, .int .i64 st, .string cause, .pointer (some ⟨kb, 0, none⟩)] rfl hr2 hlt
                have hcs5 := cells_snoc hr3 kk5 hr2 [.string mcc, .string mnc, .int .u16 lac, .int .u16 ci, .int .i64 st, .string cause, .pointer (some ⟨kb, 0, none⟩)] _ HI.out (.inr ⟨rfl, kb, rfl, kt kb _ _ _ hkb (by decide)⟩)
                simp only [World.setCells, Nat.add_assoc, Nat.reduceAdd] at hb5 ha5 hcs5
                have hbs5 := HB.out.below hb5 (by omega)
                have hgr5 := grown_below HG.out hb5 (Nat.le_refl _)
                repeat apply Exists.intro
                exact ⟨⟨k + 1, crow ++ [[.string mcc, .string mnc, .int .u16 lac, .int .u16 ci, .int .i64 st, .string cause, .pointer (some ⟨kb, 0, none⟩)]], by omega, by go_num, hbs5, hgr5, ha5, by simp [hr2], hcs5⟩, rfl⟩
              case measure => simp [intOf]; omega
          · go_wp2
            go_meet
            case rel =>
              obtain ⟨h1, h2, h3⟩ := HR.out
              have hkn : crow.length = p.cells.length := by omega
              refine ⟨_, HB.out, crow, .inr ⟨wc.heap.size, p.cells.length, by rw [hkn], by omega, by omega, by have := hs.b2; unfold maxLen; omega, h1⟩, hkn, h3⟩
    case rest =>
      obtain ⟨v2, hcut, hok2⟩ := hcut
      clear z2
      have z6 := hcut.zc 6 _ (HC.out 6 _ rfl)
      go_upto_if 67 with fail
      go_cut [] (fun w' => ∃ v2 v6 : Value, BSt w w' cs p v2 v6 (.slice none 0 0) (.slice none 0 0) (.slice none 0 0) ∧ CellsOK w' (w.heap.size + 3) v2 p.cells ∧ SliceOK w' (w.heap.size + 3) 100 3 v6 p.tais)
      case first => as_aux_lemma =>
        cases ha : p.a6 with
        | none =>
          have hb : p.a6.isSome = false := by rw [ha]; rfl
          have HA : Hid (p.a6 = none) := ha
          clear ha
          go_wp2
          go_meet
          case rel => exact ⟨_, _, hcut, hok2, .inl ⟨rfl, (hi.n6 HA.out).1⟩⟩
        | some x =>
          have hb : p.a6.isSome = true := by rw [ha]; rfl
          rw [ha] at z6
          have HA : Hid (p.a6 = some x) := ha
          clear ha
          have hm := run_make42 p.tais.length wc hs.b6
          obtain ⟨pp, ff⟩ := hcut.pc 6 _ rfl
          have hsz : w.heap.size + 1 + 1 < wc.heap.size := by have := hcut.sz; omega
          go_wp2
          go_loopw [5] (fun i w' => ∃ k : Nat, k ≤ p.tais.length ∧ i = .int .i64 k ∧ BSt w w' cs p v2 (.slice (some ⟨wc.heap.size, 0, none⟩) p.tais.length p.tais.length) (.slice none 0 0) (.slice none 0 0) (.slice none 0 0) ∧ wc.grownBy w' (some (w.heap.size + 2)) ∧ Arr w' wc.heap.size 100 3 p.tais.length (p.tais.take k)) (fun i _ => p.tais.length - (intOf i).toNat)
          case atStart =>
            obtain ⟨h1, h2⟩ := hcut.step (.cells (madeCells #[.string ⟨#[]⟩, .string ⟨#[]⟩, .int .u16 0] (p.tais.length * 3)) 100) 6 (.slice (some ⟨wc.heap.size, 0, none⟩) p.tais.length p.tais.length) rfl
            exact ⟨0, Nat.zero_le _, rfl, h1, h2, Arr.made' wc _ _ _ 100 3 p.tais.length⟩
          case round =>
            obtain ⟨k, hk, rfl, hbs, hgr, harr⟩ := hrel
            have HB : Hid (BSt w wr cs p v2 (.slice (some ⟨wc.heap.size, 0, none⟩) p.tais.length p.tais.length) (.slice none 0 0) (.slice none 0 0) (.slice none 0 0)) := hbs
            have HG : Hid (wc.grownBy wr (some (w.heap.size + 2))) := hgr
            have HR : Hid (Arr wr wc.heap.size 100 3 p.tais.length (p.tais.take k)) := harr
            have zz := hbs.zc 6 _ (HC.out 6 _ rfl)
            rw [HA.out] at zz
            obtain ⟨p6, f6⟩ := hbs.pc 6 _ rfl
            have hl := hs.b6
            clear hbs hgr harr z6 pp ff hm
            by_cases hlt : k < p.tais.length
            · obtain ⟨r, hr⟩ : ∃ r, p.tais[k]? = some r := ⟨_, List.getElem?_eq_getElem hlt⟩
              obtain ⟨ma, mb, mx, rfl⟩ := hi.k6 r (List.mem_of_getElem? hr)
              rcases hi.i6 with h0 | ⟨b, o, hx, hbl, hin⟩
              · rw [h0] at hlt; simp at hlt
              rw [HA.out] at hx
              obtain rfl := Option.some.inj hx
              have i0 := (HB.out.bel.cell (p := ⟨b, o + k * 3, none⟩) hbl).trans (hin k _ hr 0 _ rfl)
              obtain ⟨⟨y0, g0⟩, e0⟩ := HR.out.there k 0 hlt (by decide)
              have i1 := (HB.out.bel.cell (p := ⟨b, o + k * 3 + 1, none⟩) hbl).trans (hin k _ hr 1 _ rfl)
              obtain ⟨⟨y1, g1⟩, e1⟩ := HR.out.there k 1 hlt (by decide)
              have i2 := (HB.out.bel.cell (p := ⟨b, o + k * 3 + 2, none⟩) hbl).trans (hin k _ hr 2 _ rfl)
              obtain ⟨⟨y2, g2⟩, e2⟩ := HR.out.there k 2 hlt (by decide)
              have HI : Hid (p.tais[k]? = some [.string ma, .string mb, .int .u16 mx]) := hr
              clear hr hin hx
              go_wp2
              have t0 : (wr.alloc (.cells #[.string ma, .string mb, .int .u16 mx] 70)).cell? ⟨wr.heap.size, 0, none⟩ = some (.string ma) := cell_of_row _ _ 0 _ _ _ (heap_alloc_last wr _)
              have t1 : (wr.alloc (.cells #[.string ma, .string mb, .int .u16 mx] 70)).cell? ⟨wr.heap.size, 1, none⟩ = some (.string mb) := cell_of_row _ _ 1 _ _ _ (heap_alloc_last wr _)
              have t2 : (wr.alloc (.cells #[.string ma, .string mb, .int .u16 mx] 70)).cell? ⟨wr.heap.size, 2, none⟩ = some (.int .u16 mx) := cell_of_row _ _ 2 _ _ _ (heap_alloc_last wr _)
              have bt : Below wr.heap.size wr (wr.alloc (.cells #[.string ma, .string mb, .int .u16 mx] 70)) := (Below.refl _ _).alloc (Nat.le_refl _) _
              have s6 := (bt.cell (p := ⟨w.heap.size + 1 + 1, 6, none⟩) (cell_lt p6)).trans p6
              have sx0 := (bt.cell (p := ⟨wc.heap.size, k * 3, none⟩) (cell_lt g0)).trans g0
              have r0 := (bt.frozen (p := ⟨wc.heap.size, k * 3, none⟩) (cell_lt g0)).trans e0
              have sx1 := (bt.cell (p := ⟨wc.heap.size, k * 3 + 1, none⟩) (cell_lt g1)).trans g1
              have r1 := (bt.frozen (p := ⟨wc.heap.size, k * 3 + 1, none⟩) (cell_lt g1)).trans e1
              have sx2 := (bt.cell (p := ⟨wc.heap.size, k * 3 + 2, none⟩) (cell_lt g2)).trans g2
              have r2 := (bt.frozen (p := ⟨wc.heap.size, k * 3 + 2, none⟩) (cell_lt g2)).trans e2
              have HT : Hid (Below wr.heap.size wr (wr.alloc (.cells #[.string ma, .string mb, .int .u16 mx] 70))) := bt
              have HGr : Hid (wc.heap.size < wr.heap.size) := cell_lt g0
              clear bt g0 g1 g2 e0 e1 e2 p6 zz i0 i1 i2 f6
              generalize wr.alloc (.cells #[.string ma, .string mb, .int .u16 mx] 70) = wt at t0 t1 t2 s6 sx0 sx1 sx2 r0 r1 r2 HT ⊢
              have n1 := World.new_ne wt _ t0
              have n2 := World.new_ne wt _ s6
              have n3 : wc.heap.size < wt.heap.size := cell_lt sx0
              have m1 : w.heap.size + 1 + 1 ≠ wc.heap.size := by omega
              have m2 : wc.heap.size ≠ w.heap.size + 1 + 1 := by omega
              have m3 : wr.heap.size ≠ wc.heap.size := by have := HGr.out; omega
              have m4 : wc.heap.size ≠ wr.heap.size := by have := HGr.out; omega
              go_region_held3 (fun W => W.cell? ⟨w.heap.size + 1 + 1, 6, none⟩ = some (.slice (some ⟨wc.heap.size, 0, none⟩) p.tais.length p.tais.length) ∧ W.cell? ⟨wr.heap.size, 0, none⟩ = some (.string ma) ∧ W.cell? ⟨wr.heap.size, 1, none⟩ = some (.string mb) ∧ W.cell? ⟨wr.heap.size, 2, none⟩ = some (.int .u16 mx)) (go_keep) ((go_at_call 17; refine (plmn_any _ _ _).mono ?_; rintro e w' ⟨rfl, c57, rfl⟩))
              rename_i hh
              clear hh
              go_wp2
              go_roundw
              case rel =>
                obtain ⟨hb5, ha5⟩ := round_end HT.out HR.out [.string ma, .string mb, .int .u16 mx] rfl (take_len _ k hk) hlt (.cells c57 57)
                rw [← take_snoc _ _ _ HI.out] at ha5
                repeat apply Exists.intro
                exact ⟨⟨k + 1, by omega, by go_num, HB.out.below hb5 (by omega), grown_below HG.out hb5 (Nat.le_refl _), ha5⟩, rfl⟩
              case measure => simp [intOf]; omega
            · go_wp2
              go_meet
              case rel =>
                have hkn : k = p.tais.length := by omega
                have hR := HR.out
                rw [hkn, List.take_length] at hR
                have KP : Kept [47] wc wr := Kept.grown HG.out hcut.pr (by decide)
                exact ⟨_, _, HB.out, hok2.kept KP (by decide) (by decide), .inr ⟨wc.heap.size, p.tais.length, rfl, by omega, Nat.le_refl _, by have := hs.b6; unfold maxLen; omega, hR⟩⟩
      case rest =>
        obtain ⟨v2, v6, hcut, hok2, hok6⟩ := hcut
        clear z6
        have z10 := hcut.zc 10 _ (HC.out 10 _ rfl)
        go_upto_if 99 with fail
        go_cut [] (fun w' => ∃ v2 v6 v10 : Value, BSt w w' cs p v2 v6 v10 (.slice none 0 0) (.slice none 0 0) ∧ CellsOK w' (w.heap.size + 3) v2 p.cells ∧ SliceOK w' (w.heap.size + 3) 100 3 v6 p.tais ∧ SliceOK w' (w.heap.size + 3) 102 3 v10 p.sched)
        case first => as_aux_lemma =>
          cases ha : p.a10 with
          | none =>
            have hb : p.a10.isSome = false := by rw [ha]; rfl
            have HA : Hid (p.a10 = none) := ha
            clear ha
            go_wp2
            go_meet
            case rel => exact ⟨_, _, _, hcut, hok2, hok6, .inl ⟨rfl, (hi.n10 HA.out).1⟩⟩
          | some x =>
            have hb : p.a10.isSome = true := by rw [ha]; rfl
            rw [ha] at z10
            have HA : Hid (p.a10 = some x) := ha
            clear ha
            have hm := run_make43 p.sched.length wc hs.b10
            obtain ⟨pp, ff⟩ := hcut.pc 10 _ rfl
            have hsz : w.heap.size + 1 + 1 < wc.heap.size := by have := hcut.sz; omega
            go_wp2
            go_loopw [7] (fun i w' => ∃ k : Nat, k ≤ p.sched.length ∧ i = .int .i64 k ∧ BSt w w' cs p v2 v6 (.slice (some ⟨wc.heap.size, 0, none⟩) p.sched.length p.sched.length) (.slice none 0 0) (.slice none 0 0) ∧ wc.grownBy w' (some (w.heap.size + 2)) ∧ Arr w' wc.heap.size 102 3 p.sched.length (p.sched.take k)) (fun i _ => p.sched.length - (intOf i).toNat)
            case atStart =>
              obtain ⟨h1, h2⟩ := hcut.step (.cells (madeCells #[.string ⟨#[]⟩, .string ⟨#[]⟩, .int .u32 0] (p.sched.length * 3)) 102) 10 (.slice (some ⟨wc.heap.size, 0, none⟩) p.sched.length p.sched.length) rfl
              exact ⟨0, Nat.zero_le _, rfl, h1, h2, Arr.made' wc _ _ _ 102 3 p.sched.length⟩
            case round =>
              obtain ⟨k, hk, rfl, hbs, hgr, harr⟩ := hrel
              have HB : Hid (BSt w wr cs p v2 v6 (.slice (some ⟨wc.heap.size, 0, none⟩) p.sched.length p.sched.length) (.slice none 0 0) (.slice none 0 0)) := hbs
              have HG : Hid (wc.grownBy wr (some (w.heap.size + 2))) := hgr
              have HR : Hid (Arr wr wc.heap.size 102 3 p.sched.length (p.sched.take k)) := harr
              have zz := hbs.zc 10 _ (HC.out 10 _ rfl)
              rw [HA.out] at zz
              obtain ⟨p6, f6⟩ := hbs.pc 10 _ rfl
              have hl := hs.b10
              clear hbs hgr harr z10 pp ff hm
              by_cases hlt : k < p.sched.length
              · obtain ⟨r, hr⟩ : ∃ r, p.sched[k]? = some r := ⟨_, List.getElem?_eq_getElem hlt⟩
                obtain ⟨ma, mb, mx, rfl⟩ := hi.k10 r (List.mem_of_getElem? hr)
                rcases hi.i10 with h0 | ⟨b, o, hx, hbl, hin⟩
                · rw [h0] at hlt; simp at hlt
                rw [HA.out] at hx
                obtain rfl := Option.some.inj hx
                have i0 := (HB.out.bel.cell (p := ⟨b, o + k * 3, none⟩) hbl).trans (hin k _ hr 0 _ rfl)
                obtain ⟨⟨y0, g0⟩, e0⟩ := HR.out.there k 0 hlt (by decide)
                have i1 := (HB.out.bel.cell (p := ⟨b, o + k * 3 + 1, none⟩) hbl).trans (hin k _ hr 1 _ rfl)
                obtain ⟨⟨y1, g1⟩, e1⟩ := HR.out.there k 1 hlt (by decide)
                have i2 := (HB.out.bel.cell (p := ⟨b, o + k * 3 + 2, none⟩) hbl).trans (hin k _ hr 2 _ rfl)
                obtain ⟨⟨y2, g2⟩, e2⟩ := HR.out.there k 2 hlt (by decide)
                have HI : Hid (p.sched[k]? = some [.string ma, .string mb, .int .u32 mx]) := hr
                clear hr hin hx
                go_wp2
                have t0 : (wr.alloc (.cells #[.string ma, .string mb, .int .u32 mx] 73)).cell? ⟨wr.heap.size, 0, none⟩ = some (.string ma) := cell_of_row _ _ 0 _ _ _ (heap_alloc_last wr _)
                have t1 : (wr.alloc (.cells #[.string ma, .string mb, .int .u32 mx] 73)).cell? ⟨wr.heap.size, 1, none⟩ = some (.string mb) := cell_of_row _ _ 1 _ _ _ (heap_alloc_last wr _)
                have t2 : (wr.alloc (.cells #[.string ma, .string mb, .int .u32 mx] 73)).cell? ⟨wr.heap.size, 2, none⟩ = some (.int .u32 mx) := cell_of_row _ _ 2 _ _ _ (heap_alloc_last wr _)
                have bt : Below wr.heap.size wr (wr.alloc (.cells #[.string ma, .string mb, .int .u32 mx] 73)) := (Below.refl _ _).alloc (Nat.le_refl _) _
                have s6 := (bt.cell (p := ⟨w.heap.size + 1 + 1, 10, none⟩) (cell_lt p6)).trans p6
                have sx0 := (bt.cell (p := ⟨wc.heap.size, k * 3, none⟩) (cell_lt g0)).trans g0
                have r0 := (bt.frozen (p := ⟨wc.heap.size, k * 3, none⟩) (cell_lt g0)).trans e0
                have sx1 := (bt.cell (p := ⟨wc.heap.size, k * 3 + 1, none⟩) (cell_lt g1)).trans g1
                have r1 := (bt.frozen (p := ⟨wc.heap.size, k * 3 + 1, none⟩) (cell_lt g1)).trans e1
                have sx2 := (bt.cell (p := ⟨wc.heap.size, k * 3 + 2, none⟩) (cell_lt g2)).trans g2
                have r2 := (bt.frozen (p := ⟨wc.heap.size, k * 3 + 2, none⟩) (cell_lt g2)).trans e2
                have HT : Hid (Below wr.heap.size wr (wr.alloc (.cells #[.string ma, .string mb, .int .u32 mx] 73))) := bt
                have HGr : Hid (wc.heap.size < wr.heap.size) := cell_lt g0
                clear bt g0 g1 g2 e0 e1 e2 p6 zz i0 i1 i2 f6
                generalize wr.alloc (.cells #[.string ma, .string mb, .int .u32 mx] 73) = wt at t0 t1 t2 s6 sx0 sx1 sx2 r0 r1 r2 HT ⊢
                have n1 := World.new_ne wt _ t0
                have n2 := World.new_ne wt _ s6
                have n3 : wc.heap.size < wt.heap.size := cell_lt sx0
                have m1 : w.heap.size + 1 + 1 ≠ wc.heap.size := by omega
                have m2 : wc.heap.size ≠ w.heap.size + 1 + 1 := by omega
                have m3 : wr.heap.size ≠ wc.heap.size := by have := HGr.out; omega
                have m4 : wc.heap.size ≠ wr.heap.size := by have := HGr.out; omega
                go_region_held3 (fun W => W.cell? ⟨w.heap.size + 1 + 1, 10, none⟩ = some (.slice (some ⟨wc.heap.size, 0, none⟩) p.sched.length p.sched.length) ∧ W.cell? ⟨wr.heap.size, 0, none⟩ = some (.string ma) ∧ W.cell? ⟨wr.heap.size, 1, none⟩ = some (.string mb) ∧ W.cell? ⟨wr.heap.size, 2, none⟩ = some (.int .u32 mx)) (go_keep) ((go_at_call 17; refine (plmn_any _ _ _).mono ?_; rintro e w' ⟨rfl, c57, rfl⟩))
                rename_i hh
                clear hh
                go_wp2
                go_roundw
                case rel =>
                  obtain ⟨hb5, ha5⟩ := round_end HT.out HR.out [.string ma, .string mb, .int .u32 mx] rfl (take_len _ k hk) hlt (.cells c57 57)
                  rw [← take_snoc _ _ _ HI.out] at ha5
                  repeat apply Exists.intro
                  exact ⟨⟨k + 1, by omega, by go_num, HB.out.below hb5 (by omega), grown_below HG.out hb5 (Nat.le_refl _), ha5⟩, rfl⟩
                case measure => simp [intOf]; omega
              · go_wp2
                go_meet
                case rel =>
                  have hkn : k = p.sched.length := by omega
                  have hR := HR.out
                  rw [hkn, List.take_length] at hR
                  have KP : Kept [47] wc wr := Kept.grown HG.out hcut.pr (by decide)
                  exact ⟨_, _, _, HB.out, hok2.kept KP (by decide) (by decide), hok6.kept KP (by decide), .inr ⟨wc.heap.size, p.sched.length, rfl, by omega, Nat.le_refl _, by have := hs.b10; unfold maxLen; omega, hR⟩⟩
        case rest =>
          obtain ⟨v2, v6, v10, hcut, hok2, hok6, hok10⟩ := hcut
          clear z10
          have z11 := hcut.zc 11 _ (HC.out 11 _ rfl)
          go_upto_if 131 with fail
          go_cut [] (fun w' => ∃ v2 v6 v10 v11 : Value, BSt w w' cs p v2 v6 v10 v11 (.slice none 0 0) ∧ CellsOK w' (w.heap.size + 3) v2 p.cells ∧ SliceOK w' (w.heap.size + 3) 100 3 v6 p.tais ∧ SliceOK w' (w.heap.size + 3) 102 3 v10 p.sched ∧ SliceOK w' (w.heap.size + 3) 104 4 v11 p.canc)
          case first => as_aux_lemma =>
            cases ha : p.a11 with
            | none =>
              have hb : p.a11.isSome = false := by rw [ha]; rfl
              have HA : Hid (p.a11 = none) := ha
              clear ha
              go_wp2
              go_meet
              case rel => exact ⟨_, _, _, _, hcut, hok2, hok6, hok10, .inl ⟨rfl, (hi.n11 HA.out).1⟩⟩
            | some x =>
              have hb : p.a11.isSome = true := by rw [ha]; rfl
              rw [ha] at z11
              have HA : Hid (p.a11 = some x) := ha
              clear ha
              have hm := run_make44 p.canc.length wc hs.b11
              obtain ⟨pp, ff⟩ := hcut.pc 11 _ rfl
              have hsz : w.heap.size + 1 + 1 < wc.heap.size := by have := hcut.sz; omega
              go_wp2
              go_loopw [9] (fun i w' => ∃ k : Nat, k ≤ p.canc.length ∧ i = .int .i64 k ∧ BSt w w' cs p v2 v6 v10 (.slice (some ⟨wc.heap.size, 0, none⟩) p.canc.length p.canc.length) (.slice none 0 0) ∧ wc.grownBy w' (some (w.heap.size + 2)) ∧ Arr w' wc.heap.size 104 4 p.canc.length (p.canc.take k)) (fun i _ => p.canc.length - (intOf i).toNat)
              case atStart =>
                obtain ⟨h1, h2⟩ := hcut.step (.cells (madeCells #[.string ⟨#[]⟩, .string ⟨#[]⟩, .int .u32 0, .int .u16 0] (p.canc.length * 4)) 104) 11 (.slice (some ⟨wc.heap.size, 0, none⟩) p.canc.length p.canc.length) rfl
                exact ⟨0, Nat.zero_le _, rfl, h1, h2, Arr.made' wc _ _ _ 104 4 p.canc.length⟩
              case round =>
                obtain ⟨k, hk, rfl, hbs, hgr, harr⟩ := hrel
                have HB : Hid (BSt w wr cs p v2 v6 v10 (.slice (some ⟨wc.heap.size, 0, none⟩) p.canc.length p.canc.length) (.slice none 0 0)) := hbs
                have HG : Hid (wc.grownBy wr (some (w.heap.size + 2))) := hgr
                have HR : Hid (Arr wr wc.heap.size 104 4 p.canc.length (p.canc.take k)) := harr
                have zz := hbs.zc 11 _ (HC.out 11 _ rfl)
                rw [HA.out] at zz
                obtain ⟨p6, f6⟩ := hbs.pc 11 _ rfl
                have hl := hs.b11
                clear hbs hgr harr z11 pp ff hm
                by_cases hlt : k < p.canc.length
                · obtain ⟨r, hr⟩ : ∃ r, p.canc[k]? = some r := ⟨_, List.getElem?_eq_getElem hlt⟩
                  obtain ⟨ma, mb, mx, my, rfl⟩ := hi.k11 r (List.mem_of_getElem? hr)
                  rcases hi.i11 with h0 | ⟨b, o, hx, hbl, hin⟩
                  · rw [h0] at hlt; simp at hlt
                  rw [HA.out] at hx
                  obtain rfl := Option.some.inj hx
                  have i0 := (HB.out.bel.cell (p := ⟨b, o + k * 4, none⟩) hbl).trans (hin k _ hr 0 _ rfl)
                  obtain ⟨⟨y0, g0⟩, e0⟩ := HR.out.there k 0 hlt (by decide)
                  have i1 := (HB.out.bel.cell (p := ⟨b, o + k * 4 + 1, none⟩) hbl).trans (hin k _ hr 1 _ rfl)
                  obtain ⟨⟨y1, g1⟩, e1⟩ := HR.out.there k 1 hlt (by decide)
                  have i2 := (HB.out.bel.cell (p := ⟨b, o + k * 4 + 2, none⟩) hbl).trans (hin k _ hr 2 _ rfl)
                  obtain ⟨⟨y2, g2⟩, e2⟩ := HR.out.there k 2 hlt (by decide)
                  have i3 := (HB.out.bel.cell (p := ⟨b, o + k * 4 + 3, none⟩) hbl).trans (hin k _ hr 3 _ rfl)
                  obtain ⟨⟨y3, g3⟩, e3⟩ := HR.out.there k 3 hlt (by decide)
                  have HI : Hid (p.canc[k]? = some [.string ma, .string mb, .int .u32 mx, .int .u16 my]) := hr
                  clear hr hin hx
                  go_wp2
                  have t0 : (wr.alloc (.cells #[.string ma, .string mb, .int .u32 mx, .int .u16 my] 75)).cell? ⟨wr.heap.size, 0, none⟩ = some (.string ma) := cell_of_row _ _ 0 _ _ _ (heap_alloc_last wr _)
                  have t1 : (wr.alloc (.cells #[.string ma, .string mb, .int .u32 mx, .int .u16 my] 75)).cell? ⟨wr.heap.size, 1, none⟩ = some (.string mb) := cell_of_row _ _ 1 _ _ _ (heap_alloc_last wr _)
                  have t2 : (wr.alloc (.cells #[.string ma, .string mb, .int .u32 mx, .int .u16 my] 75)).cell? ⟨wr.heap.size, 2, none⟩ = some (.int .u32 mx) := cell_of_row _ _ 2 _ _ _ (heap_alloc_last wr _)
                  have t3 : (wr.alloc (.cells #[.string ma, .string mb, .int .u32 mx, .int .u16 my] 75)).cell? ⟨wr.heap.size, 3, none⟩ = some (.int .u16 my) := cell_of_row _ _ 3 _ _ _ (heap_alloc_last wr _)
                  have bt : Below wr.heap.size wr (wr.alloc (.cells #[.string ma, .string mb, .int .u32 mx, .int .u16 my] 75)) := (Below.refl _ _).alloc (Nat.le_refl _) _
                  have s6 := (bt.cell (p := ⟨w.heap.size + 1 + 1, 11, none⟩) (cell_lt p6)).trans p6
                  have sx0 := (bt.cell (p := ⟨wc.heap.size, k * 4, none⟩) (cell_lt g0)).trans g0
                  have r0 := (bt.frozen (p := ⟨wc.heap.size, k * 4, none⟩) (cell_lt g0)).trans e0
                  have sx1 := (bt.cell (p := ⟨wc.heap.size, k * 4 + 1, none⟩) (cell_lt g1)).trans g1
                  have r1 := (bt.frozen (p := ⟨wc.heap.size, k * 4 + 1, none⟩) (cell_lt g1)).trans e1
                  have sx2 := (bt.cell (p := ⟨wc.heap.size, k * 4 + 2, none⟩) (cell_lt g2)).trans g2
                  have r2 := (bt.frozen (p := ⟨wc.heap.size, k * 4 + 2, none⟩) (cell_lt g2)).trans e2
                  have sx3 := (bt.cell (p := ⟨wc.heap.size, k * 4 + 3, none⟩) (cell_lt g3)).trans g3
                  have r3 := (bt.frozen (p := ⟨wc.heap.size, k * 4 + 3, none⟩) (cell_lt g3)).trans e3
                  have HT : Hid (Below wr.heap.size wr (wr.alloc (.cells #[.string ma, .string mb, .int .u32 mx, .int .u16 my] 75))) := bt
                  have HGr : Hid (wc.heap.size < wr.heap.size) := cell_lt g0
                  clear bt g0 g1 g2 g3 e0 e1 e2 e3 p6 zz i0 i1 i2 i3 f6
                  generalize wr.alloc (.cells #[.string ma, .string mb, .int .u32 mx, .int .u16 my] 75) = wt at t0 t1 t2 t3 s6 sx0 sx1 sx2 sx3 r0 r1 r2 r3 HT ⊢
                  have n1 := World.new_ne wt _ t0
                  have n2 := World.new_ne wt _ s6
                  have n3 : wc.heap.size < wt.heap.size := cell_lt sx0
                  have m1 : w.heap.size + 1 + 1 ≠ wc.heap.size := by omega
                  have m2 : wc.heap.size ≠ w.heap.size + 1 + 1 := by omega
                  have m3 : wr.heap.size ≠ wc.heap.size := by have := HGr.out; omega
                  have m4 : wc.heap.size ≠ wr.heap.size := by have := HGr.out; omega
                  go_region_held3 (fun W => W.cell? ⟨w.heap.size + 1 + 1, 11, none⟩ = some (.slice (some ⟨wc.heap.size, 0, none⟩) p.canc.length p.canc.length) ∧ W.cell? ⟨wr.heap.size, 0, none⟩ = some (.string ma) ∧ W.cell? ⟨wr.heap.size, 1, none⟩ = some (.string mb) ∧ W.cell? ⟨wr.heap.size, 2, none⟩ = some (.int .u32 mx) ∧ W.cell? ⟨wr.heap.size, 3, none⟩ = some (.int .u16 my)) (go_keep) ((go_at_call 17; refine (plmn_any _ _ _).mono ?_; rintro e w' ⟨rfl, c57, rfl⟩))
                  rename_i hh
                  clear hh
                  go_wp2
                  go_roundw
                  case rel =>
                    obtain ⟨hb5, ha5⟩ := round_end HT.out HR.out [.string ma, .string mb, .int .u32 mx, .int .u16 my] rfl (take_len _ k hk) hlt (.cells c57 57)
                    rw [← take_snoc _ _ _ HI.out] at ha5
                    repeat apply Exists.intro
                    exact ⟨⟨k + 1, by omega, by go_num, HB.out.below hb5 (by omega), grown_below HG.out hb5 (Nat.le_refl _), ha5⟩, rfl⟩
                  case measure => simp [intOf]; omega
                · go_wp2
                  go_meet
                  case rel =>
                    have hkn : k = p.canc.length := by omega
                    have hR := HR.out
                    rw [hkn, List.take_length] at hR
                    have KP : Kept [47] wc wr := Kept.grown HG.out hcut.pr (by decide)
                    exact ⟨_, _, _, _, HB.out, hok2.kept KP (by decide) (by decide), hok6.kept KP (by decide), hok10.kept KP (by decide), .inr ⟨wc.heap.size, p.canc.length, rfl, by omega, Nat.le_refl _, by have := hs.b11; unfold maxLen; omega, hR⟩⟩
          case rest =>
            obtain ⟨v2, v6, v10, v11, hcut, hok2, hok6, hok10, hok11⟩ := hcut
            clear z11
            have z12 := hcut.zc 12 _ (HC.out 12 _ rfl)
            go_upto_if 166 with fail
            go_cut [] (fun w' => ∃ v2 v6 v10 v11 v12 : Value, BSt w w' cs p v2 v6 v10 v11 v12 ∧ CellsOK w' (w.heap.size + 3) v2 p.cells ∧ SliceOK w' (w.heap.size + 3) 100 3 v6 p.tais ∧ SliceOK w' (w.heap.size + 3) 102 3 v10 p.sched ∧ SliceOK w' (w.heap.size + 3) 104 4 v11 p.canc ∧ SliceOK w' (w.heap.size + 3) 107 4 v12 p.enbs)
            case first => as_aux_lemma =>
              cases ha : p.a12 with
              | none =>
                have hb : p.a12.isSome = false := by rw [ha]; rfl
                have HA : Hid (p.a12 = none) := ha
                clear ha
                go_wp2
                go_meet
                case rel => exact ⟨_, _, _, _, _, hcut, hok2, hok6, hok10, hok11, .inl ⟨rfl, (hi.n12 HA.out).1⟩⟩
              | some x =>
                have hb : p.a12.isSome = true := by rw [ha]; rfl
                rw [ha] at z12
                have HA : Hid (p.a12 = some x) := ha
                clear ha
                have hm := run_make45 p.enbs.length wc hs.b12
                obtain ⟨pp, ff⟩ := hcut.pc 12 _ rfl
                have hsz : w.heap.size + 1 + 1 < wc.heap.size := by have := hcut.sz; omega
                go_wp2
                go_loopw [11] (fun i w' => ∃ k : Nat, k ≤ p.enbs.length ∧ i = .int .i64 k ∧ BSt w w' cs p v2 v6 v10 v11 (.slice (some ⟨wc.heap.size, 0, none⟩) p.enbs.length p.enbs.length) ∧ wc.grownBy w' (some (w.heap.size + 2)) ∧ Arr w' wc.heap.size 107 4 p.enbs.length (p.enbs.take k)) (fun i _ => p.enbs.length - (intOf i).toNat)
                case atStart =>
                  obtain ⟨h1, h2⟩ := hcut.step (.cells (madeCells #[.string ⟨#[]⟩, .string ⟨#[]⟩, .int .u8 0, .int .u32 0] (p.enbs.length * 4)) 107) 12 (.slice (some ⟨wc.heap.size, 0, none⟩) p.enbs.length p.enbs.length) rfl
                  exact ⟨0, Nat.zero_le _, rfl, h1, h2, Arr.made' wc _ _ _ 107 4 p.enbs.length⟩
                case round =>
                  obtain ⟨k, hk, rfl, hbs, hgr, harr⟩ := hrel
                  have HB : Hid (BSt w wr cs p v2 v6 v10 v11 (.slice (some ⟨wc.heap.size, 0, none⟩) p.enbs.length p.enbs.length)) := hbs
                  have HG : Hid (wc.grownBy wr (some (w.heap.size + 2))) := hgr
                  have HR : Hid (Arr wr wc.heap.size 107 4 p.enbs.length (p.enbs.take k)) := harr
                  have zz := hbs.zc 12 _ (HC.out 12 _ rfl)
                  rw [HA.out] at zz
                  obtain ⟨p6, f6⟩ := hbs.pc 12 _ rfl
                  have hl := hs.b12
                  clear hbs hgr harr z12 pp ff hm
                  by_cases hlt : k < p.enbs.length
                  · obtain ⟨r, hr⟩ : ∃ r, p.enbs[k]? = some r := ⟨_, List.getElem?_eq_getElem hlt⟩
                    obtain ⟨ma, mb, mx, my, rfl⟩ := hi.k12 r (List.mem_of_getElem? hr)
                    rcases hi.i12 with h0 | ⟨b, o, hx, hbl, hin⟩
                    · rw [h0] at hlt; simp at hlt
                    rw [HA.out] at hx
                    obtain rfl := Option.some.inj hx
                    have i0 := (HB.out.bel.cell (p := ⟨b, o + k * 4, none⟩) hbl).trans (hin k _ hr 0 _ rfl)
                    obtain ⟨⟨y0, g0⟩, e0⟩ := HR.out.there k 0 hlt (by decide)
                    have i1 := (HB.out.bel.cell (p := ⟨b, o + k * 4 + 1, none⟩) hbl).trans (hin k _ hr 1 _ rfl)
                    obtain ⟨⟨y1, g1⟩, e1⟩ := HR.out.there k 1 hlt (by decide)
                    have i2 := (HB.out.bel.cell (p := ⟨b, o + k * 4 + 2, none⟩) hbl).trans (hin k _ hr 2 _ rfl)
                    obtain ⟨⟨y2, g2⟩, e2⟩ := HR.out.there k 2 hlt (by decide)
                    have i3 := (HB.out.bel.cell (p := ⟨b, o + k * 4 + 3, none⟩) hbl).trans (hin k _ hr 3 _ rfl)
                    obtain ⟨⟨y3, g3⟩, e3⟩ := HR.out.there k 3 hlt (by decide)
                    have HI : Hid (p.enbs[k]? = some [.string ma, .string mb, .int .u8 mx, .int .u32 my]) := hr
                    clear hr hin hx
                    go_wp2
                    have t0 : (wr.alloc (.cells #[.string ma, .string mb, .int .u8 mx, .int .u32 my] 77)).cell? ⟨wr.heap.size, 0, none⟩ = some (.string ma) := cell_of_row _ _ 0 _ _ _ (heap_alloc_last wr _)
                    have t1 : (wr.alloc (.cells #[.string ma, .string mb, .int .u8 mx, .int .u32 my] 77)).cell? ⟨wr.heap.size, 1, none⟩ = some (.string mb) := cell_of_row _ _ 1 _ _ _ (heap_alloc_last wr _)
                    have t2 : (wr.alloc (.cells #[.string ma, .string mb, .int .u8 mx, .int .u32 my] 77)).cell? ⟨wr.heap.size, 2, none⟩ = some (.int .u8 mx) := cell_of_row _ _ 2 _ _ _ (heap_alloc_last wr _)
                    have t3 : (wr.alloc (.cells #[.string ma, .string mb, .int .u8 mx, .int .u32 my] 77)).cell? ⟨wr.heap.size, 3, none⟩ = some (.int .u32 my) := cell_of_row _ _ 3 _ _ _ (heap_alloc_last wr _)
                    have bt : Below wr.heap.size wr (wr.alloc (.cells #[.string ma, .string mb, .int .u8 mx, .int .u32 my] 77)) := (Below.refl _ _).alloc (Nat.le_refl _) _
                    have s6 := (bt.cell (p := ⟨w.heap.size + 1 + 1, 12, none⟩) (cell_lt p6)).trans p6
                    have sx0 := (bt.cell (p := ⟨wc.heap.size, k * 4, none⟩) (cell_lt g0)).trans g0
                    have r0 := (bt.frozen (p := ⟨wc.heap.size, k * 4, none⟩) (cell_lt g0)).trans e0
                    have sx1 := (bt.cell (p := ⟨wc.heap.size, k * 4 + 1, none⟩) (cell_lt g1)).trans g1
                    have r1 := (bt.frozen (p := ⟨wc.heap.size, k * 4 + 1, none⟩) (cell_lt g1)).trans e1
                    have sx2 := (bt.cell (p := ⟨wc.heap.size, k * 4 + 2, none⟩) (cell_lt g2)).trans g2
                    have r2 := (bt.frozen (p := ⟨wc.heap.size, k * 4 + 2, none⟩) (cell_lt g2)).trans e2
                    have sx3 := (bt.cell (p := ⟨wc.heap.size, k * 4 + 3, none⟩) (cell_lt g3)).trans g3
                    have r3 := (bt.frozen (p := ⟨wc.heap.size, k * 4 + 3, none⟩) (cell_lt g3)).trans e3
                    have HT : Hid (Below wr.heap.size wr (wr.alloc (.cells #[.string ma, .string mb, .int .u8 mx, .int .u32 my] 77))) := bt
                    have HGr : Hid (wc.heap.size < wr.heap.size) := cell_lt g0
                    clear bt g0 g1 g2 g3 e0 e1 e2 e3 p6 zz i0 i1 i2 i3 f6
                    generalize wr.alloc (.cells #[.string ma, .string mb, .int .u8 mx, .int .u32 my] 77) = wt at t0 t1 t2 t3 s6 sx0 sx1 sx2 sx3 r0 r1 r2 r3 HT ⊢
                    have n1 := World.new_ne wt _ t0
                    have n2 := World.new_ne wt _ s6
                    have n3 : wc.heap.size < wt.heap.size := cell_lt sx0
                    have m1 : w.heap.size + 1 + 1 ≠ wc.heap.size := by omega
                    have m2 : wc.heap.size ≠ w.heap.size + 1 + 1 := by omega
                    have m3 : wr.heap.size ≠ wc.heap.size := by have := HGr.out; omega
                    have m4 : wc.heap.size ≠ wr.heap.size := by have := HGr.out; omega
                    go_region_held3 (fun W => W.cell? ⟨w.heap.size + 1 + 1, 12, none⟩ = some (.slice (some ⟨wc.heap.size, 0, none⟩) p.enbs.length p.enbs.length) ∧ W.cell? ⟨wr.heap.size, 0, none⟩ = some (.string ma) ∧ W.cell? ⟨wr.heap.size, 1, none⟩ = some (.string mb) ∧ W.cell? ⟨wr.heap.size, 2, none⟩ = some (.int .u8 mx) ∧ W.cell? ⟨wr.heap.size, 3, none⟩ = some (.int .u32 my)) (go_keep) ((go_at_call 17; refine (plmn_any _ _ _).mono ?_; rintro e w' ⟨rfl, c57, rfl⟩))
                    rename_i hh
                    clear hh
                    go_wp2
                    go_roundw
                    case rel =>
                      obtain ⟨hb5, ha5⟩ := round_end HT.out HR.out [.string ma, .string mb, .int .u8 mx, .int .u32 my] rfl (take_len _ k hk) hlt (.cells c57 57)
                      rw [← take_snoc _ _ _ HI.out] at ha5
                      repeat apply Exists.intro
                      exact ⟨⟨k + 1, by omega, by go_num, HB.out.below hb5 (by omega), grown_below HG.out hb5 (Nat.le_refl _), ha5⟩, rfl⟩
                    case measure => simp [intOf]; omega
                  · go_wp2
                    go_meet
                    case rel =>
                      have hkn : k = p.enbs.length := by omega
                      have hR := HR.out
                      rw [hkn, List.take_length] at hR
                      have KP : Kept [47] wc wr := Kept.grown HG.out hcut.pr (by decide)
                      exact ⟨_, _, _, _, _, HB.out, hok2.kept KP (by decide) (by decide), hok6.kept KP (by decide), hok10.kept KP (by decide), hok11.kept KP (by decide), .inr ⟨wc.heap.size, p.enbs.length, rfl, by omega, Nat.le_refl _, by have := hs.b12; unfold maxLen; omega, hR⟩⟩
            case rest =>
              obtain ⟨v2, v6, v10, v11, v12, hcut, hok2, hok6, hok10, hok11, hok12⟩ := hcut
              clear z12
              have hi47 : (Try.prog.info? 47).map (·.size) = some (prow p v2 v6 v10 v11 v12).toArray.size := by kernel_rfl
              obtain ⟨hB5, hK5, hR5, hT5⟩ := stored14 hcut (prow p v2 v6 v10 v11 v12) rfl
              have hpr : wc.heap[w.heap.size + 1 + 1]? = _ := hcut.pr
              have hone : (prow p v2 v6 v10 v11 v12).toArray.all (·.oneCell') = true := by
                obtain ⟨x2, y2, z2, rfl⟩ := hok2.is
                obtain ⟨x6, y6, z6, rfl⟩ := hok6.is
                obtain ⟨x10, y10, z10, rfl⟩ := hok10.is
                obtain ⟨x11, y11, z11, rfl⟩ := hok11.is
                obtain ⟨x12, y12, z12, rfl⟩ := hok12.is
                simp [prow, Value.oneCell']
              obtain ⟨row, hrow⟩ : ∃ row, row = (prow p v2 v6 v10 v11 v12).toArray := ⟨_, rfl⟩
              have hrl : prow p v2 v6 v10 v11 v12 = row.toList := by rw [hrow]
              rw [hrl] at hB5 hK5 hR5
              rw [← hrow] at hi47 hpr hone
              have hT6 : wc.there (w.heap.size + 1) 0 row.size := by rw [hrow]; exact hT5
              have HRow : Hid (row = (prow p v2 v6 v10 v11 v12).toArray) := hrow
              have HR5 : Hid ((wc.setCells (w.heap.size + 1) 0 row.toList).heap[w.heap.size + 1]? = some (.cells row 47 (0, 0))) := by unfold Hid; simpa using hR5
              have HP : Hid (wc.heap[w.heap.size + 1 + 1]? = some (.cells row 47 (0, 0))) := hpr
              have HT6 : Hid (wc.there (w.heap.size + 1) 0 row.size) := hT6
              have HI47 : Hid ((Try.prog.info? 47).map (·.size) = some row.size) := hi47
              have H1 : Hid (row.all (·.oneCell') = true) := hone
              have HB5 : Hid (Below w.heap.size w (wc.setCells (w.heap.size + 1) 0 row.toList)) := hB5
              have HK5 : Hid (Kept [47] wc (wc.setCells (w.heap.size + 1) 0 row.toList)) := hK5
              clear hrow hR5 hpr hT5 hT6 hi47 hone hB5 hK5 hrl hcut
              go_upto_region 45 with fail
              refine wp_region_lit ?_
              refine wpList_load_row (o := ⟨some 198, .load 47 (.tmp 3), _, _, _, _⟩) (by rfl) 47 (.tmp 3) (by rfl) (w.heap.size + 1 + 1) (by rfl) 47 row (0, 0) _ HP.out Try.underlying47 (by rfl) HI47.out ?_
              refine wpList_store_mid (op := ⟨none, .store 47 (.tmp 2) (.tmp 198), _, _, _, _⟩) (by rfl) 47 (.tmp 2) (.tmp 198) (by rfl) (w.heap.size + 1) 0 row (by rfl) (by rfl) HT6.out HI47.out H1.out ?_
              go_wp2
              refine bodyPost_ret (v := .agg row) (results_cell_row Try.results13 _ _ (w.heap.size + 1) 47 row (0, 0) _ rfl HR5.out Try.underlying47 rfl HI47.out) rfl ?_
              have h47 := HK5.out
              exact ⟨_, _, _, _, _, by rw [HRow.out], ⟨(hok2.kept h47 (by decide) (by decide)).mono (by omega), (hok6.kept h47 (by decide)).mono (by omega), (hok10.kept h47 (by decide)).mono (by omega), (hok11.kept h47 (by decide)).mono (by omega), (hok12.kept h47 (by decide)).mono (by omega)⟩, HB5.out⟩

theorem builds_peer : ∀ (p : ZP) (w : World), InOK w p → Small p → Calls Try.prog 13 #[.agg (zrow p).toArray] w fun e w' => ∃ r : List Value, e = .returned (.agg r.toArray) ∧ PeerOK w' w.heap.size r p ∧ Below w.heap.size w w' := by
  intro p w hi hs
  refine (buildPeer_any p w hi hs).mono ?_
  rintro e w' ⟨v2, v6, v10, v11, v12, rfl, ⟨h2, h6, h10, h11, h12⟩, hb⟩
  exact ⟨prow p v2 v6 v10 v11 v12, rfl, ⟨v2, v6, v10, v11, v12, rfl, h2, h6.mono (Nat.zero_le _), h10.mono (Nat.zero_le _), h11.mono (Nat.zero_le _), h12.mono (Nat.zero_le _)⟩, hb⟩
end Go.Proofs.Qxb6616460a

import Derived.Test.Qxb6616460aData
namespace Go.Proofs.Qxb6616460a
open Go.RowKit
set_option linter.unusedVariables false

theorem SliceOK.at {w : World} {lo t K : Nat} {v : Value} {rows : List (List Value)} (h : SliceOK w lo t K v rows) : ∃ (ao : Option Addr) (c : Nat), v = .slice ao rows.length c ∧ ∀ (k : Nat) (r : List Value), rows[k]? = some r → ∃ g, ao = some ⟨g, 0, none⟩ ∧ g < w.heap.size ∧ w.rangeAt g (k * K) r := by
  rcases h with ⟨rfl, rfl⟩ | ⟨g, cap, rfl, h4, h5, h6, h7⟩
  · exact ⟨none, 0, rfl, fun k r hr => by simp at hr⟩
  · exact ⟨some ⟨g, 0, none⟩, cap, rfl, fun k r hr => ⟨g, rfl, h7.lt, h7.range hr⟩⟩
theorem CellsOK.at {w : World} {lo : Nat} {v : Value} {cells : List ZC} (h : CellsOK w lo v cells) : ∃ (ao : Option Addr) (c : Nat), v = .slice ao cells.length c ∧ ∀ (k : Nat) (z : ZC), cells[k]? = some z → ∃ g r, ao = some ⟨g, 0, none⟩ ∧ g < w.heap.size ∧ w.rangeAt g (k * 7) r ∧ CellOK w r z := by
  obtain ⟨crow, h1, h2, h3⟩ := h
  obtain ⟨ao, c, rfl, h4⟩ := h1.at
  refine ⟨ao, c, by rw [h2], fun k z hz => ?_⟩
  have hk := (List.getElem?_eq_some_iff.1 hz).1
  rw [← h2] at hk
  obtain ⟨g, e1, e2, e3⟩ := h4 k _ (List.getElem?_eq_getElem hk)
  exact ⟨g, _, e1, e2, e3, h3 k _ z (List.getElem?_eq_getElem hk) hz⟩
theorem InArr.at {w : World} {ao : Option Addr} {K : Nat} {rows : List (List Value)} (h : InArr w ao K rows) {k : Nat} {r : List Value} (hr : rows[k]? = some r) : ∃ b o, ao = some ⟨b, o, none⟩ ∧ b < w.heap.size ∧ w.rangeAt b (o + k * K) r := by
  rcases h with rfl | ⟨b, o, h1, h2, h3⟩
  · simp at hr
  · exact ⟨b, o, h1, h2, fun j v hv => h3 k r hr j v hv⟩

theorem Hid.mk' {p : Prop} (h : p) : Hid p := h
/-- The state of zzPeerIs. -/
structure PSt (w0 wr : World) (A B : Array Value) : Prop where
  bel : Below w0.heap.size w0 wr
  sz : w0.heap.size + 2 ≤ wr.heap.size
  a : wr.heap[w0.heap.size]? = some (.cells A 47 (0, 0))
  b : wr.heap[w0.heap.size + 1]? = some (.cells B 54 (0, 0))
theorem PSt.ac {w0 wr : World} {A B : Array Value} (h : PSt w0 wr A B) (k : Nat) (v : Value) (hv : A[k]? = some v) : wr.cell? ⟨w0.heap.size, k, none⟩ = some v := by
  rw [cell_of_row wr _ k _ _ _ h.a]; exact hv
theorem PSt.bc {w0 wr : World} {A B : Array Value} (h : PSt w0 wr A B) (k : Nat) (v : Value) (hv : B[k]? = some v) : wr.cell? ⟨w0.heap.size + 1, k, none⟩ = some v := by
  rw [cell_of_row wr _ k _ _ _ h.b]; exact hv
theorem PSt.below {w0 wr wr' : World} {A B : Array Value} (h : PSt w0 wr A B) (hb : Below wr.heap.size wr wr') : PSt w0 wr' A B := by
  have := h.sz
  exact ⟨h.bel.trans (hb.mono (by omega)), Nat.le_trans h.sz hb.size, (hb.block _ (by omega)).trans h.a, (hb.block _ (by omega)).trans h.b⟩
theorem hp2 (w : World) (a b : Obj) : ((w.alloc a).alloc b).heap[w.heap.size]? = some a ∧ ((w.alloc a).alloc b).heap[w.heap.size + 1]? = some b := by
  have e1 : (w.alloc a).heap.size = w.heap.size + 1 := by simp
  refine ⟨?_, ?_⟩
  · rw [Below.heap_alloc _ _ _ (by omega)]; exact heap_alloc_new w a
  · rw [← e1]; exact heap_alloc_new _ b
theorem below_allocs (w : World) (a b c : Obj) : Below w.heap.size w (((w.alloc a).alloc b).alloc c) := (((Below.refl _ _).alloc (Nat.le_refl _) _).alloc (by simp) _).alloc (by simp; omega) _
theorem list7 (r : List Value) (h : r.length = 7) : ∃ c0 c1 c2 c3 c4 c5 c6, r = [c0, c1, c2, c3, c4, c5, c6] := by
  match r, h with
  | [c0, c1, c2, c3, c4, c5, c6], _ => exact ⟨c0, c1, c2, c3, c4, c5, c6, rfl⟩
theorem list9 (z : ZC) : ∃ d0 d1 d2 d3 d4 d5 d6 d7 d8, z.row = [d0, d1, d2, d3, d4, d5, d6, d7, d8] := ⟨_, _, _, _, _, _, _, _, _, rfl⟩

set_option maxHeartbeats 4000000 in
set_option maxRecDepth 100000 in
theorem peerIs_any (p : ZP) (r : List Value) (lo : Nat) (w : World) (hp : PeerOK w lo r p) (hi : InOK w p) (hs : Small p) : Calls Try.prog 15 #[.agg r.toArray, .agg (zrow p).toArray] w fun e w' => e = .returned (.bool true) ∧ Below w.heap.size w w' := by
  obtain ⟨v2, v6, v10, v11, v12, rfl, h2, h6, h10, h11, h12⟩ := hp
  obtain ⟨s2, e2, rfl, hat2⟩ := h2.at
  obtain ⟨s6, e6, rfl, hat6⟩ := h6.at
  obtain ⟨s10, e10, rfl, hat10⟩ := h10.at
  obtain ⟨s11, e11, rfl, hat11⟩ := h11.at
  obtain ⟨s12, e12, rfl, hat12⟩ := h12.at
  replace hat2 := Hid.mk' hat2
  replace hat6 := Hid.mk' hat6
  replace hat10 := Hid.mk' hat10
  replace hat11 := Hid.mk' hat11
  replace hat12 := Hid.mk' hat12
  clear h2 h6 h10 h11 h12
  have HA : Hid (∀ k v, (prow p (.slice s2 p.cells.length e2) (.slice s6 p.tais.length e6) (.slice s10 p.sched.length e10) (.slice s11 p.canc.length e11) (.slice s12 p.enbs.length e12))[k]? = some v → (prow p (.slice s2 p.cells.length e2) (.slice s6 p.tais.length e6) (.slice s10 p.sched.length e10) (.slice s11 p.canc.length e11) (.slice s12 p.enbs.length e12)).toArray[k]? = some v) := fun k v h => by rw [List.getElem?_toArray]; exact h
  have HB : Hid (∀ k v, (zrow p)[k]? = some v → (zrow p).toArray[k]? = some v) := fun k v h => by rw [List.getElem?_toArray]; exact h
  generalize (zrow p).toArray = B at HB
  generalize (prow p (.slice s2 p.cells.length e2) (.slice s6 p.tais.length e6) (.slice s10 p.sched.length e10) (.slice s11 p.canc.length e11) (.slice s12 p.enbs.length e12)).toArray = A at HA
  have q1 := toList_self p.peer; have q2 := toList_self p.cause; have q3 := toList_self p.sc
  go_enter Try.func15, Try.ntmps15
  go_upto_region 1 with fail
  have hcut : PSt w ((w.alloc (.cells A 47)).alloc (.cells B 54)) A B := ⟨((Below.refl _ _).alloc (Nat.le_refl _) _).alloc (by simp) _, by simp, (hp2 w _ _).1, (hp2 w _ _).2⟩
  generalize (w.alloc (.cells A 47)).alloc (.cells B 54) = wc at hcut ⊢
  have a0 := hcut.ac 0 _ (HA.out 0 _ rfl)
  have b0 := hcut.bc 0 _ (HB.out 0 _ rfl)
  have a1 := hcut.ac 1 _ (HA.out 1 _ rfl)
  have b1 := hcut.bc 1 _ (HB.out 1 _ rfl)
  have a3 := hcut.ac 3 _ (HA.out 3 _ rfl)
  have b3 := hcut.bc 3 _ (HB.out 3 _ rfl)
  have a4 := hcut.ac 4 _ (HA.out 4 _ rfl)
  have b4 := hcut.bc 4 _ (HB.out 4 _ rfl)
  have a5 := hcut.ac 5 _ (HA.out 5 _ rfl)
  have b5 := hcut.bc 5 _ (HB.out 5 _ rfl)
  have a7 := hcut.ac 7 _ (HA.out 7 _ rfl)
  have b7 := hcut.bc 7 _ (HB.out 7 _ rfl)
  have a8 := hcut.ac 8 _ (HA.out 8 _ rfl)
  have b8 := hcut.bc 8 _ (HB.out 8 _ rfl)
  have a9 := hcut.ac 9 _ (HA.out 9 _ rfl)
  have b9 := hcut.bc 9 _ (HB.out 9 _ rfl)
  have a13 := hcut.ac 13 _ (HA.out 13 _ rfl)
  have b13 := hcut.bc 13 _ (HB.out 13 _ rfl)
  have za' := hcut.ac 2 _ (HA.out 2 _ rfl)
  have zb' := hcut.bc 2 _ (HB.out 2 _ rfl)
  go_wp2
  clear za' zb' a0 b0 a1 b1 a3 b3 a4 b4 a5 b5 a7 b7 a8 b8 a9 b9 a13 b13
  go_loopw [5] (fun i w' => ∃ k : Nat, k ≤ p.cells.length ∧ i = .int .i64 k ∧ PSt w w' A B) (fun i _ => p.cells.length - (intOf i).toNat)
  case atStart => exact ⟨0, Nat.zero_le _, rfl, hcut⟩
  case round =>
    obtain ⟨k, hk, rfl, hst⟩ := hrel
    have HST : Hid (PSt w wr A B) := hst
    have za := hst.ac 2 _ (HA.out 2 _ rfl)
    have zb := hst.bc 2 _ (HB.out 2 _ rfl)
    have hsz := hst.sz
    have hl := hs.b2
    clear hst hcut
    by_cases hlt : k < p.cells.length
    · obtain ⟨z, hz⟩ : ∃ z, p.cells[k]? = some z := ⟨_, List.getElem?_eq_getElem hlt⟩
      obtain ⟨g, r, hg1, hg2, hg3, hok⟩ := hat2.out k _ hz
      have hzr : (p.cells.map ZC.row)[k]? = some z.row := by simp [hz]
      obtain ⟨b, o, hb1, hb2, hb3⟩ := hi.i2.at hzr
      rw [hg1] at za
      rw [hb1] at zb
      have ra := Below.range HST.out.bel hg3 hg2
      have rb := Below.range HST.out.bel hb3 hb2
      obtain ⟨c0, c1, c2, c3, c4, c5, c6, rfl⟩ := list7 r hok.one.1
      obtain ⟨d0, d1, d2, d3, d4, d5, d6, d7, d8, hd⟩ := list9 z
      rw [hd] at rb
      have HCI : Hid (∀ W : World, Below w.heap.size w W → Calls Try.prog 18 #[.agg #[c0, c1, c2, c3, c4, c5, c6], .agg #[d0, d1, d2, d3, d4, d5, d6, d7, d8]] W fun e w' => e = .returned (.bool true) ∧ Below W.heap.size W w') := fun W hW => by
        have h := cellIs_any _ z W (hok.kept (T := []) (Kept.of_below hW) (by simp))
        rw [hd] at h
        exact h
      have HS : Hid (∀ W : World, Below wr.heap.size wr W → W.cell? ⟨w.heap.size, 2, none⟩ = some (.slice (some ⟨g, 0, none⟩) p.cells.length e2) ∧ W.cell? ⟨w.heap.size + 1, 2, none⟩ = some (.slice (some ⟨b, o, none⟩) p.cells.length p.c2) ∧ W.cell? ⟨g, k * 7, none⟩ = some c0 ∧ W.cell? ⟨g, k * 7 + 1, none⟩ = some c1 ∧ W.cell? ⟨g, k * 7 + 2, none⟩ = some c2 ∧ W.cell? ⟨g, k * 7 + 3, none⟩ = some c3 ∧ W.cell? ⟨g, k * 7 + 4, none⟩ = some c4 ∧ W.cell? ⟨g, k * 7 + 5, none⟩ = some c5 ∧ W.cell? ⟨g, k * 7 + 6, none⟩ = some c6 ∧ W.cell? ⟨b, o + k * 9, none⟩ = some d0 ∧ W.cell? ⟨b, o + k * 9 + 1, none⟩ = some d1 ∧ W.cell? ⟨b, o + k * 9 + 2, none⟩ = some d2 ∧ W.cell? ⟨b, o + k * 9 + 3, none⟩ = some d3 ∧ W.cell? ⟨b, o + k * 9 + 4, none⟩ = some d4 ∧ W.cell? ⟨b, o + k * 9 + 5, none⟩ = some d5 ∧ W.cell? ⟨b, o + k * 9 + 6, none⟩ = some d6 ∧ W.cell? ⟨b, o + k * 9 + 7, none⟩ = some d7 ∧ W.cell? ⟨b, o + k * 9 + 8, none⟩ = some d8) := fun W hW => by
        have xa := Below.range hW ra (by omega)
        have xb := Below.range hW rb (by omega)
        exact ⟨(hW.cell (p := ⟨w.heap.size, 2, none⟩) (by show w.heap.size < wr.heap.size; omega)).trans za, (hW.cell (p := ⟨w.heap.size + 1, 2, none⟩) (by show w.heap.size + 1 < wr.heap.size; omega)).trans zb, xa 0 _ rfl, xa 1 _ rfl, xa 2 _ rfl, xa 3 _ rfl, xa 4 _ rfl, xa 5 _ rfl, xa 6 _ rfl, xb 0 _ rfl, xb 1 _ rfl, xb 2 _ rfl, xb 3 _ rfl, xb 4 _ rfl, xb 5 _ rfl, xb 6 _ rfl, xb 7 _ rfl, xb 8 _ rfl⟩
      clear ra rb hg3 hb3 hz hg1 hb1 hok hd hzr
      as_aux_lemma =>
      go_wp2
      go_region_held3 (fun W => W.cell? ⟨w.heap.size, 2, none⟩ = some (.slice (some ⟨g, 0, none⟩) p.cells.length e2) ∧ W.cell? ⟨w.heap.size + 1, 2, none⟩ = some (.slice (some ⟨b, o, none⟩) p.cells.length p.c2) ∧ W.cell? ⟨g, k * 7, none⟩ = some c0 ∧ W.cell? ⟨g, k * 7 + 1, none⟩ = some c1 ∧ W.cell? ⟨g, k * 7 + 2, none⟩ = some c2 ∧ W.cell? ⟨g, k * 7 + 3, none⟩ = some c3 ∧ W.cell? ⟨g, k * 7 + 4, none⟩ = some c4 ∧ W.cell? ⟨g, k * 7 + 5, none⟩ = some c5 ∧ W.cell? ⟨g, k * 7 + 6, none⟩ = some c6 ∧ W.cell? ⟨b, o + k * 9, none⟩ = some d0 ∧ W.cell? ⟨b, o + k * 9 + 1, none⟩ = some d1 ∧ W.cell? ⟨b, o + k * 9 + 2, none⟩ = some d2 ∧ W.cell? ⟨b, o + k * 9 + 3, none⟩ = some d3 ∧ W.cell? ⟨b, o + k * 9 + 4, none⟩ = some d4 ∧ W.cell? ⟨b, o + k * 9 + 5, none⟩ = some d5 ∧ W.cell? ⟨b, o + k * 9 + 6, none⟩ = some d6 ∧ W.cell? ⟨b, o + k * 9 + 7, none⟩ = some d7 ∧ W.cell? ⟨b, o + k * 9 + 8, none⟩ = some d8) ((refine HS.out _ ?_; first | (with_reducible exact (Below.refl _ _).drew) | (with_reducible exact hbb))) ((go_at_call 18; refine (HCI.out _ HST.out.bel.drew).mono ?_; rintro e w' ⟨rfl, hbb⟩; replace hbb : Below wr.heap.size wr w' := ((Below.refl wr.heap.size wr).drew).trans hbb))
      rename_i hh
      clear hh HS
      go_wp2
      go_roundw
      case rel =>
        first
          | exact ⟨k + 1, by omega, by go_num, HST.out.below hbb⟩
          | (repeat apply Exists.intro
             exact ⟨⟨k + 1, by omega, by go_num, HST.out.below hbb⟩, rfl⟩)
      case measure => simp [intOf]; omega
    · have hcut := HST.out
      have za' := hcut.ac 6 _ (HA.out 6 _ rfl)
      have zb' := hcut.bc 6 _ (HB.out 6 _ rfl)
      go_wp2
      clear za' zb' HST za zb hsz hl hk hlt
      go_loopw [6] (fun i w' => ∃ k : Nat, k ≤ p.tais.length ∧ i = .int .i64 k ∧ PSt w w' A B) (fun i _ => p.tais.length - (intOf i).toNat)
      case atStart => exact ⟨0, Nat.zero_le _, rfl, hcut⟩
      case round =>
        obtain ⟨k, hk, rfl, hst⟩ := hrel
        have HST : Hid (PSt w wr A B) := hst
        have za := hst.ac 6 _ (HA.out 6 _ rfl)
        have zb := hst.bc 6 _ (HB.out 6 _ rfl)
        have hsz := hst.sz
        have hl := hs.b6
        clear hst hcut
        by_cases hlt : k < p.tais.length
        · obtain ⟨r, hr⟩ : ∃ r, p.tais[k]? = some r := ⟨_, List.getElem?_eq_getElem hlt⟩
          obtain ⟨ma, mb, mx, rfl⟩ := hi.k6 r (List.mem_of_getElem? hr)
          obtain ⟨g, hg1, hg2, hg3⟩ := hat6.out k _ hr
          obtain ⟨b, o, hb1, hb2, hb3⟩ := hi.i6.at hr
          rw [hg1] at za
          rw [hb1] at zb
          have ra := Below.range HST.out.bel hg3 hg2
          have rb := Below.range HST.out.bel hb3 hb2
          have n1 : g < wr.heap.size := by omega
          have n2 : b < wr.heap.size := by omega
          have n3 : w.heap.size < wr.heap.size := by omega
          have n4 : w.heap.size + 1 < wr.heap.size := by omega
          have x0 : wr.cell? ⟨g, k * 3, none⟩ = some (.string ma) := ra 0 _ rfl
          have y0 : wr.cell? ⟨b, o + k * 3, none⟩ = some (.string ma) := rb 0 _ rfl
          have x1 : wr.cell? ⟨g, k * 3 + 1, none⟩ = some (.string mb) := ra 1 _ rfl
          have y1 : wr.cell? ⟨b, o + k * 3 + 1, none⟩ = some (.string mb) := rb 1 _ rfl
          have x2 : wr.cell? ⟨g, k * 3 + 2, none⟩ = some (.int .u16 mx) := ra 2 _ rfl
          have y2 : wr.cell? ⟨b, o + k * 3 + 2, none⟩ = some (.int .u16 mx) := rb 2 _ rfl
          clear ra rb hg3 hb3 hr hg1 hb1
          as_aux_lemma =>
          go_wp2_with (go_at_call 19; refine (same_any _ _ _).mono ?_; rintro e w' ⟨rfl, cs, rfl⟩)
          go_roundw
          case rel =>
            first
              | exact ⟨k + 1, by omega, by go_num, HST.out.below (below_allocs wr _ _ _)⟩
              | (repeat apply Exists.intro
                 exact ⟨⟨k + 1, by omega, by go_num, HST.out.below (below_allocs wr _ _ _)⟩, rfl⟩)
          case measure => simp [intOf]; omega
        · have hcut := HST.out
          have za' := hcut.ac 10 _ (HA.out 10 _ rfl)
          have zb' := hcut.bc 10 _ (HB.out 10 _ rfl)
          go_wp2
          clear za' zb' HST za zb hsz hl hk hlt
          go_loopw [9] (fun i w' => ∃ k : Nat, k ≤ p.sched.length ∧ i = .int .i64 k ∧ PSt w w' A B) (fun i _ => p.sched.length - (intOf i).toNat)
          case atStart => exact ⟨0, Nat.zero_le _, rfl, hcut⟩
          case round =>
            obtain ⟨k, hk, rfl, hst⟩ := hrel
            have HST : Hid (PSt w wr A B) := hst
            have za := hst.ac 10 _ (HA.out 10 _ rfl)
            have zb := hst.bc 10 _ (HB.out 10 _ rfl)
            have hsz := hst.sz
            have hl := hs.b10
            clear hst hcut
            by_cases hlt : k < p.sched.length
            · obtain ⟨r, hr⟩ : ∃ r, p.sched[k]? = some r := ⟨_, List.getElem?_eq_getElem hlt⟩
              obtain ⟨ma, mb, mx, rfl⟩ := hi.k10 r (List.mem_of_getElem? hr)
              obtain ⟨g, hg1, hg2, hg3⟩ := hat10.out k _ hr
              obtain ⟨b, o, hb1, hb2, hb3⟩ := hi.i10.at hr
              rw [hg1] at za
              rw [hb1] at zb
              have ra := Below.range HST.out.bel hg3 hg2
              have rb := Below.range HST.out.bel hb3 hb2
              have n1 : g < wr.heap.size := by omega
              have n2 : b < wr.heap.size := by omega
              have n3 : w.heap.size < wr.heap.size := by omega
              have n4 : w.heap.size + 1 < wr.heap.size := by omega
              have x0 : wr.cell? ⟨g, k * 3, none⟩ = some (.string ma) := ra 0 _ rfl
              have y0 : wr.cell? ⟨b, o + k * 3, none⟩ = some (.string ma) := rb 0 _ rfl
              have x1 : wr.cell? ⟨g, k * 3 + 1, none⟩ = some (.string mb) := ra 1 _ rfl
              have y1 : wr.cell? ⟨b, o + k * 3 + 1, none⟩ = some (.string mb) := rb 1 _ rfl
              have x2 : wr.cell? ⟨g, k * 3 + 2, none⟩ = some (.int .u32 mx) := ra 2 _ rfl
              have y2 : wr.cell? ⟨b, o + k * 3 + 2, none⟩ = some (.int .u32 mx) := rb 2 _ rfl
              clear ra rb hg3 hb3 hr hg1 hb1
              as_aux_lemma =>
              go_wp2_with (go_at_call 19; refine (same_any _ _ _).mono ?_; rintro e w' ⟨rfl, cs, rfl⟩)
              go_roundw
              case rel =>
                first
                  | exact ⟨k + 1, by omega, by go_num, HST.out.below (below_allocs wr _ _ _)⟩
                  | (repeat apply Exists.intro
                     exact ⟨⟨k + 1, by omega, by go_num, HST.out.below (below_allocs wr _ _ _)⟩, rfl⟩)
              case measure => simp [intOf]; omega
            · have hcut := HST.out
              have za' := hcut.ac 11 _ (HA.out 11 _ rfl)
              have zb' := hcut.bc 11 _ (HB.out 11 _ rfl)
              go_wp2
              clear za' zb' HST za zb hsz hl hk hlt
              go_loopw [12] (fun i w' => ∃ k : Nat, k ≤ p.canc.length ∧ i = .int .i64 k ∧ PSt w w' A B) (fun i _ => p.canc.length - (intOf i).toNat)
              case atStart => exact ⟨0, Nat.zero_le _, rfl, hcut⟩
              case round =>
                obtain ⟨k, hk, rfl, hst⟩ := hrel
                have HST : Hid (PSt w wr A B) := hst
                have za := hst.ac 11 _ (HA.out 11 _ rfl)
                have zb := hst.bc 11 _ (HB.out 11 _ rfl)
                have hsz := hst.sz
                have hl := hs.b11
                clear hst hcut
                by_cases hlt : k < p.canc.length
                · obtain ⟨r, hr⟩ : ∃ r, p.canc[k]? = some r := ⟨_, List.getElem?_eq_getElem hlt⟩
                  obtain ⟨ma, mb, mx, my, rfl⟩ := hi.k11 r (List.mem_of_getElem? hr)
                  obtain ⟨g, hg1, hg2, hg3⟩ := hat11.out k _ hr
                  obtain ⟨b, o, hb1, hb2, hb3⟩ := hi.i11.at hr
                  rw [hg1] at za
                  rw [hb1] at zb
                  have ra := Below.range HST.out.bel hg3 hg2
                  have rb := Below.range HST.out.bel hb3 hb2
                  have n1 : g < wr.heap.size := by omega
                  have n2 : b < wr.heap.size := by omega
                  have n3 : w.heap.size < wr.heap.size := by omega
                  have n4 : w.heap.size + 1 < wr.heap.size := by omega
                  have x0 : wr.cell? ⟨g, k * 4, none⟩ = some (.string ma) := ra 0 _ rfl
                  have y0 : wr.cell? ⟨b, o + k * 4, none⟩ = some (.string ma) := rb 0 _ rfl
                  have x1 : wr.cell? ⟨g, k * 4 + 1, none⟩ = some (.string mb) := ra 1 _ rfl
                  have y1 : wr.cell? ⟨b, o + k * 4 + 1, none⟩ = some (.string mb) := rb 1 _ rfl
                  have x2 : wr.cell? ⟨g, k * 4 + 2, none⟩ = some (.int .u32 mx) := ra 2 _ rfl
                  have y2 : wr.cell? ⟨b, o + k * 4 + 2, none⟩ = some (.int .u32 mx) := rb 2 _ rfl
                  have x3 : wr.cell? ⟨g, k * 4 + 3, none⟩ = some (.int .u16 my) := ra 3 _ rfl
                  have y3 : wr.cell? ⟨b, o + k * 4 + 3, none⟩ = some (.int .u16 my) := rb 3 _ rfl
                  clear ra rb hg3 hb3 hr hg1 hb1
                  as_aux_lemma =>
                  go_wp2_with (go_at_call 19; refine (same_any _ _ _).mono ?_; rintro e w' ⟨rfl, cs, rfl⟩)
                  go_roundw
                  case rel =>
                    first
                      | exact ⟨k + 1, by omega, by go_num, HST.out.below (below_allocs wr _ _ _)⟩
                      | (repeat apply Exists.intro
                         exact ⟨⟨k + 1, by omega, by go_num, HST.out.below (below_allocs wr _ _ _)⟩, rfl⟩)
                  case measure => simp [intOf]; omega
                · have hcut := HST.out
                  have za' := hcut.ac 12 _ (HA.out 12 _ rfl)
                  have zb' := hcut.bc 12 _ (HB.out 12 _ rfl)
                  go_wp2
                  clear za' zb' HST za zb hsz hl hk hlt
                  go_loopw [15] (fun i w' => ∃ k : Nat, k ≤ p.enbs.length ∧ i = .int .i64 k ∧ PSt w w' A B) (fun i _ => p.enbs.length - (intOf i).toNat)
                  case atStart => exact ⟨0, Nat.zero_le _, rfl, hcut⟩
                  case round =>
                    obtain ⟨k, hk, rfl, hst⟩ := hrel
                    have HST : Hid (PSt w wr A B) := hst
                    have za := hst.ac 12 _ (HA.out 12 _ rfl)
                    have zb := hst.bc 12 _ (HB.out 12 _ rfl)
                    have hsz := hst.sz
                    have hl := hs.b12
                    clear hst hcut
                    by_cases hlt : k < p.enbs.length
                    · obtain ⟨r, hr⟩ : ∃ r, p.enbs[k]? = some r := ⟨_, List.getElem?_eq_getElem hlt⟩
                      obtain ⟨ma, mb, mx, my, rfl⟩ := hi.k12 r (List.mem_of_getElem? hr)
                      obtain ⟨g, hg1, hg2, hg3⟩ := hat12.out k _ hr
                      obtain ⟨b, o, hb1, hb2, hb3⟩ := hi.i12.at hr
                      rw [hg1] at za
                      rw [hb1] at zb
                      have ra := Below.range HST.out.bel hg3 hg2
                      have rb := Below.range HST.out.bel hb3 hb2
                      have n1 : g < wr.heap.size := by omega
                      have n2 : b < wr.heap.size := by omega
                      have n3 : w.heap.size < wr.heap.size := by omega
                      have n4 : w.heap.size + 1 < wr.heap.size := by omega
                      have x0 : wr.cell? ⟨g, k * 4, none⟩ = some (.string ma) := ra 0 _ rfl
                      have y0 : wr.cell? ⟨b, o + k * 4, none⟩ = some (.string ma) := rb 0 _ rfl
                      have x1 : wr.cell? ⟨g, k * 4 + 1, none⟩ = some (.string mb) := ra 1 _ rfl
                      have y1 : wr.cell? ⟨b, o + k * 4 + 1, none⟩ = some (.string mb) := rb 1 _ rfl
                      have x2 : wr.cell? ⟨g, k * 4 + 2, none⟩ = some (.int .u8 mx) := ra 2 _ rfl
                      have y2 : wr.cell? ⟨b, o + k * 4 + 2, none⟩ = some (.int .u8 mx) := rb 2 _ rfl
                      have x3 : wr.cell? ⟨g, k * 4 + 3, none⟩ = some (.int .u32 my) := ra 3 _ rfl
                      have y3 : wr.cell? ⟨b, o + k * 4 + 3, none⟩ = some (.int .u32 my) := rb 3 _ rfl
                      clear ra rb hg3 hb3 hr hg1 hb1
                      as_aux_lemma =>
                      go_wp2_with (go_at_call 19; refine (same_any _ _ _).mono ?_; rintro e w' ⟨rfl, cs, rfl⟩)
                      go_roundw
                      case rel =>
                        first
                          | exact ⟨k + 1, by omega, by go_num, HST.out.below (below_allocs wr _ _ _)⟩
                          | (repeat apply Exists.intro
                             exact ⟨⟨k + 1, by omega, by go_num, HST.out.below (below_allocs wr _ _ _)⟩, rfl⟩)
                      case measure => simp [intOf]; omega
                    · have hcut := HST.out
                      go_wp2
                      go_ret
                      exact ⟨rfl, hcut.bel⟩
end Go.Proofs.Qxb6616460a

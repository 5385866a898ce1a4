import Derived.Test.Qxb6616460aZclone
namespace Go.Proofs.Qxb6616460a
open Go.RowKit
set_option linter.unusedVariables false

def PeerIs : Prop := ∀ (p : ZP) (r : List Value) (lo : Nat) (w : World), PeerOK w lo r p → InOK w p → Small p → Calls Try.prog 15 #[.agg r.toArray, .agg (zrow p).toArray] w fun e w' => e = .returned (.bool true) ∧ Below w.heap.size w w'

structure QSt (w0 wr : World) (R : Array Value) : Prop where
  bel : Below w0.heap.size w0 wr
  sz : w0.heap.size + 1 ≤ wr.heap.size
  a : wr.heap[w0.heap.size]? = some (.cells R 34 (0, 0))
theorem QSt.ac {w0 wr : World} {R : Array Value} (h : QSt w0 wr R) (k : Nat) (v : Value) (hv : R[k]? = some v) : wr.cell? ⟨w0.heap.size, k, none⟩ = some v := by
  rw [cell_of_row wr _ k _ _ _ h.a]; exact hv
theorem QSt.below {w0 wr wr' : World} {R : Array Value} (h : QSt w0 wr R) (hb : Below wr.heap.size wr wr') : QSt w0 wr' R := by
  have := h.sz
  exact ⟨h.bel.trans (hb.mono (by omega)), Nat.le_trans h.sz hb.size, (hb.block _ (by omega)).trans h.a⟩
theorem list14 (r : List Value) (h : r.length = 14) : ∃ c0 c1 c2 c3 c4 c5 c6 c7 c8 c9 c10 c11 c12 c13, r = [c0, c1, c2, c3, c4, c5, c6, c7, c8, c9, c10, c11, c12, c13] := by
  match r, h with
  | [c0, c1, c2, c3, c4, c5, c6, c7, c8, c9, c10, c11, c12, c13], _ => exact ⟨c0, c1, c2, c3, c4, c5, c6, c7, c8, c9, c10, c11, c12, c13, rfl⟩

set_option maxHeartbeats 2000000 in
set_option maxRecDepth 100000 in
theorem statusIs_any (PI : PeerIs) (st : Int) (hw : Bool) (id : ByteArray) (mid : Int) (text : ByteArray) (a : Option Addr) (cap : Nat) (ps : List ZP) (vw vp : Value) (lo : Nat) (w : World) (hwn : WarnOK w vw hw id mid text) (hps : PeersOK w lo vp ps) (hin : PIn w a cap ps) (hs : ∀ p ∈ ps, Small p) (hl : ps.length ≤ 1048576) :
    Calls Try.prog 9 #[.agg (srow vw st vp).toArray, .int .i64 st, .bool hw, .string id, .int .u16 mid, .string text, .slice a ps.length cap] w fun e w' => e = .returned (.bool true) ∧ Below w.heap.size w w' := by
  obtain ⟨ao, cp, rfl, hat⟩ := hps.at
  replace hat := Hid.of hat
  obtain ⟨R, hR⟩ : ∃ R, R = (srow vw st (.slice ao ps.length cp)).toArray := ⟨_, rfl⟩
  have HR0 : Hid (R[0]? = some vw) := by rw [hR]; exact rfl
  have HR1 : Hid (R[1]? = some (.int .i64 st)) := by rw [hR]; exact rfl
  have HR5 : Hid (R[5]? = some (.slice ao ps.length cp)) := by rw [hR]; exact rfl
  rw [← hR]
  clear hR hps
  have q1 := toList_self id; have q2 := toList_self text
  rcases hwn with ⟨rfl, rfl⟩ | ⟨rfl, kw, cur, rfl, hk0, hk1, hk2, hk3⟩
  · go_enter Try.func9, Try.ntmps9
    go_upto_region 1 with fail
    have hcut : QSt w (w.alloc (.cells R 34)) R := ⟨(Below.refl _ _).alloc (Nat.le_refl _) _, by simp, heap_alloc_last w _⟩
    generalize w.alloc (.cells R 34) = wc at hcut ⊢
    have s0 := hcut.ac 0 _ HR0.out
    have s1 := hcut.ac 1 _ HR1.out
    have s5 := hcut.ac 5 _ HR5.out
    go_wp2
    clear s0 s1 s5
    go_loopw [15] (fun i w' => ∃ k : Nat, k ≤ ps.length ∧ i = .int .i64 k ∧ QSt w w' R) (fun i _ => ps.length - (intOf i).toNat)
    case atStart => exact ⟨0, Nat.zero_le _, rfl, hcut⟩
    case round =>
      obtain ⟨k, hk, rfl, hst⟩ := hrel
      have HST : Hid (QSt w wr R) := hst
      have zp := hst.ac 5 _ HR5.out
      have hsz := hst.sz
      clear hst hcut
      by_cases hlt : k < ps.length
      · obtain ⟨p, hpk⟩ : ∃ p, ps[k]? = some p := ⟨_, List.getElem?_eq_getElem hlt⟩
        obtain ⟨g, r, hg1, hlog, hg2, hg3, hok⟩ := hat.out k _ hpk
        obtain ⟨b, o, hb1, hb2, hb3⟩ := hin.isSome hpk
        have hmem := List.mem_of_getElem? hpk
        subst hg1
        subst hb1
        have ra := Below.range HST.out.bel hg3 hg2
        have rb := Below.range HST.out.bel hb3 hb2
        obtain ⟨c0, c1, c2, c3, c4, c5, c6, c7, c8, c9, c10, c11, c12, c13, rfl⟩ := list14 r hok.one.1
        obtain ⟨d0, d1, d2, d3, d4, d5, d6, d7, d8, d9, d10, d11, d12, d13, hd⟩ := list14 (zrow p) rfl
        rw [hd] at rb
        have HCI : Hid (∀ W : World, Below w.heap.size w W → Calls Try.prog 15 #[.agg #[c0, c1, c2, c3, c4, c5, c6, c7, c8, c9, c10, c11, c12, c13], .agg #[d0, d1, d2, d3, d4, d5, d6, d7, d8, d9, d10, d11, d12, d13]] W fun e w' => e = .returned (.bool true) ∧ Below W.heap.size W w') := fun W hW => by
          have h := PI p _ lo W (hok.kept (T := []) (Kept.of_below hW) (by unfold Outer; decide)) ((hin.ok p hmem).below hW (Nat.le_refl _)) (hs p hmem)
          rw [hd] at h
          exact h
        have HS : Hid (∀ W : World, Below wr.heap.size wr W → W.cell? ⟨w.heap.size, 5, none⟩ = some (.slice (some ⟨g, 0, none⟩) ps.length cp) ∧ W.cell? ⟨g, k * 14, none⟩ = some c0 ∧ W.cell? ⟨g, k * 14 + 1, none⟩ = some c1 ∧ W.cell? ⟨g, k * 14 + 2, none⟩ = some c2 ∧ W.cell? ⟨g, k * 14 + 3, none⟩ = some c3 ∧ W.cell? ⟨g, k * 14 + 4, none⟩ = some c4 ∧ W.cell? ⟨g, k * 14 + 5, none⟩ = some c5 ∧ W.cell? ⟨g, k * 14 + 6, none⟩ = some c6 ∧ W.cell? ⟨g, k * 14 + 7, none⟩ = some c7 ∧ W.cell? ⟨g, k * 14 + 8, none⟩ = some c8 ∧ W.cell? ⟨g, k * 14 + 9, none⟩ = some c9 ∧ W.cell? ⟨g, k * 14 + 10, none⟩ = some c10 ∧ W.cell? ⟨g, k * 14 + 11, none⟩ = some c11 ∧ W.cell? ⟨g, k * 14 + 12, none⟩ = some c12 ∧ W.cell? ⟨g, k * 14 + 13, none⟩ = some c13 ∧ W.cell? ⟨b, o + k * 14, none⟩ = some d0 ∧ W.cell? ⟨b, o + k * 14 + 1, none⟩ = some d1 ∧ W.cell? ⟨b, o + k * 14 + 2, none⟩ = some d2 ∧ W.cell? ⟨b, o + k * 14 + 3, none⟩ = some d3 ∧ W.cell? ⟨b, o + k * 14 + 4, none⟩ = some d4 ∧ W.cell? ⟨b, o + k * 14 + 5, none⟩ = some d5 ∧ W.cell? ⟨b, o + k * 14 + 6, none⟩ = some d6 ∧ W.cell? ⟨b, o + k * 14 + 7, none⟩ = some d7 ∧ W.cell? ⟨b, o + k * 14 + 8, none⟩ = some d8 ∧ W.cell? ⟨b, o + k * 14 + 9, none⟩ = some d9 ∧ W.cell? ⟨b, o + k * 14 + 10, none⟩ = some d10 ∧ W.cell? ⟨b, o + k * 14 + 11, none⟩ = some d11 ∧ W.cell? ⟨b, o + k * 14 + 12, none⟩ = some d12 ∧ W.cell? ⟨b, o + k * 14 + 13, none⟩ = some d13) := fun W hW => by
          have xa := Below.range hW ra (by omega)
          have xb := Below.range hW rb (by omega)
          exact ⟨(hW.cell (p := ⟨w.heap.size, 5, none⟩) (by show w.heap.size < wr.heap.size; omega)).trans zp, xa 0 _ rfl, xa 1 _ rfl, xa 2 _ rfl, xa 3 _ rfl, xa 4 _ rfl, xa 5 _ rfl, xa 6 _ rfl, xa 7 _ rfl, xa 8 _ rfl, xa 9 _ rfl, xa 10 _ rfl, xa 11 _ rfl, xa 12 _ rfl, xa 13 _ rfl, xb 0 _ rfl, xb 1 _ rfl, xb 2 _ rfl, xb 3 _ rfl, xb 4 _ rfl, xb 5 _ rfl, xb 6 _ rfl, xb 7 _ rfl, xb 8 _ rfl, xb 9 _ rfl, xb 10 _ rfl, xb 11 _ rfl, xb 12 _ rfl, xb 13 _ rfl⟩
        clear ra rb hg3 hb3 hpk hok hd hmem
        as_aux_lemma =>
        go_wp2
        go_region_held3 (fun W => W.cell? ⟨w.heap.size, 5, none⟩ = some (.slice (some ⟨g, 0, none⟩) ps.length cp) ∧ W.cell? ⟨g, k * 14, none⟩ = some c0 ∧ W.cell? ⟨g, k * 14 + 1, none⟩ = some c1 ∧ W.cell? ⟨g, k * 14 + 2, none⟩ = some c2 ∧ W.cell? ⟨g, k * 14 + 3, none⟩ = some c3 ∧ W.cell? ⟨g, k * 14 + 4, none⟩ = some c4 ∧ W.cell? ⟨g, k * 14 + 5, none⟩ = some c5 ∧ W.cell? ⟨g, k * 14 + 6, none⟩ = some c6 ∧ W.cell? ⟨g, k * 14 + 7, none⟩ = some c7 ∧ W.cell? ⟨g, k * 14 + 8, none⟩ = some c8 ∧ W.cell? ⟨g, k * 14 + 9, none⟩ = some c9 ∧ W.cell? ⟨g, k * 14 + 10, none⟩ = some c10 ∧ W.cell? ⟨g, k * 14 + 11, none⟩ = some c11 ∧ W.cell? ⟨g, k * 14 + 12, none⟩ = some c12 ∧ W.cell? ⟨g, k * 14 + 13, none⟩ = some c13 ∧ W.cell? ⟨b, o + k * 14, none⟩ = some d0 ∧ W.cell? ⟨b, o + k * 14 + 1, none⟩ = some d1 ∧ W.cell? ⟨b, o + k * 14 + 2, none⟩ = some d2 ∧ W.cell? ⟨b, o + k * 14 + 3, none⟩ = some d3 ∧ W.cell? ⟨b, o + k * 14 + 4, none⟩ = some d4 ∧ W.cell? ⟨b, o + k * 14 + 5, none⟩ = some d5 ∧ W.cell? ⟨b, o + k * 14 + 6, none⟩ = some d6 ∧ W.cell? ⟨b, o + k * 14 + 7, none⟩ = some d7 ∧ W.cell? ⟨b, o + k * 14 + 8, none⟩ = some d8 ∧ W.cell? ⟨b, o + k * 14 + 9, none⟩ = some d9 ∧ W.cell? ⟨b, o + k * 14 + 10, none⟩ = some d10 ∧ W.cell? ⟨b, o + k * 14 + 11, none⟩ = some d11 ∧ W.cell? ⟨b, o + k * 14 + 12, none⟩ = some d12 ∧ W.cell? ⟨b, o + k * 14 + 13, none⟩ = some d13) ((refine HS.out _ ?_; first | (with_reducible exact (Below.refl _ _).drew) | (with_reducible exact hbb))) ((go_at_call 15; refine (HCI.out _ HST.out.bel.drew).mono ?_; rintro e w' ⟨rfl, hbb⟩; replace hbb : Below wr.heap.size wr w' := ((Below.refl wr.heap.size wr).drew).trans hbb))
        rename_i hh
        clear hh HS
        go_wp2
        go_roundw
        case rel =>
          first
            | exact ⟨k + 1, by omega, by go_num, HST.out.below hbb⟩
            | (repeat apply Exists.intro
               exact ⟨⟨k + 1, by omega, by go_num, HST.out.below hbb⟩, rfl⟩)
        case measure => simp [intOf]; omega
      · have h := HST.out.bel
        go_wp2
        go_ret
        exact ⟨rfl, h⟩
  · have w0 : w.cell? ⟨kw, 0, none⟩ = some (.int .u16 mid) := (cell_of_row w kw 0 _ _ _ hk0).trans hk1
    have w3 : w.cell? ⟨kw, 3, none⟩ = some (.string text) := (cell_of_row w kw 3 _ _ _ hk0).trans hk2
    have w12 : w.cell? ⟨kw, 12, none⟩ = some (.string id) := (cell_of_row w kw 12 _ _ _ hk0).trans hk3
    have hkl := heap_lt hk0
    go_enter Try.func9, Try.ntmps9
    go_upto_region 1 with fail
    have hcut : QSt w (w.alloc (.cells R 34)) R := ⟨(Below.refl _ _).alloc (Nat.le_refl _) _, by simp, heap_alloc_last w _⟩
    generalize w.alloc (.cells R 34) = wc at hcut ⊢
    have s0 := hcut.ac 0 _ HR0.out
    have s1 := hcut.ac 1 _ HR1.out
    have s5 := hcut.ac 5 _ HR5.out
    replace w0 := (hcut.bel.cell (p := ⟨kw, 0, none⟩) hkl).trans w0
    replace w3 := (hcut.bel.cell (p := ⟨kw, 3, none⟩) hkl).trans w3
    replace w12 := (hcut.bel.cell (p := ⟨kw, 12, none⟩) hkl).trans w12
    clear hk0 hk1 hk2 hk3
    go_wp2
    clear s0 s1 s5 w0 w3 w12
    go_loopw [15] (fun i w' => ∃ k : Nat, k ≤ ps.length ∧ i = .int .i64 k ∧ QSt w w' R) (fun i _ => ps.length - (intOf i).toNat)
    case atStart => exact ⟨0, Nat.zero_le _, rfl, hcut⟩
    case round =>
      obtain ⟨k, hk, rfl, hst⟩ := hrel
      have HST : Hid (QSt w wr R) := hst
      have zp := hst.ac 5 _ HR5.out
      have hsz := hst.sz
      clear hst hcut
      by_cases hlt : k < ps.length
      · obtain ⟨p, hpk⟩ : ∃ p, ps[k]? = some p := ⟨_, List.getElem?_eq_getElem hlt⟩
        obtain ⟨g, r, hg1, hlog, hg2, hg3, hok⟩ := hat.out k _ hpk
        obtain ⟨b, o, hb1, hb2, hb3⟩ := hin.isSome hpk
        have hmem := List.mem_of_getElem? hpk
        subst hg1
        subst hb1
        have ra := Below.range HST.out.bel hg3 hg2
        have rb := Below.range HST.out.bel hb3 hb2
        obtain ⟨c0, c1, c2, c3, c4, c5, c6, c7, c8, c9, c10, c11, c12, c13, rfl⟩ := list14 r hok.one.1
        obtain ⟨d0, d1, d2, d3, d4, d5, d6, d7, d8, d9, d10, d11, d12, d13, hd⟩ := list14 (zrow p) rfl
        rw [hd] at rb
        have HCI : Hid (∀ W : World, Below w.heap.size w W → Calls Try.prog 15 #[.agg #[c0, c1, c2, c3, c4, c5, c6, c7, c8, c9, c10, c11, c12, c13], .agg #[d0, d1, d2, d3, d4, d5, d6, d7, d8, d9, d10, d11, d12, d13]] W fun e w' => e = .returned (.bool true) ∧ Below W.heap.size W w') := fun W hW => by
          have h := PI p _ lo W (hok.kept (T := []) (Kept.of_below hW) (by unfold Outer; decide)) ((hin.ok p hmem).below hW (Nat.le_refl _)) (hs p hmem)
          rw [hd] at h
          exact h
        have HS : Hid (∀ W : World, Below wr.heap.size wr W → W.cell? ⟨w.heap.size, 5, none⟩ = some (.slice (some ⟨g, 0, none⟩) ps.length cp) ∧ W.cell? ⟨g, k * 14, none⟩ = some c0 ∧ W.cell? ⟨g, k * 14 + 1, none⟩ = some c1 ∧ W.cell? ⟨g, k * 14 + 2, none⟩ = some c2 ∧ W.cell? ⟨g, k * 14 + 3, none⟩ = some c3 ∧ W.cell? ⟨g, k * 14 + 4, none⟩ = some c4 ∧ W.cell? ⟨g, k * 14 + 5, none⟩ = some c5 ∧ W.cell? ⟨g, k * 14 + 6, none⟩ = some c6 ∧ W.cell? ⟨g, k * 14 + 7, none⟩ = some c7 ∧ W.cell? ⟨g, k * 14 + 8, none⟩ = some c8 ∧ W.cell? ⟨g, k * 14 + 9, none⟩ = some c9 ∧ W.cell? ⟨g, k * 14 + 10, none⟩ = some c10 ∧ W.cell? ⟨g, k * 14 + 11, none⟩ = some c11 ∧ W.cell? ⟨g, k * 14 + 12, none⟩ = some c12 ∧ W.cell? ⟨g, k * 14 + 13, none⟩ = some c13 ∧ W.cell? ⟨b, o + k * 14, none⟩ = some d0 ∧ W.cell? ⟨b, o + k * 14 + 1, none⟩ = some d1 ∧ W.cell? ⟨b, o + k * 14 + 2, none⟩ = some d2 ∧ W.cell? ⟨b, o + k * 14 + 3, none⟩ = some d3 ∧ W.cell? ⟨b, o + k * 14 + 4, none⟩ = some d4 ∧ W.cell? ⟨b, o + k * 14 + 5, none⟩ = some d5 ∧ W.cell? ⟨b, o + k * 14 + 6, none⟩ = some d6 ∧ W.cell? ⟨b, o + k * 14 + 7, none⟩ = some d7 ∧ W.cell? ⟨b, o + k * 14 + 8, none⟩ = some d8 ∧ W.cell? ⟨b, o + k * 14 + 9, none⟩ = some d9 ∧ W.cell? ⟨b, o + k * 14 + 10, none⟩ = some d10 ∧ W.cell? ⟨b, o + k * 14 + 11, none⟩ = some d11 ∧ W.cell? ⟨b, o + k * 14 + 12, none⟩ = some d12 ∧ W.cell? ⟨b, o + k * 14 + 13, none⟩ = some d13) := fun W hW => by
          have xa := Below.range hW ra (by omega)
          have xb := Below.range hW rb (by omega)
          exact ⟨(hW.cell (p := ⟨w.heap.size, 5, none⟩) (by show w.heap.size < wr.heap.size; omega)).trans zp, xa 0 _ rfl, xa 1 _ rfl, xa 2 _ rfl, xa 3 _ rfl, xa 4 _ rfl, xa 5 _ rfl, xa 6 _ rfl, xa 7 _ rfl, xa 8 _ rfl, xa 9 _ rfl, xa 10 _ rfl, xa 11 _ rfl, xa 12 _ rfl, xa 13 _ rfl, xb 0 _ rfl, xb 1 _ rfl, xb 2 _ rfl, xb 3 _ rfl, xb 4 _ rfl, xb 5 _ rfl, xb 6 _ rfl, xb 7 _ rfl, xb 8 _ rfl, xb 9 _ rfl, xb 10 _ rfl, xb 11 _ rfl, xb 12 _ rfl, xb 13 _ rfl⟩
        clear ra rb hg3 hb3 hpk hok hd hmem
        as_aux_lemma =>
        go_wp2
        go_region_held3 (fun W => W.cell? ⟨w.heap.size, 5, none⟩ = some (.slice (some ⟨g, 0, none⟩) ps.length cp) ∧ W.cell? ⟨g, k * 14, none⟩ = some c0 ∧ W.cell? ⟨g, k * 14 + 1, none⟩ = some c1 ∧ W.cell? ⟨g, k * 14 + 2, none⟩ = some c2 ∧ W.cell? ⟨g, k * 14 + 3, none⟩ = some c3 ∧ W.cell? ⟨g, k * 14 + 4, none⟩ = some c4 ∧ W.cell? ⟨g, k * 14 + 5, none⟩ = some c5 ∧ W.cell? ⟨g, k * 14 + 6, none⟩ = some c6 ∧ W.cell? ⟨g, k * 14 + 7, none⟩ = some c7 ∧ W.cell? ⟨g, k * 14 + 8, none⟩ = some c8 ∧ W.cell? ⟨g, k * 14 + 9, none⟩ = some c9 ∧ W.cell? ⟨g, k * 14 + 10, none⟩ = some c10 ∧ W.cell? ⟨g, k * 14 + 11, none⟩ = some c11 ∧ W.cell? ⟨g, k * 14 + 12, none⟩ = some c12 ∧ W.cell? ⟨g, k * 14 + 13, none⟩ = some c13 ∧ W.cell? ⟨b, o + k * 14, none⟩ = some d0 ∧ W.cell? ⟨b, o + k * 14 + 1, none⟩ = some d1 ∧ W.cell? ⟨b, o + k * 14 + 2, none⟩ = some d2 ∧ W.cell? ⟨b, o + k * 14 + 3, none⟩ = some d3 ∧ W.cell? ⟨b, o + k * 14 + 4, none⟩ = some d4 ∧ W.cell? ⟨b, o + k * 14 + 5, none⟩ = some d5 ∧ W.cell? ⟨b, o + k * 14 + 6, none⟩ = some d6 ∧ W.cell? ⟨b, o + k * 14 + 7, none⟩ = some d7 ∧ W.cell? ⟨b, o + k * 14 + 8, none⟩ = some d8 ∧ W.cell? ⟨b, o + k * 14 + 9, none⟩ = some d9 ∧ W.cell? ⟨b, o + k * 14 + 10, none⟩ = some d10 ∧ W.cell? ⟨b, o + k * 14 + 11, none⟩ = some d11 ∧ W.cell? ⟨b, o + k * 14 + 12, none⟩ = some d12 ∧ W.cell? ⟨b, o + k * 14 + 13, none⟩ = some d13) ((refine HS.out _ ?_; first | (with_reducible exact (Below.refl _ _).drew) | (with_reducible exact hbb))) ((go_at_call 15; refine (HCI.out _ HST.out.bel.drew).mono ?_; rintro e w' ⟨rfl, hbb⟩; replace hbb : Below wr.heap.size wr w' := ((Below.refl wr.heap.size wr).drew).trans hbb))
        rename_i hh
        clear hh HS
        go_wp2
        go_roundw
        case rel =>
          first
            | exact ⟨k + 1, by omega, by go_num, HST.out.below hbb⟩
            | (repeat apply Exists.intro
               exact ⟨⟨k + 1, by omega, by go_num, HST.out.below hbb⟩, rfl⟩)
        case measure => simp [intOf]; omega
      · have h := HST.out.bel
        go_wp2
        go_ret
        exact ⟨rfl, h⟩
end Go.Proofs.Qxb6616460a

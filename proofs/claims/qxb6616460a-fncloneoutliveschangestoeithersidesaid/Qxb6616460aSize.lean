import Derived.Test.Qxb6616460aAdd
import Derived.Deep.CutBlock
namespace Go.Proofs.Qxb6616460a
open Go.RowKit
set_option linter.unusedVariables false

theorem InArr.at' {w : World} {ao : Option Addr} {K : Nat} {rows : List (List Value)} (h : InArr w ao K rows) {k : Nat} {r : List Value} (hr : rows[k]? = some r) : ∃ b o, ao = some ⟨b, o, none⟩ ∧ b < w.heap.size ∧ w.rangeAt b (o + k * K) r := by
  rcases h with rfl | ⟨b, o, h1, h2, h3⟩
  · simp at hr
  · exact ⟨b, o, h1, h2, fun j v hv => h3 k r hr j v hv⟩

set_option maxHeartbeats 4000000 in
set_option maxRecDepth 100000 in
theorem size_any (id text : ByteArray) (a : Option Addr) (cap : Nat) (ps : List ZP) (w : World) (hin : PIn w a cap ps) (hlen : ps.length ≤ maxLen) :
    Calls Try.prog 6 #[.string id, .string text, .slice a ps.length cap] w fun e w' => ∃ m : Nat, e = .returned (.int .i64 m) ∧ Below w.heap.size w w' ∧ Hid (m ≤ 1048576 → ps.length ≤ 1048576 ∧ ∀ p ∈ ps, Good p) := by
  have HM : Hid (Acc 0 0) := ⟨by omega, fun _ => Nat.le_refl _⟩
  have hlen' : (ps.length : Int) ≤ 9223372036854775807 := by unfold maxLen at hlen; omega
  go_enter Try.func6, Try.ntmps6
  go_wp2_with (go_at_call 12; refine (add_any _ _ _ (by omega)).mono ?_; rintro e w' ⟨m0, rfl, rfl, hm2⟩)
  clear HM
  go_loopw [7, 8] (fun n i w' => ∃ m k : Nat, k ≤ ps.length ∧ n = .int .i64 m ∧ i = .int .i64 k ∧ Below w.heap.size w w' ∧ Hid (m ≤ 2097152 ∧ (m ≤ 1048576 → k ≤ m ∧ ∀ (j : Nat) (p : ZP), j < k → ps[j]? = some p → Good p))) (fun _ i _ => ps.length - (intOf i).toNat)
  case atStart => exact ⟨m0, 0, Nat.zero_le _, rfl, rfl, Below.refl _ _, hm2.out.1, fun _ => ⟨Nat.zero_le _, fun j p hj => absurd hj (Nat.not_lt_zero _)⟩⟩
  case round =>
    clear hm2
    obtain ⟨M0, K0, hk0, rfl, rfl, hbel, HI0⟩ := hrel
    have HBel : Hid (Below w.heap.size w wr) := hbel
    clear hbel
    by_cases hlt0 : K0 < ps.length
    · by_cases hmm0 : (M0 : Int) ≤ 1048576
      · have hk20 : K0 ≤ 1048576 := by
          have h := HI0.out.2 (by omega)
          omega
        obtain ⟨p, hp⟩ : ∃ p, ps[K0]? = some p := ⟨_, List.getElem?_eq_getElem hlt0⟩
        obtain ⟨b, o, hb1, hb2, hb3⟩ := hin.isSome hp
        subst hb1
        have hb4 := Below.range HBel.out hb3 hb2
        have y0 : wr.cell? ⟨b, o + K0 * 14, none⟩ = some (.string p.peer) := hb4 0 _ rfl
        have y1 : wr.cell? ⟨b, o + K0 * 14 + 1, none⟩ = some (.int .i64 p.res) := hb4 1 _ rfl
        have y2 : wr.cell? ⟨b, o + K0 * 14 + 2, none⟩ = some (.slice p.a2 p.cells.length p.c2) := hb4 2 _ rfl
        have y3 : wr.cell? ⟨b, o + K0 * 14 + 3, none⟩ = some (.bool p.eu) := hb4 3 _ rfl
        have y4 : wr.cell? ⟨b, o + K0 * 14 + 4, none⟩ = some (.bool p.all) := hb4 4 _ rfl
        have y5 : wr.cell? ⟨b, o + K0 * 14 + 5, none⟩ = some (.string p.cause) := hb4 5 _ rfl
        have y6 : wr.cell? ⟨b, o + K0 * 14 + 6, none⟩ = some (.slice p.a6 p.tais.length p.c6) := hb4 6 _ rfl
        have y7 : wr.cell? ⟨b, o + K0 * 14 + 7, none⟩ = some (.bool p.so) := hb4 7 _ rfl
        have y8 : wr.cell? ⟨b, o + K0 * 14 + 8, none⟩ = some (.int .i64 p.sr) := hb4 8 _ rfl
        have y9 : wr.cell? ⟨b, o + K0 * 14 + 9, none⟩ = some (.string p.sc) := hb4 9 _ rfl
        have y10 : wr.cell? ⟨b, o + K0 * 14 + 10, none⟩ = some (.slice p.a10 p.sched.length p.c10) := hb4 10 _ rfl
        have y11 : wr.cell? ⟨b, o + K0 * 14 + 11, none⟩ = some (.slice p.a11 p.canc.length p.c11) := hb4 11 _ rfl
        have y12 : wr.cell? ⟨b, o + K0 * 14 + 12, none⟩ = some (.slice p.a12 p.enbs.length p.c12) := hb4 12 _ rfl
        have y13 : wr.cell? ⟨b, o + K0 * 14 + 13, none⟩ = some (.int .i64 p.rel) := hb4 13 _ rfl
        have HP : Hid (ps[K0]? = some p) := hp
        have HIN0 : Hid (InOK wr p) := (hin.ok p (List.mem_of_getElem? hp)).below HBel.out (Nat.le_refl _)
        clear hb3 hb4 hp
        go_upto_region 6 with fail
        have hX := heap_alloc_last wr (.cells #[.string p.peer, .int .i64 p.res, .slice p.a2 p.cells.length p.c2, .bool p.eu, .bool p.all, .string p.cause, .slice p.a6 p.tais.length p.c6, .bool p.so, .int .i64 p.sr, .string p.sc, .slice p.a10 p.sched.length p.c10, .slice p.a11 p.canc.length p.c11, .slice p.a12 p.enbs.length p.c12, .int .i64 p.rel] 54)
        have hbt : Below wr.heap.size wr (wr.alloc (.cells #[.string p.peer, .int .i64 p.res, .slice p.a2 p.cells.length p.c2, .bool p.eu, .bool p.all, .string p.cause, .slice p.a6 p.tais.length p.c6, .bool p.so, .int .i64 p.sr, .string p.sc, .slice p.a10 p.sched.length p.c10, .slice p.a11 p.canc.length p.c11, .slice p.a12 p.enbs.length p.c12, .int .i64 p.rel] 54)) := (Below.refl _ _).alloc (Nat.le_refl _) _
        clear y0 y1 y2 y3 y4 y5 y6 y7 y8 y9 y10 y11 y12 y13
        generalize wr.alloc (.cells #[.string p.peer, .int .i64 p.res, .slice p.a2 p.cells.length p.c2, .bool p.eu, .bool p.all, .string p.cause, .slice p.a6 p.tais.length p.c6, .bool p.so, .int .i64 p.sr, .string p.sc, .slice p.a10 p.sched.length p.c10, .slice p.a11 p.canc.length p.c11, .slice p.a12 p.enbs.length p.c12, .int .i64 p.rel] 54) = wt at hX hbt ⊢
        have HIN : Hid (InOK wt p) := HIN0.out.below hbt (Nat.le_refl _)
        have HBT : Hid (Below w.heap.size w wt) := HBel.out.trans (hbt.mono HBel.out.size)
        have z0 : wt.cell? ⟨wr.heap.size, 0, none⟩ = some (.string p.peer) := cell_of_row _ _ 0 _ _ _ hX
        have z5 : wt.cell? ⟨wr.heap.size, 5, none⟩ = some (.string p.cause) := cell_of_row _ _ 5 _ _ _ hX
        have z9 : wt.cell? ⟨wr.heap.size, 9, none⟩ = some (.string p.sc) := cell_of_row _ _ 9 _ _ _ hX
        have z2 : wt.cell? ⟨wr.heap.size, 2, none⟩ = some (.slice p.a2 p.cells.length p.c2) := cell_of_row _ _ 2 _ _ _ hX
        have z6 : wt.cell? ⟨wr.heap.size, 6, none⟩ = some (.slice p.a6 p.tais.length p.c6) := cell_of_row _ _ 6 _ _ _ hX
        have z10 : wt.cell? ⟨wr.heap.size, 10, none⟩ = some (.slice p.a10 p.sched.length p.c10) := cell_of_row _ _ 10 _ _ _ hX
        have z11 : wt.cell? ⟨wr.heap.size, 11, none⟩ = some (.slice p.a11 p.canc.length p.c11) := cell_of_row _ _ 11 _ _ _ hX
        have z12 : wt.cell? ⟨wr.heap.size, 12, none⟩ = some (.slice p.a12 p.enbs.length p.c12) := cell_of_row _ _ 12 _ _ _ hX
        have HM : Hid (Acc M0 M0) := ⟨HI0.out.1, fun _ => Nat.le_refl _⟩
        clear hX hbt HIN0
        go_upto_block 2 with (go_at_call 12; refine (add_any _ _ _ (by omega)).mono ?_; rintro e w' ⟨q0, rfl, rfl, hm2⟩; replace HM := Acc.step HM hm2; clear hm2)
        have HQ0 : Hid (q0 ≤ 2097152 ∧ (q0 ≤ 1048576 → M0 + 256 ≤ q0 ∧ p.cause.size ≤ 1048576)) := by
          obtain ⟨h1, h2⟩ := HM.out
          simp only [Int.toNat_natCast, Int.reduceToNat] at h2
          exact ⟨h1, fun h => by have := h2 h; omega⟩
        clear HM z0 z5 z9
        go_cut [7] (fun n w' => wt = w' ∧ ∃ m' : Nat, n = .int .i64 m' ∧ Hid (m' ≤ 2097152 ∧ (m' ≤ 1048576 → q0 ≤ m' ∧ p.cells.length ≤ 1048576 ∧ ∀ c ∈ p.cells, c.cause.size ≤ 1048576)))
        case first => as_aux_lemma =>
          go_wp2
          go_loopw [7, 10] (fun n i w' => wt = w' ∧ ∃ m' k : Nat, k ≤ p.cells.length ∧ n = .int .i64 m' ∧ i = .int .i64 k ∧ Hid (m' ≤ 2097152 ∧ (m' ≤ 1048576 → q0 + k ≤ m' ∧ ∀ (j : Nat) (c : ZC), j < k → p.cells[j]? = some c → c.cause.size ≤ 1048576))) (fun _ i _ => p.cells.length - (intOf i).toNat)
          case atStart => exact ⟨rfl, q0, 0, Nat.zero_le _, rfl, rfl, HQ0.out.1, fun _ => ⟨Nat.le_refl _, fun j c hj => absurd hj (Nat.not_lt_zero _)⟩⟩
          case round =>
            obtain ⟨rfl, m', k, hk, rfl, rfl, HI⟩ := hrel
            by_cases hlt : k < p.cells.length
            · by_cases hmm : (m' : Int) ≤ 1048576
              · have hk20 : k ≤ 1048576 := by
                  have h := HI.out.2 (by omega)
                  omega
                obtain ⟨z, hz⟩ : ∃ z, p.cells[k]? = some z := ⟨_, List.getElem?_eq_getElem hlt⟩
                have hzr : (p.cells.map ZC.row)[k]? = some z.row := by simp [hz]
                obtain ⟨b, o, hb1, hb2, hb3⟩ := HIN.out.i2.at' hzr
                rw [hb1] at z2
                have y0 : wt.cell? ⟨b, o + k * 9, none⟩ = some (.string z.mcc) := hb3 0 _ rfl
                have y1 : wt.cell? ⟨b, o + k * 9 + 1, none⟩ = some (.string z.mnc) := hb3 1 _ rfl
                have y5 : wt.cell? ⟨b, o + k * 9 + 5, none⟩ = some (.string z.cause) := hb3 5 _ rfl
                have HZ : Hid (p.cells[k]? = some z) := hz
                clear hb3 hzr hb1 hz
                clear HIN
                have HM : Hid (Acc m' m') := ⟨HI.out.1, fun _ => Nat.le_refl _⟩
                go_wp2_with (go_at_call 12; refine (add_any _ _ _ (by omega)).mono ?_; rintro e w' ⟨m2, rfl, rfl, hm2⟩; replace HM := Acc.step HM hm2; clear hm2)
                go_roundw
                case rel =>
                  obtain ⟨h1, h2⟩ := HI.out
                  obtain ⟨h3, h4⟩ := HM.out
                  simp only [Int.toNat_natCast, Int.reduceToNat] at h4
                  have h5 : ∀ m2 : Nat, (m2 ≤ 1048576 → m' + 64 + z.mcc.size + z.mnc.size + z.cause.size ≤ m2) → m2 ≤ 1048576 → q0 + (k + 1) ≤ m2 ∧ ∀ (j : Nat) (c : ZC), j < k + 1 → p.cells[j]? = some c → c.cause.size ≤ 1048576 := fun m2 h4 hm => by
                    have h6 := h4 hm
                    have h7 := h2 (by omega)
                    refine ⟨by omega, fun j c hj hc => ?_⟩
                    by_cases hjk : j < k
                    · exact h7.2 j c hjk hc
                    · obtain rfl : j = k := by omega
                      have := HZ.out
                      rw [hc] at this
                      cases this
                      omega
                  first
                    | exact ⟨by trivial, _, k + 1, by omega, rfl, by go_num, h3, h5 _ h4⟩
                    | (repeat apply Exists.intro
                       exact ⟨⟨by trivial, _, k + 1, by omega, rfl, by go_num, h3, h5 _ h4⟩, rfl⟩)
                case measure => simp [intOf]; omega
              · go_wp2
                go_meet
                case rel => exact ⟨rfl, m', rfl, HI.out.1, fun h => by exfalso; omega⟩
            · by_cases hmm : (m' : Int) ≤ 1048576
              all_goals
                go_wp2
                go_meet
                case rel =>
                  obtain ⟨h1, h2⟩ := HI.out
                  refine ⟨rfl, m', rfl, h1, fun h => ?_⟩
                  have h3 := h2 h
                  refine ⟨by omega, by omega, fun c hc => ?_⟩
                  obtain ⟨j, hj, rfl⟩ := List.getElem_of_mem hc
                  exact h3.2 j _ (by omega) (List.getElem?_eq_getElem hj)
        case rest =>
          obtain ⟨rfl, q1, rfl, HQ1⟩ := hcut
          go_upto_block 4 with fail
          go_cut [7] (fun n w' => wt = w' ∧ ∃ m' : Nat, n = .int .i64 m' ∧ Hid (m' ≤ 2097152 ∧ (m' ≤ 1048576 → q1 ≤ m' ∧ p.tais.length ≤ 1048576)))
          case first => as_aux_lemma =>
            go_wp2
            go_loopw [7, 11] (fun n i w' => wt = w' ∧ ∃ m' k : Nat, k ≤ p.tais.length ∧ n = .int .i64 m' ∧ i = .int .i64 k ∧ Hid (m' ≤ 2097152 ∧ (m' ≤ 1048576 → q1 + k ≤ m'))) (fun _ i _ => p.tais.length - (intOf i).toNat)
            case atStart => exact ⟨rfl, q1, 0, Nat.zero_le _, rfl, rfl, HQ1.out.1, fun _ => Nat.le_refl _⟩
            case round =>
              obtain ⟨rfl, m', k, hk, rfl, rfl, HI⟩ := hrel
              by_cases hlt : k < p.tais.length
              · by_cases hmm : (m' : Int) ≤ 1048576
                · have hk20 : k ≤ 1048576 := by
                    have h := HI.out.2 (by omega)
                    omega
                  obtain ⟨r, hr⟩ : ∃ r, p.tais[k]? = some r := ⟨_, List.getElem?_eq_getElem hlt⟩
                  obtain ⟨ma, mb, mx, rfl⟩ := HIN.out.k6 r (List.mem_of_getElem? hr)
                  obtain ⟨b, o, hb1, hb2, hb3⟩ := HIN.out.i6.at' hr
                  rw [hb1] at z6
                  have y0 : wt.cell? ⟨b, o + k * 3, none⟩ = some (.string ma) := hb3 0 _ rfl
                  have y1 : wt.cell? ⟨b, o + k * 3 + 1, none⟩ = some (.string mb) := hb3 1 _ rfl
                  clear hb3 hr hb1
                  clear HIN
                  have HM : Hid (Acc m' m') := ⟨HI.out.1, fun _ => Nat.le_refl _⟩
                  go_wp2_with (go_at_call 12; refine (add_any _ _ _ (by omega)).mono ?_; rintro e w' ⟨m2, rfl, rfl, hm2⟩; replace HM := Acc.step HM hm2; clear hm2)
                  go_roundw
                  case rel =>
                    obtain ⟨h1, h2⟩ := HI.out
                    obtain ⟨h3, h4⟩ := HM.out
                    simp only [Int.toNat_natCast, Int.reduceToNat] at h4
                    have h5 : ∀ m2 : Nat, (m2 ≤ 1048576 → m' + 32 + ma.size + mb.size ≤ m2) → m2 ≤ 1048576 → q1 + (k + 1) ≤ m2 := fun m2 h4 hm => by
                      have h6 := h4 hm
                      have h7 := h2 (by omega)
                      omega
                    first
                      | exact ⟨by trivial, _, k + 1, by omega, rfl, by go_num, h3, h5 _ h4⟩
                      | (repeat apply Exists.intro
                         exact ⟨⟨by trivial, _, k + 1, by omega, rfl, by go_num, h3, h5 _ h4⟩, rfl⟩)
                  case measure => simp [intOf]; omega
                · go_wp2
                  go_meet
                  case rel => exact ⟨rfl, m', rfl, HI.out.1, fun h => by exfalso; omega⟩
              · by_cases hmm : (m' : Int) ≤ 1048576
                all_goals
                  go_wp2
                  go_meet
                  case rel =>
                    obtain ⟨h1, h2⟩ := HI.out
                    refine ⟨rfl, m', rfl, h1, fun h => ?_⟩
                    have h3 := h2 h
                    exact ⟨by omega, by omega⟩
          case rest =>
            obtain ⟨rfl, q2, rfl, HQ2⟩ := hcut
            go_upto_block 6 with fail
            go_cut [7] (fun n w' => wt = w' ∧ ∃ m' : Nat, n = .int .i64 m' ∧ Hid (m' ≤ 2097152 ∧ (m' ≤ 1048576 → q2 ≤ m' ∧ p.sched.length ≤ 1048576)))
            case first => as_aux_lemma =>
              go_wp2
              go_loopw [7, 12] (fun n i w' => wt = w' ∧ ∃ m' k : Nat, k ≤ p.sched.length ∧ n = .int .i64 m' ∧ i = .int .i64 k ∧ Hid (m' ≤ 2097152 ∧ (m' ≤ 1048576 → q2 + k ≤ m'))) (fun _ i _ => p.sched.length - (intOf i).toNat)
              case atStart => exact ⟨rfl, q2, 0, Nat.zero_le _, rfl, rfl, HQ2.out.1, fun _ => Nat.le_refl _⟩
              case round =>
                obtain ⟨rfl, m', k, hk, rfl, rfl, HI⟩ := hrel
                by_cases hlt : k < p.sched.length
                · by_cases hmm : (m' : Int) ≤ 1048576
                  · have hk20 : k ≤ 1048576 := by
                      have h := HI.out.2 (by omega)
                      omega
                    obtain ⟨r, hr⟩ : ∃ r, p.sched[k]? = some r := ⟨_, List.getElem?_eq_getElem hlt⟩
                    obtain ⟨ma, mb, mx, rfl⟩ := HIN.out.k10 r (List.mem_of_getElem? hr)
                    obtain ⟨b, o, hb1, hb2, hb3⟩ := HIN.out.i10.at' hr
                    rw [hb1] at z10
                    have y0 : wt.cell? ⟨b, o + k * 3, none⟩ = some (.string ma) := hb3 0 _ rfl
                    have y1 : wt.cell? ⟨b, o + k * 3 + 1, none⟩ = some (.string mb) := hb3 1 _ rfl
                    clear hb3 hr hb1
                    clear HIN
                    have HM : Hid (Acc m' m') := ⟨HI.out.1, fun _ => Nat.le_refl _⟩
                    go_wp2_with (go_at_call 12; refine (add_any _ _ _ (by omega)).mono ?_; rintro e w' ⟨m2, rfl, rfl, hm2⟩; replace HM := Acc.step HM hm2; clear hm2)
                    go_roundw
                    case rel =>
                      obtain ⟨h1, h2⟩ := HI.out
                      obtain ⟨h3, h4⟩ := HM.out
                      simp only [Int.toNat_natCast, Int.reduceToNat] at h4
                      have h5 : ∀ m2 : Nat, (m2 ≤ 1048576 → m' + 32 + ma.size + mb.size ≤ m2) → m2 ≤ 1048576 → q2 + (k + 1) ≤ m2 := fun m2 h4 hm => by
                        have h6 := h4 hm
                        have h7 := h2 (by omega)
                        omega
                      first
                        | exact ⟨by trivial, _, k + 1, by omega, rfl, by go_num, h3, h5 _ h4⟩
                        | (repeat apply Exists.intro
                           exact ⟨⟨by trivial, _, k + 1, by omega, rfl, by go_num, h3, h5 _ h4⟩, rfl⟩)
                    case measure => simp [intOf]; omega
                  · go_wp2
                    go_meet
                    case rel => exact ⟨rfl, m', rfl, HI.out.1, fun h => by exfalso; omega⟩
                · by_cases hmm : (m' : Int) ≤ 1048576
                  all_goals
                    go_wp2
                    go_meet
                    case rel =>
                      obtain ⟨h1, h2⟩ := HI.out
                      refine ⟨rfl, m', rfl, h1, fun h => ?_⟩
                      have h3 := h2 h
                      exact ⟨by omega, by omega⟩
            case rest =>
              obtain ⟨rfl, q3, rfl, HQ3⟩ := hcut
              go_upto_block 8 with fail
              go_cut [7] (fun n w' => wt = w' ∧ ∃ m' : Nat, n = .int .i64 m' ∧ Hid (m' ≤ 2097152 ∧ (m' ≤ 1048576 → q3 ≤ m' ∧ p.canc.length ≤ 1048576)))
              case first => as_aux_lemma =>
                go_wp2
                go_loopw [7, 13] (fun n i w' => wt = w' ∧ ∃ m' k : Nat, k ≤ p.canc.length ∧ n = .int .i64 m' ∧ i = .int .i64 k ∧ Hid (m' ≤ 2097152 ∧ (m' ≤ 1048576 → q3 + k ≤ m'))) (fun _ i _ => p.canc.length - (intOf i).toNat)
                case atStart => exact ⟨rfl, q3, 0, Nat.zero_le _, rfl, rfl, HQ3.out.1, fun _ => Nat.le_refl _⟩
                case round =>
                  obtain ⟨rfl, m', k, hk, rfl, rfl, HI⟩ := hrel
                  by_cases hlt : k < p.canc.length
                  · by_cases hmm : (m' : Int) ≤ 1048576
                    · have hk20 : k ≤ 1048576 := by
                        have h := HI.out.2 (by omega)
                        omega
                      obtain ⟨r, hr⟩ : ∃ r, p.canc[k]? = some r := ⟨_, List.getElem?_eq_getElem hlt⟩
                      obtain ⟨ma, mb, mx, my, rfl⟩ := HIN.out.k11 r (List.mem_of_getElem? hr)
                      obtain ⟨b, o, hb1, hb2, hb3⟩ := HIN.out.i11.at' hr
                      rw [hb1] at z11
                      have y0 : wt.cell? ⟨b, o + k * 4, none⟩ = some (.string ma) := hb3 0 _ rfl
                      have y1 : wt.cell? ⟨b, o + k * 4 + 1, none⟩ = some (.string mb) := hb3 1 _ rfl
                      clear hb3 hr hb1
                      clear HIN
                      have HM : Hid (Acc m' m') := ⟨HI.out.1, fun _ => Nat.le_refl _⟩
                      go_wp2_with (go_at_call 12; refine (add_any _ _ _ (by omega)).mono ?_; rintro e w' ⟨m2, rfl, rfl, hm2⟩; replace HM := Acc.step HM hm2; clear hm2)
                      go_roundw
                      case rel =>
                        obtain ⟨h1, h2⟩ := HI.out
                        obtain ⟨h3, h4⟩ := HM.out
                        simp only [Int.toNat_natCast, Int.reduceToNat] at h4
                        have h5 : ∀ m2 : Nat, (m2 ≤ 1048576 → m' + 32 + ma.size + mb.size ≤ m2) → m2 ≤ 1048576 → q3 + (k + 1) ≤ m2 := fun m2 h4 hm => by
                          have h6 := h4 hm
                          have h7 := h2 (by omega)
                          omega
                        first
                          | exact ⟨by trivial, _, k + 1, by omega, rfl, by go_num, h3, h5 _ h4⟩
                          | (repeat apply Exists.intro
                             exact ⟨⟨by trivial, _, k + 1, by omega, rfl, by go_num, h3, h5 _ h4⟩, rfl⟩)
                      case measure => simp [intOf]; omega
                    · go_wp2
                      go_meet
                      case rel => exact ⟨rfl, m', rfl, HI.out.1, fun h => by exfalso; omega⟩
                  · by_cases hmm : (m' : Int) ≤ 1048576
                    all_goals
                      go_wp2
                      go_meet
                      case rel =>
                        obtain ⟨h1, h2⟩ := HI.out
                        refine ⟨rfl, m', rfl, h1, fun h => ?_⟩
                        have h3 := h2 h
                        exact ⟨by omega, by omega⟩
              case rest =>
                obtain ⟨rfl, q4, rfl, HQ4⟩ := hcut
                go_upto_block 10 with fail
                have HG : Hid (∀ q5 : Nat, (q5 ≤ 1048576 → q4 ≤ q5 ∧ p.enbs.length ≤ 1048576) → q5 ≤ 1048576 → K0 + 1 ≤ q5 ∧ ∀ (j : Nat) (p : ZP), j < K0 + 1 → ps[j]? = some p → Good p) := fun q5 h5 h => by
                  obtain ⟨a5, b5⟩ := h5 h
                  obtain ⟨_, h4⟩ := HQ4.out
                  obtain ⟨a4, b4⟩ := h4 (by omega)
                  obtain ⟨_, h3⟩ := HQ3.out
                  obtain ⟨a3, b3⟩ := h3 (by omega)
                  obtain ⟨_, h2⟩ := HQ2.out
                  obtain ⟨a2, b2⟩ := h2 (by omega)
                  obtain ⟨_, h1⟩ := HQ1.out
                  obtain ⟨a1, b1, c1⟩ := h1 (by omega)
                  obtain ⟨_, h0⟩ := HQ0.out
                  obtain ⟨a0, b0⟩ := h0 (by omega)
                  obtain ⟨_, hi⟩ := HI0.out
                  obtain ⟨ai, bi⟩ := hi (by omega)
                  refine ⟨by omega, fun j p' hj hp' => ?_⟩
                  by_cases hjk : j < K0
                  · exact bi j p' hjk hp'
                  · obtain rfl : j = K0 := by omega
                    have := HP.out
                    rw [hp'] at this
                    cases this
                    exact ⟨⟨b1, b2, b3, b4, b5⟩, b0, c1⟩
                go_wp2
                go_loopw [7, 14] (fun n i w' => wt = w' ∧ ∃ m' k : Nat, k ≤ p.enbs.length ∧ n = .int .i64 m' ∧ i = .int .i64 k ∧ Hid (m' ≤ 2097152 ∧ (m' ≤ 1048576 → q4 + k ≤ m'))) (fun _ i _ => p.enbs.length - (intOf i).toNat)
                case atStart => exact ⟨rfl, q4, 0, Nat.zero_le _, rfl, rfl, HQ4.out.1, fun _ => Nat.le_refl _⟩
                case round =>
                  obtain ⟨rfl, m', k, hk, rfl, rfl, HI⟩ := hrel
                  by_cases hlt : k < p.enbs.length
                  · by_cases hmm : (m' : Int) ≤ 1048576
                    · have hk20 : k ≤ 1048576 := by
                        have h := HI.out.2 (by omega)
                        omega
                      obtain ⟨r, hr⟩ : ∃ r, p.enbs[k]? = some r := ⟨_, List.getElem?_eq_getElem hlt⟩
                      obtain ⟨ma, mb, mx, my, rfl⟩ := HIN.out.k12 r (List.mem_of_getElem? hr)
                      obtain ⟨b, o, hb1, hb2, hb3⟩ := HIN.out.i12.at' hr
                      rw [hb1] at z12
                      have y0 : wt.cell? ⟨b, o + k * 4, none⟩ = some (.string ma) := hb3 0 _ rfl
                      have y1 : wt.cell? ⟨b, o + k * 4 + 1, none⟩ = some (.string mb) := hb3 1 _ rfl
                      clear hb3 hr hb1
                      clear HIN
                      have HM : Hid (Acc m' m') := ⟨HI.out.1, fun _ => Nat.le_refl _⟩
                      go_wp2_with (go_at_call 12; refine (add_any _ _ _ (by omega)).mono ?_; rintro e w' ⟨m2, rfl, rfl, hm2⟩; replace HM := Acc.step HM hm2; clear hm2)
                      go_roundw
                      case rel =>
                        obtain ⟨h1, h2⟩ := HI.out
                        obtain ⟨h3, h4⟩ := HM.out
                        simp only [Int.toNat_natCast, Int.reduceToNat] at h4
                        have h5 : ∀ m2 : Nat, (m2 ≤ 1048576 → m' + 32 + ma.size + mb.size ≤ m2) → m2 ≤ 1048576 → q4 + (k + 1) ≤ m2 := fun m2 h4 hm => by
                          have h6 := h4 hm
                          have h7 := h2 (by omega)
                          omega
                        first
                          | exact ⟨by trivial, _, k + 1, by omega, rfl, by go_num, h3, h5 _ h4⟩
                          | (repeat apply Exists.intro
                             exact ⟨⟨by trivial, _, k + 1, by omega, rfl, by go_num, h3, h5 _ h4⟩, rfl⟩)
                      case measure => simp [intOf]; omega
                    · go_wp2
                      go_roundw
                      case rel =>
                        obtain ⟨h1, h2⟩ := HI.out
                        have hG := HG.out m' (fun h => by exfalso; omega)
                        first
                          | exact ⟨m', K0 + 1, by omega, rfl, by go_num, HBT.out, h1, hG⟩
                          | (repeat apply Exists.intro
                             exact ⟨⟨m', K0 + 1, by omega, rfl, by go_num, HBT.out, h1, hG⟩, rfl⟩)
                      case measure => simp [intOf]; omega
                  · by_cases hmm : (m' : Int) ≤ 1048576
                    all_goals
                      go_wp2
                      go_roundw
                      case rel =>
                        obtain ⟨h1, h2⟩ := HI.out
                        have hG := HG.out m' (fun h => by have h3 := h2 h; exact ⟨by omega, by omega⟩)
                        first
                          | exact ⟨m', K0 + 1, by omega, rfl, by go_num, HBT.out, h1, hG⟩
                          | (repeat apply Exists.intro
                             exact ⟨⟨m', K0 + 1, by omega, rfl, by go_num, HBT.out, h1, hG⟩, rfl⟩)
                      case measure => simp [intOf]; omega
      · have hbel := HBel.out
        go_wp2
        go_ret
        exact ⟨M0, rfl, hbel, fun h => by exfalso; omega⟩
    · by_cases hmm0 : (M0 : Int) ≤ 1048576
      all_goals
        have hbel := HBel.out
        go_wp2
        go_ret
        refine ⟨M0, rfl, hbel, fun h => ?_⟩
        obtain ⟨h1, h2⟩ := HI0.out
        have h3 := h2 h
        refine ⟨by omega, fun p hp => ?_⟩
        obtain ⟨j, hj, rfl⟩ := List.getElem_of_mem hp
        exact h3.2 j _ (by omega) (List.getElem?_eq_getElem hj)
end Go.Proofs.Qxb6616460a

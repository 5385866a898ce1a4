import Derived.Test.Qxb6616460aFrameL
namespace Go.Proofs.Qxb6616460a
open Go.RowKit
set_option linter.unusedVariables false
namespace BA
theorem Hid.keep {p : Prop} (h : p) : Hid p := h

set_option maxHeartbeats 60000000 in
set_option maxRecDepth 100000 in
theorem bytes_at (st : Int) (hw : Bool) (id : ByteArray) (mid : Int) (text : ByteArray) (a : Option Addr) (cap : Nat) (ps : List ZP) (w : World) (hin : PIn w a cap ps) (hlen : ps.length ≤ maxLen) :
    Calls Try.prog 5 #[.int .i64 st, .bool hw, .string id, .int .u16 mid, .string text, .slice a ps.length cap] w fun e w' => IsBool e ∧ w = w' := by
  have hlen' : (ps.length : Int) ≤ 9223372036854775807 := by unfold maxLen at hlen; omega
  go_enter Try.func5, Try.ntmps5
  go_upto_block 0 with fail
  any_goals (go_ret; exact ⟨IsBool.mk rfl, rfl⟩)
  go_wp2
  refine wp_loop_met (FrI w st hw id mid text a ps.length cap 8 ps.length) (left ps.length 8) (FrI.mk (id.size + text.size + ps.length) 0 (by kernel_rfl) (Nat.zero_le _) (by omega) (by kernel_rfl) (by kernel_rfl)) ?_
  intro x0 w0 hI J0 K0' hJ0 hK0
  obtain ⟨l0, Z0, K0, hl0, hk0, hz0, rfl, h13, h14, rfl⟩ := hI
  replace hJ0 := Hid.keep hJ0
  have H14 : Hid (G l0 8 = .int .i64 K0) := h14
  have hlit0 := list508 l0 hl0
  rw [h13, h14] at hlit0
  unfold Fr
  rw [hlit0]
  replace hlit0 := Hid.keep hlit0
  replace hl0 := Hid.keep hl0
  by_cases hlt0 : K0 < ps.length
  · obtain ⟨p, hp⟩ : ∃ p, ps[K0]? = some p := ⟨_, List.getElem?_eq_getElem hlt0⟩
    obtain ⟨b, o, hb1, hb2, hb3⟩ := hin.isSome hp
    subst hb1
    have y0 : w.cell? ⟨b, o + K0 * 14, none⟩ = some (.string p.peer) := hb3 0 _ rfl
    have y2 : w.cell? ⟨b, o + K0 * 14 + 2, none⟩ = some (.slice p.a2 p.cells.length p.c2) := hb3 2 _ rfl
    have y5 : w.cell? ⟨b, o + K0 * 14 + 5, none⟩ = some (.string p.cause) := hb3 5 _ rfl
    have y6 : w.cell? ⟨b, o + K0 * 14 + 6, none⟩ = some (.slice p.a6 p.tais.length p.c6) := hb3 6 _ rfl
    have y9 : w.cell? ⟨b, o + K0 * 14 + 9, none⟩ = some (.string p.sc) := hb3 9 _ rfl
    have y10 : w.cell? ⟨b, o + K0 * 14 + 10, none⟩ = some (.slice p.a10 p.sched.length p.c10) := hb3 10 _ rfl
    have y11 : w.cell? ⟨b, o + K0 * 14 + 11, none⟩ = some (.slice p.a11 p.canc.length p.c11) := hb3 11 _ rfl
    have y12 : w.cell? ⟨b, o + K0 * 14 + 12, none⟩ = some (.slice p.a12 p.enbs.length p.c12) := hb3 12 _ rfl
    have HIN : Hid (InOK w p) := hin.ok p (List.mem_of_getElem? hp)
    clear hb3 hp h13 h14
    go_upto_block 2 with fail
    any_goals (go_ret; exact ⟨IsBool.mk rfl, rfl⟩)
    refine wp_cut (FrC w st hw id mid text (some ⟨b, o, none⟩) ps.length cap K0) ?rest ?first
    case first =>
      intro J K' hJ hK'
      replace hJ := Hid.keep hJ
      as_aux_lemma =>
      go_wp2
      refine wp_loop_met (FrJ w st hw id mid text (some ⟨b, o, none⟩) ps.length cap K0 9 p.cells.length) (left p.cells.length 9) (FrJ.mk (Z0 + p.peer.size + p.cells.length) 0 (by kernel_rfl) (Nat.zero_le _) (by omega) (by kernel_rfl) (by kernel_rfl) (by kernel_rfl)) ?_
      intro x1 w1 hI J1 K1 hJ1 hK1
      obtain ⟨l, z, k, hll, hk, hz, rfl, h13, h14, h15, rfl⟩ := hI
      replace hJ1 := Hid.keep hJ1
      have hlit := list508 l hll
      rw [h13, h14, h15] at hlit
      unfold Fr
      rw [hlit]
      replace hlit := Hid.keep hlit
      replace hll := Hid.keep hll
      by_cases hlt : k < p.cells.length
      · obtain ⟨zc, hzc⟩ : ∃ zc, p.cells[k]? = some zc := ⟨_, List.getElem?_eq_getElem hlt⟩
        have hzr : (p.cells.map ZC.row)[k]? = some zc.row := by simp [hzc]
        obtain ⟨b2, o2, hb1, hb2, hb3⟩ := HIN.out.i2.at2 hzr
        rw [hb1] at y2
        have x0 : w.cell? ⟨b2, o2 + k * 9, none⟩ = some (.string zc.mcc) := hb3 0 _ rfl
        have x1 : w.cell? ⟨b2, o2 + k * 9 + 1, none⟩ = some (.string zc.mnc) := hb3 1 _ rfl
        have x5 : w.cell? ⟨b2, o2 + k * 9 + 5, none⟩ = some (.string zc.cause) := hb3 5 _ rfl
        clear hb3 hzr hb1 hzc
        go_wp2
        any_goals (go_ret; exact ⟨IsBool.mk rfl, rfl⟩)
        exact Met.intro (hJ1.out _ _ (FrJ.mk (z + zc.mcc.size + zc.mnc.size + zc.cause.size) (k + 1) (by kernel_rfl) (by omega) (by omega) (by kernel_rfl) (by kernel_rfl) (by kernel_rfl)) (left_lt (k := k) h15 (by kernel_rfl) hlt))
      · go_wp2
        exact Met.intro (hJ.out _ _ (FrC.mk z (by kernel_rfl) hz (by kernel_rfl) (by kernel_rfl)))
    case rest =>
      intro x2 w2 hcut
      obtain ⟨l1, Z1, hl1, hz1, rfl, h13, h14, rfl⟩ := hcut
      have hlit := list508 l1 hl1
      rw [h13, h14] at hlit
      unfold Fr
      rw [hlit]
      clear h13 h14 hlit hl1
      go_upto_block 4 with fail
      any_goals (go_ret; exact ⟨IsBool.mk rfl, rfl⟩)
      refine wp_cut (FrC w st hw id mid text (some ⟨b, o, none⟩) ps.length cap K0) ?rest ?first
      case first =>
        intro J K' hJ hK'
        replace hJ := Hid.keep hJ
        as_aux_lemma =>
        go_wp2
        refine wp_loop_met (FrJ w st hw id mid text (some ⟨b, o, none⟩) ps.length cap K0 10 p.tais.length) (left p.tais.length 10) (FrJ.mk (Z1 + p.cause.size + p.tais.length) 0 (by kernel_rfl) (Nat.zero_le _) (by omega) (by kernel_rfl) (by kernel_rfl) (by kernel_rfl)) ?_
        intro x1 w1 hI J1 K1 hJ1 hK1
        obtain ⟨l, z, k, hll, hk, hz, rfl, h13, h14, h16, rfl⟩ := hI
        replace hJ1 := Hid.keep hJ1
        have hlit := list508 l hll
        rw [h13, h14, h16] at hlit
        unfold Fr
        rw [hlit]
        replace hlit := Hid.keep hlit
        replace hll := Hid.keep hll
        by_cases hlt : k < p.tais.length
        · obtain ⟨r, hr⟩ : ∃ r, p.tais[k]? = some r := ⟨_, List.getElem?_eq_getElem hlt⟩
          obtain ⟨ma, mb, mx, rfl⟩ := HIN.out.k6 r (List.mem_of_getElem? hr)
          obtain ⟨b2, o2, hb1, hb2, hb3⟩ := HIN.out.i6.at2 hr
          rw [hb1] at y6
          have x0 : w.cell? ⟨b2, o2 + k * 3, none⟩ = some (.string ma) := hb3 0 _ rfl
          have x1 : w.cell? ⟨b2, o2 + k * 3 + 1, none⟩ = some (.string mb) := hb3 1 _ rfl
          clear hb3 hr hb1
          go_wp2
          any_goals (go_ret; exact ⟨IsBool.mk rfl, rfl⟩)
          exact Met.intro (hJ1.out _ _ (FrJ.mk (z + ma.size + mb.size) (k + 1) (by kernel_rfl) (by omega) (by omega) (by kernel_rfl) (by kernel_rfl) (by kernel_rfl)) (left_lt (k := k) h16 (by kernel_rfl) hlt))
        · go_wp2
          exact Met.intro (hJ.out _ _ (FrC.mk z (by kernel_rfl) hz (by kernel_rfl) (by kernel_rfl)))
      case rest =>
        intro x2 w2 hcut
        obtain ⟨l2, Z2, hl2, hz2, rfl, h13, h14, rfl⟩ := hcut
        have hlit := list508 l2 hl2
        rw [h13, h14] at hlit
        unfold Fr
        rw [hlit]
        clear h13 h14 hlit hl2
        go_upto_block 6 with fail
        any_goals (go_ret; exact ⟨IsBool.mk rfl, rfl⟩)
        refine wp_cut (FrC w st hw id mid text (some ⟨b, o, none⟩) ps.length cap K0) ?rest ?first
        case first =>
          intro J K' hJ hK'
          replace hJ := Hid.keep hJ
          as_aux_lemma =>
          go_wp2
          refine wp_loop_met (FrJ w st hw id mid text (some ⟨b, o, none⟩) ps.length cap K0 11 p.sched.length) (left p.sched.length 11) (FrJ.mk (Z2 + p.sc.size + p.sched.length) 0 (by kernel_rfl) (Nat.zero_le _) (by omega) (by kernel_rfl) (by kernel_rfl) (by kernel_rfl)) ?_
          intro x1 w1 hI J1 K1 hJ1 hK1
          obtain ⟨l, z, k, hll, hk, hz, rfl, h13, h14, h17, rfl⟩ := hI
          replace hJ1 := Hid.keep hJ1
          have hlit := list508 l hll
          rw [h13, h14, h17] at hlit
          unfold Fr
          rw [hlit]
          replace hlit := Hid.keep hlit
          replace hll := Hid.keep hll
          by_cases hlt : k < p.sched.length
          · obtain ⟨r, hr⟩ : ∃ r, p.sched[k]? = some r := ⟨_, List.getElem?_eq_getElem hlt⟩
            obtain ⟨ma, mb, mx, rfl⟩ := HIN.out.k10 r (List.mem_of_getElem? hr)
            obtain ⟨b2, o2, hb1, hb2, hb3⟩ := HIN.out.i10.at2 hr
            rw [hb1] at y10
            have x0 : w.cell? ⟨b2, o2 + k * 3, none⟩ = some (.string ma) := hb3 0 _ rfl
            have x1 : w.cell? ⟨b2, o2 + k * 3 + 1, none⟩ = some (.string mb) := hb3 1 _ rfl
            clear hb3 hr hb1
            go_wp2
            any_goals (go_ret; exact ⟨IsBool.mk rfl, rfl⟩)
            exact Met.intro (hJ1.out _ _ (FrJ.mk (z + ma.size + mb.size) (k + 1) (by kernel_rfl) (by omega) (by omega) (by kernel_rfl) (by kernel_rfl) (by kernel_rfl)) (left_lt (k := k) h17 (by kernel_rfl) hlt))
          · go_wp2
            exact Met.intro (hJ.out _ _ (FrC.mk z (by kernel_rfl) hz (by kernel_rfl) (by kernel_rfl)))
        case rest =>
          intro x2 w2 hcut
          obtain ⟨l3, Z3, hl3, hz3, rfl, h13, h14, rfl⟩ := hcut
          have hlit := list508 l3 hl3
          rw [h13, h14] at hlit
          unfold Fr
          rw [hlit]
          clear h13 h14 hlit hl3
          go_upto_block 8 with fail
          any_goals (go_ret; exact ⟨IsBool.mk rfl, rfl⟩)
          refine wp_cut (FrC w st hw id mid text (some ⟨b, o, none⟩) ps.length cap K0) ?rest ?first
          case first =>
            intro J K' hJ hK'
            replace hJ := Hid.keep hJ
            as_aux_lemma =>
            go_wp2
            refine wp_loop_met (FrJ w st hw id mid text (some ⟨b, o, none⟩) ps.length cap K0 12 p.canc.length) (left p.canc.length 12) (FrJ.mk (Z3 + p.canc.length) 0 (by kernel_rfl) (Nat.zero_le _) (by omega) (by kernel_rfl) (by kernel_rfl) (by kernel_rfl)) ?_
            intro x1 w1 hI J1 K1 hJ1 hK1
            obtain ⟨l, z, k, hll, hk, hz, rfl, h13, h14, h18, rfl⟩ := hI
            replace hJ1 := Hid.keep hJ1
            have hlit := list508 l hll
            rw [h13, h14, h18] at hlit
            unfold Fr
            rw [hlit]
            replace hlit := Hid.keep hlit
            replace hll := Hid.keep hll
            by_cases hlt : k < p.canc.length
            · obtain ⟨r, hr⟩ : ∃ r, p.canc[k]? = some r := ⟨_, List.getElem?_eq_getElem hlt⟩
              obtain ⟨ma, mb, mx, my, rfl⟩ := HIN.out.k11 r (List.mem_of_getElem? hr)
              obtain ⟨b2, o2, hb1, hb2, hb3⟩ := HIN.out.i11.at2 hr
              rw [hb1] at y11
              have x0 : w.cell? ⟨b2, o2 + k * 4, none⟩ = some (.string ma) := hb3 0 _ rfl
              have x1 : w.cell? ⟨b2, o2 + k * 4 + 1, none⟩ = some (.string mb) := hb3 1 _ rfl
              clear hb3 hr hb1
              go_wp2
              any_goals (go_ret; exact ⟨IsBool.mk rfl, rfl⟩)
              exact Met.intro (hJ1.out _ _ (FrJ.mk (z + ma.size + mb.size) (k + 1) (by kernel_rfl) (by omega) (by omega) (by kernel_rfl) (by kernel_rfl) (by kernel_rfl)) (left_lt (k := k) h18 (by kernel_rfl) hlt))
            · go_wp2
              exact Met.intro (hJ.out _ _ (FrC.mk z (by kernel_rfl) hz (by kernel_rfl) (by kernel_rfl)))
          case rest =>
            intro x2 w2 hcut
            obtain ⟨l4, Z4, hl4, hz4, rfl, h13, h14, rfl⟩ := hcut
            have hlit := list508 l4 hl4
            rw [h13, h14] at hlit
            unfold Fr
            rw [hlit]
            clear h13 h14 hlit hl4
            go_upto_block 10 with fail
            any_goals (go_ret; exact ⟨IsBool.mk rfl, rfl⟩)
            as_aux_lemma =>
            go_wp2
            refine wp_loop_met (FrJ w st hw id mid text (some ⟨b, o, none⟩) ps.length cap K0 13 p.enbs.length) (left p.enbs.length 13) (FrJ.mk (Z4 + p.enbs.length) 0 (by kernel_rfl) (Nat.zero_le _) (by omega) (by kernel_rfl) (by kernel_rfl) (by kernel_rfl)) ?_
            intro x1 w1 hI J1 K1 hJ1 hK1
            obtain ⟨l, z, k, hll, hk, hz, rfl, h13, h14, h19, rfl⟩ := hI
            replace hJ1 := Hid.keep hJ1
            have hlit := list508 l hll
            rw [h13, h14, h19] at hlit
            unfold Fr
            rw [hlit]
            replace hlit := Hid.keep hlit
            replace hll := Hid.keep hll
            by_cases hlt : k < p.enbs.length
            · obtain ⟨r, hr⟩ : ∃ r, p.enbs[k]? = some r := ⟨_, List.getElem?_eq_getElem hlt⟩
              obtain ⟨ma, mb, mx, my, rfl⟩ := HIN.out.k12 r (List.mem_of_getElem? hr)
              obtain ⟨b2, o2, hb1, hb2, hb3⟩ := HIN.out.i12.at2 hr
              rw [hb1] at y12
              have x0 : w.cell? ⟨b2, o2 + k * 4, none⟩ = some (.string ma) := hb3 0 _ rfl
              have x1 : w.cell? ⟨b2, o2 + k * 4 + 1, none⟩ = some (.string mb) := hb3 1 _ rfl
              clear hb3 hr hb1
              go_wp2
              any_goals (go_ret; exact ⟨IsBool.mk rfl, rfl⟩)
              exact Met.intro (hJ1.out _ _ (FrJ.mk (z + ma.size + mb.size) (k + 1) (by kernel_rfl) (by omega) (by omega) (by kernel_rfl) (by kernel_rfl) (by kernel_rfl)) (left_lt (k := k) h19 (by kernel_rfl) hlt))
            · go_wp2
              exact Met.intro (hJ0.out _ _ (FrI.mk z (K0 + 1) (by kernel_rfl) (by omega) hz (by kernel_rfl) (by kernel_rfl)) (left_lt (k := K0) H14.out (by kernel_rfl) hlt0))
  · go_wp2
    go_ret
    exact ⟨IsBool.mk rfl, rfl⟩

theorem bytes_any (st : Int) (hw : Bool) (id : ByteArray) (mid : Int) (text : ByteArray) (a : Option Addr) (cap : Nat) (ps : List ZP) (w : World) (hin : PIn w a cap ps) (hlen : ps.length ≤ maxLen) :
    Calls Try.prog 5 #[.int .i64 st, .bool hw, .string id, .int .u16 mid, .string text, .slice a ps.length cap] w fun e w' => (∃ b, e = .returned (.bool b)) ∧ w = w' := bytes_at st hw id mid text a cap ps w hin hlen
end BA
end Go.Proofs.Qxb6616460a

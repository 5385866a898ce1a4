import Derived.Test.Qxb6616507aFmtCore
import Derived.Test.Qxb6616507aFmtErr
namespace Go.Proofs.Qxb6616507aFmt
open Go.RowKit Go.Extern.Stop Go.Stop Go.Extern
set_option linter.unusedVariables false

set_option maxHeartbeats 4000000 in
theorem law2_ss (F : Interp) (x0 : Addr) (n cap0 : Nat) (z0 : List Int) (x1 : Addr) (m cap1 : Nat) (z1 : List Int) (w : World) (hF : F.answers w.tape) (r0 : IsRow .u8 w (some x0) n cap0 z0) (r1 : IsRow .u8 w (some x1) m cap1 z1) :
    Calls Tryf.prog 4 #[.slice (some x0) n cap0, .slice (some x1) m cap1] w fun e w' => e = .returned (.bool true) ∧ Below w.heap.size w w' := by
  have HF : Hid (F.answers w.tape) := hF
  clear hF
  have l0 : n ≤ maxLen := by rcases r0 with ⟨h, _⟩ | ⟨_, _, h, h', _⟩; (· cases h); omega
  obtain ⟨p1, p2, p3, p4⟩ := isRow_some r0
  clear r0
  generalize z0.take n = P at p1 p2 p4
  have HP : Hid (P.length = n ∧ (∀ i, i < n → w.cell? (x0.add i) = some (.int .u8 (P.getD i 0))) ∧ (n ≠ 0 → x0.block < w.heap.size)) := ⟨p1, p2, p3⟩
  clear p1 p2 p3 p4
  have l1 : m ≤ maxLen := by rcases r1 with ⟨h, _⟩ | ⟨_, _, h, h', _⟩; (· cases h); omega
  obtain ⟨d1, d2, d3, d4⟩ := isRow_some r1
  clear r1
  generalize z1.take m = Q at d1 d2 d4
  have HQ : Hid (Q.length = m ∧ (∀ i, i < m → w.cell? (x1.add i) = some (.int .u8 (Q.getD i 0))) ∧ (m ≠ 0 → x1.block < w.heap.size)) := ⟨d1, d2, d3⟩
  clear d1 d2 d3 d4
  have HZ : Hid (Calls Tryf.prog 13 #[.slice (some x0) n cap0, .slice (some x1) m cap1] w fun e w' => (∃ r, e = .returned (.bool r)) ∧ w' = w) := bytes13_any (some x0) (some x1) n cap0 m cap1 w l0 l1
  unfold maxLen at *
  have hq := neq22
  go_enter Tryf.func4, Tryf.ntmps4
  go_wp2_with fail
  refine HZ.out.mono ?_
  rintro e w1 ⟨⟨r, rfl⟩, rfl⟩
  clear HZ
  cases r
  · go_wp2
    go_ret
    exact ⟨rfl, Below.refl _ _⟩
  go_wp2_with fail
  all_goals try (go_ret; exact ⟨rfl, Below.refl _ _⟩)
  have hk := run_make5 n w1 (by omega)
  have hy := run_copy5 x0 cap0 n P HP.out.1 w1 HP.out.2.1 HP.out.2.2
  go_simp
  go_wp2_with fail
  clear hk hy
  have HWa : Hid (Below w1.heap.size w1 (w1.alloc (.cells (P.map (Value.int .u8)).toArray 5))) := (Below.refl _ _).alloc (Nat.le_refl _) _
  have HSa : Hid (Src0 (w1.alloc (.cells (P.map (Value.int .u8)).toArray 5)) (w1.heap.size + 1) (some ⟨w1.heap.size, 0, none⟩) n n P) := by
    refine .inr ⟨_, rfl, by omega, HP.out.1, fun j hj => ?_⟩
    rw [cell_of_row _ _ j _ _ _ (heap_alloc_last w1 _)]
    have := HP.out.1
    simp [List.getD, show j < P.length by omega]
  have hsz : (w1.alloc (.cells (P.map (Value.int .u8)).toArray 5)).heap.size = w1.heap.size + 1 := by simp
  have HVa : Hid ((w1.alloc (.cells (P.map (Value.int .u8)).toArray 5)).heap.size = w1.heap.size + 1) := hsz
  clear hsz
  generalize (w1.alloc (.cells (P.map (Value.int .u8)).toArray 5)) = U at HWa HSa HVa ⊢
  have HQ2 : Hid (∀ i, i < m → U.cell? (x1.add i) = some (.int .u8 (Q.getD i 0))) := fun i hi => by
    have h := HQ.out.2.1 i hi
    rw [HWa.out.cell (p := x1.add i) (cell_lt h)]
    exact h
  have hk := run_make5 m U (by omega)
  have hy := run_copy5 x1 cap1 m Q HQ.out.1 U HQ2.out (fun h0 => Nat.lt_of_lt_of_le (HQ.out.2.2 h0) HWa.out.size)
  go_simp
  go_wp2_with fail
  clear hk hy HQ2
  have HWb : Hid (Below U.heap.size U (U.alloc (.cells (Q.map (Value.int .u8)).toArray 5))) := (Below.refl _ _).alloc (Nat.le_refl _) _
  have HSb : Hid (Src0 (U.alloc (.cells (Q.map (Value.int .u8)).toArray 5)) (U.heap.size + 1) (some ⟨U.heap.size, 0, none⟩) m m Q) := by
    refine .inr ⟨_, rfl, by omega, HQ.out.1, fun j hj => ?_⟩
    rw [cell_of_row _ _ j _ _ _ (heap_alloc_last U _)]
    have := HQ.out.1
    simp [List.getD, show j < Q.length by omega]
  have hsz : (U.alloc (.cells (Q.map (Value.int .u8)).toArray 5)).heap.size = U.heap.size + 1 := by simp
  have HVb : Hid ((U.alloc (.cells (Q.map (Value.int .u8)).toArray 5)).heap.size = U.heap.size + 1) := hsz
  clear hsz
  generalize (U.alloc (.cells (Q.map (Value.int .u8)).toArray 5)) = V at HWb HSb HVb ⊢
  clear hq
  have HS0 : Hid (Src0 V V.heap.size (some ⟨w1.heap.size, 0, none⟩) n n P) := by
    rcases HSa.out with h | ⟨k, h1, h2, h3, h4⟩
    · exact .inl h
    · have hU := HVa.out; have hV := HWb.out.size
      exact .inr ⟨k, h1, by omega, h3, fun j hj => (HWb.out.cell (p := ⟨k, j, none⟩) (show k < U.heap.size by omega)).trans (h4 j hj)⟩
  have HS1 : Hid (Src0 V V.heap.size (some ⟨U.heap.size, 0, none⟩) m m Q) := by
    rcases HSb.out with h | ⟨k, h1, h2, h3, h4⟩
    · exact .inl h
    · have hV := HVb.out
      exact .inr ⟨k, h1, by omega, h3, h4⟩
  have HW : Hid (Below w1.heap.size w1 V) := HWa.out.trans (HWb.out.mono HWa.out.size)
  clear HSa HSb HWa HWb HVa HVb
  go_wp2_with fail
  refine (zappend_any V.heap.size 0 (.slice none 0 0) [] (some ⟨w1.heap.size, 0, none⟩) n n P V (World.ownsRow_nil _ _ _ _) (Nat.le_refl _) (by omega) HS0.out).mono ?_
  rintro e w3 ⟨g1, cp1, rfl, ha1, ha2, hb1, hb2, ho3, hb3⟩
  have HO3 : Hid (w3.ownsRow V.heap.size 5 1 (.slice (some ⟨g1, 0, none⟩) (0 + 8 + n) cp1) (0 + 8 + n) ([] ++ framed P)) := ho3
  have HB3 : Hid (Below V.heap.size V w3) := hb3
  have HS13 : Hid (Src0 w3 V.heap.size (some ⟨U.heap.size, 0, none⟩) m m Q) := by
    rcases HS1.out with h | ⟨k, h1, h2, h3, h4⟩
    · exact .inl h
    · exact .inr ⟨k, h1, h2, h3, fun j hj => (HB3.out.cell (p := ⟨k, j, none⟩) h2).trans (h4 j hj)⟩
  have HS03 : Hid (Src0 w3 V.heap.size (some ⟨w1.heap.size, 0, none⟩) n n P) := by
    rcases HS0.out with h | ⟨k, h1, h2, h3, h4⟩
    · exact .inl h
    · exact .inr ⟨k, h1, h2, h3, fun j hj => (HB3.out.cell (p := ⟨k, j, none⟩) h2).trans (h4 j hj)⟩
  clear ha1 ha2 hb1 hb2 ho3 hb3 HS0 HS1
  go_wp2_with fail
  refine (zappend_any V.heap.size (0 + 8 + n) (.slice (some ⟨g1, 0, none⟩) (0 + 8 + n) cp1) ([] ++ framed P) (some ⟨U.heap.size, 0, none⟩) m m Q w3 HO3.out HB3.out.size (by omega) HS13.out).mono ?_
  have hNN : 0 + 8 + n + 8 + m = 16 + n + m := by omega
  rw [hNN]
  clear hNN
  obtain ⟨N, hN⟩ : ∃ N, N = 16 + n + m := ⟨_, rfl⟩
  rw [← hN]
  have hlen : ((N : Int) != 16 + (n : Int) + (m : Int)) = false := by rw [bne_eq_false_iff_eq]; omega
  have hNb : N ≤ 2000000 := by omega
  have HN : Hid (N = 16 + n + m) := hN
  clear hN
  rintro e w4 ⟨g, cap, rfl, hg1, hg2, hc1, hc2, ho4, hb4⟩
  have HL : Hid (∀ j, j < N → w4.cell? ⟨g, j, none⟩ = (([] ++ framed P) ++ framed Q)[j]?) := fun j hj => ho4.cellAt j (by omega)
  have HB4 : Hid (Below V.heap.size w3 w4) := hb4
  have HBa : Hid (Below w1.heap.size w1 w4) := HW.out.trans ((HB3.out.trans hb4).mono HW.out.size)
  have HG : Hid (g < w4.heap.size ∧ N ≤ cap ∧ cap ≤ maxLen) := ⟨hg2, hc1, hc2⟩
  have hsV : V.heap.size ≤ w4.heap.size := Nat.le_trans HB3.out.size hb4.size
  have HX4 : Hid (Bs w4 (some ⟨w1.heap.size, 0, none⟩) P ∧ ∀ a : Addr, ((some ⟨w1.heap.size, 0, none⟩) : Option Addr) = some a → a.block < w4.heap.size) := by
    rcases HS03.out with ⟨h0, _, _, h⟩ | ⟨k, h1, h2, h3, h4⟩
    · exact ⟨.inl h, fun a ha => by rw [h0] at ha; cases ha⟩
    · refine ⟨.inr ⟨k, 0, h1, by omega, fun j hj => ?_⟩, fun a ha => ?_⟩
      · rw [Nat.zero_add, hb4.cell (p := ⟨k, j, none⟩) h2]
        exact h4 j (by omega)
      · rw [h1] at ha; cases ha; show k < _; omega
  have HY4 : Hid (Bs w4 (some ⟨U.heap.size, 0, none⟩) Q ∧ ∀ a : Addr, ((some ⟨U.heap.size, 0, none⟩) : Option Addr) = some a → a.block < w4.heap.size) := by
    rcases HS13.out with ⟨h0, _, _, h⟩ | ⟨k, h1, h2, h3, h4⟩
    · exact ⟨.inl h, fun a ha => by rw [h0] at ha; cases ha⟩
    · refine ⟨.inr ⟨k, 0, h1, by omega, fun j hj => ?_⟩, fun a ha => ?_⟩
      · rw [Nat.zero_add, hb4.cell (p := ⟨k, j, none⟩) h2]
        exact h4 j (by omega)
      · rw [h1] at ha; cases ha; show k < _; omega
  clear ho4 hb4 HO3 HB3 HB4 HS03 HS13 hsV HW
  unfold maxLen at hc2
  go_wp2_with fail
  obtain ⟨HR1, HR2, HR3, HR4⟩ := frames P Q n m HP.out.1 HQ.out.1
  generalize ([] ++ framed P) ++ framed Q = L at HL HR1 HR2 HR3 HR4
  refine (new_any g N cap 0 w4).mono ?_
  rintro e w5 ⟨rfl, hdec, hb5⟩
  have HB5 : Hid (Below w4.heap.size w4 w5) := hb5
  have HD5 : Hid (Dec w5 w4.heap.size g N cap 0 .nilIface) := hdec
  clear hdec hb5
  have HL5 : Hid (∀ W : World, Below w4.heap.size w4 W → ∀ j, j < N → W.cell? ⟨g, j, none⟩ = L[j]?) := fun W hW j hj => (hW.cell (p := ⟨g, j, none⟩) HG.out.1).trans (HL.out j hj)
  go_wp2_with fail
  refine (zu64_le w4.heap.size g N cap 0 n w5 HD5.out (by have := HN.out; omega) HG.out.2.1 HG.out.2.2 HG.out.1 (by omega) (fun j hj => ?_)).mono ?_
  · rw [HL5.out w5 HB5.out _ (by have := HN.out; omega)]
    exact HR1.out j hj
  rintro e w6 ⟨rfl, hdec, hb6⟩
  have HB6 : Hid (Below w4.heap.size w4 w6) := HB5.out.trans hb6
  have HD6 : Hid (Dec w6 w4.heap.size g N cap 8 .nilIface) := hdec
  clear hdec hb6 HB5 HD5 HR1
  go_wp2_with fail
  refine (ztake_ok w4.heap.size g N cap 8 n w6 HD6.out (by have := HN.out; omega) HG.out.2.1 HG.out.2.2 HG.out.1).mono ?_
  rintro e w7 ⟨⟨ao1, rfl, hao1⟩, hdec, hb7⟩
  have HB7 : Hid (Below w4.heap.size w4 w7) := HB6.out.trans hb7
  have HD7 : Hid (Dec w7 w4.heap.size g N cap (8 + n) .nilIface) := hdec
  have HA1 : Hid (n ≠ 0 → ao1 = some ⟨g, 8, none⟩) := hao1
  clear hdec hb7 hao1 HB6 HD6
  go_wp2_with fail
  refine (zu64_le w4.heap.size g N cap (8 + n) m w7 HD7.out (by have := HN.out; omega) HG.out.2.1 HG.out.2.2 HG.out.1 (by omega) (fun j hj => ?_)).mono ?_
  · rw [HL5.out w7 HB7.out _ (by have := HN.out; omega)]
    exact HR3.out j hj
  rintro e w8 ⟨rfl, hdec, hb8⟩
  have HB8 : Hid (Below w4.heap.size w4 w8) := HB7.out.trans hb8
  have HD8 : Hid (Dec w8 w4.heap.size g N cap (8 + n + 8) .nilIface) := hdec
  clear hdec hb8 HB7 HD7 HR3
  go_wp2_with fail
  refine (ztake_ok w4.heap.size g N cap (8 + n + 8) m w8 HD8.out (by have := HN.out; omega) HG.out.2.1 HG.out.2.2 HG.out.1).mono ?_
  rintro e w9 ⟨⟨ao2, rfl, hao2⟩, hdec, hb9⟩
  have HB9 : Hid (Below w4.heap.size w4 w9) := HB8.out.trans hb9
  have hEN : 8 + n + 8 + m = N := by have := HN.out; omega
  have HD9 : Hid (Dec w9 w4.heap.size g N cap N .nilIface) := by
    have h := hdec
    rw [hEN] at h
    exact h
  have HA2 : Hid (m ≠ 0 → ao2 = some ⟨g, 8 + n + 8, none⟩) := hao2
  clear hdec hb9 hao2 HB8 HD8 hEN
  have HG9 : Hid (g < w9.heap.size) := Nat.lt_of_lt_of_le HG.out.1 HB9.out.size
  have HX9 : Hid (Bs w9 (some ⟨w1.heap.size, 0, none⟩) P) := HX4.out.1.below HB9.out HX4.out.2
  have HY9 : Hid (Bs w9 (some ⟨U.heap.size, 0, none⟩) Q) := HY4.out.1.below HB9.out HY4.out.2
  have HT1 : Hid (Bs w9 ao1 P) := by
    by_cases h0 : n = 0
    · exact .inl (List.eq_nil_of_length_eq_zero (by rw [HP.out.1]; exact h0))
    · rw [HA1.out h0]
      exact row_part (HL5.out w9 HB9.out) HG9.out _ 8 (by have := HN.out; have := HP.out.1; omega) HR2.out
  have HT2 : Hid (Bs w9 ao2 Q) := by
    by_cases h0 : m = 0
    · exact .inl (List.eq_nil_of_length_eq_zero (by rw [HQ.out.1]; exact h0))
    · rw [HA2.out h0]
      exact row_part (HL5.out w9 HB9.out) HG9.out _ (8 + n + 8) (by have := HN.out; have := HQ.out.1; omega) HR4.out
  clear HL HR2 HR4 HA1 HA2 HX4 HY4 HL5
  go_wp2_with fail
  refine (eq_len ao1 (some ⟨w1.heap.size, 0, none⟩) _ _ n P w9 HP.out.1 (by unfold maxLen; omega) HT1.out HX9.out).mono ?_
  rintro e wa ⟨rfl, na, rfl⟩
  go_wp2_with fail
  refine (eq_len ao2 (some ⟨U.heap.size, 0, none⟩) _ _ m Q (w9.drewN na) HQ.out.1 (by unfold maxLen; omega) (HT2.out.drewN na) (HY9.out.drewN na)).mono ?_
  rintro e wb ⟨rfl, nb, hwb⟩
  have HBb : Hid (Below w9.heap.size w9 wb) := by subst hwb; exact ⟨rfl, rfl, rfl, Nat.le_refl _, fun _ _ => rfl⟩
  clear hwb
  have HDb : Hid (Dec wb w4.heap.size g N cap N .nilIface) := HD9.out.below HBb.out HD9.out.lt
  have HBc : Hid (Below w1.heap.size w1 wb) := HBa.out.trans (((HB9.out.trans (HBb.out.mono HB9.out.size))).mono HBa.out.size)
  have HFb : Hid (F.answers wb.tape) := by rw [HBc.out.tape]; exact HF.out
  clear HT1 HT2 HX9 HY9 HD9 HB9 HBb HF
  go_wp2_with fail
  have HO : Hid (∀ W : World, W = wb → Calls Tryf.prog 10 #[.pointer (some ⟨w4.heap.size, 0, none⟩)] W fun e w' => e = .returned (.int .i64 N) ∧ w' = wb) := fun W h => by subst h; exact off_any _ _ _ _ _ _ _ HDb.out
  have HE : Hid (∀ W : World, W = wb → Calls Tryf.prog 11 #[.pointer (some ⟨w4.heap.size, 0, none⟩)] W fun e w' => e = .returned .nilIface ∧ w' = wb) := fun W h => by subst h; exact err_any _ _ _ _ _ _ _ HDb.out
  refine (HE.out _ rfl).mono ?_
  rintro e wc ⟨rfl, hwc⟩
  rw [hwc]
  clear hwc wc
  go_wp2_with fail
  refine (HO.out _ rfl).mono ?_
  rintro e wc ⟨rfl, hwc⟩
  rw [hwc]
  clear hwc wc HO HE
  go_wp2_with fail
  refine (zu64_no F w4.heap.size g N cap N wb HFb.out HDb.out (by omega) (Nat.le_refl _) HG.out.2.1 HG.out.2.2).mono ?_
  rintro e wd ⟨rfl, ⟨ae, hdec⟩, hbd⟩
  have HDd : Hid (Dec wd w4.heap.size g N cap N (.iface 48 (.pointer (some ae)))) := hdec
  have HBd : Hid (Below w1.heap.size w1 wd) := HBc.out.trans (hbd.mono HBa.out.size)
  clear hdec hbd HDb HBc HFb
  have heq : ((N : Int) == 16 + (n : Int) + (m : Int)) = true := by rw [beq_iff_eq]; have := HN.out; omega
  go_wp2_with fail
  have HO : Hid (∀ W : World, W = wd → Calls Tryf.prog 10 #[.pointer (some ⟨w4.heap.size, 0, none⟩)] W fun e w' => e = .returned (.int .i64 N) ∧ w' = wd) := fun W h => by subst h; exact off_any _ _ _ _ _ _ _ HDd.out
  have HE : Hid (∀ W : World, W = wd → Calls Tryf.prog 11 #[.pointer (some ⟨w4.heap.size, 0, none⟩)] W fun e w' => e = .returned (.iface 48 (.pointer (some ae))) ∧ w' = wd) := fun W h => by subst h; exact err_any _ _ _ _ _ _ _ HDd.out
  refine (HE.out _ rfl).mono ?_
  rintro e wc ⟨rfl, hwc⟩
  rw [hwc]
  clear hwc wc
  go_wp2_with fail
  refine (HO.out _ rfl).mono ?_
  rintro e wc ⟨rfl, hwc⟩
  rw [hwc]
  clear hwc wc HO HE
  go_wp2
  go_ret
  exact ⟨rfl, HBd.out⟩

set_option maxHeartbeats 4000000 in
theorem law2_nn (F : Interp) (w : World) (hF : F.answers w.tape) :
    Calls Tryf.prog 4 #[.slice none 0 0, .slice none 0 0] w fun e w' => e = .returned (.bool true) ∧ Below w.heap.size w w' := by
  have HF : Hid (F.answers w.tape) := hF
  clear hF
  have HZ : Hid (Calls Tryf.prog 13 #[.slice none 0 0, .slice none 0 0] w fun e w' => (∃ r, e = .returned (.bool r)) ∧ w' = w) := bytes13_any none none 0 0 0 0 w (by decide) (by decide)
  unfold maxLen at *
  have hq := neq22
  go_enter Tryf.func4, Tryf.ntmps4
  go_wp2_with fail
  refine HZ.out.mono ?_
  rintro e w1 ⟨⟨r, rfl⟩, rfl⟩
  clear HZ
  cases r
  · go_wp2
    go_ret
    exact ⟨rfl, Below.refl _ _⟩
  go_wp2_with fail
  all_goals try (go_ret; exact ⟨rfl, Below.refl _ _⟩)
  have HWa : Hid (Below w1.heap.size w1 w1) := Below.refl _ _
  have HSa : Hid (Src0 w1 w1.heap.size none 0 0 []) := .inl ⟨rfl, rfl, rfl, rfl⟩
  have HWb : Hid (Below w1.heap.size w1 w1) := Below.refl _ _
  have HSb : Hid (Src0 w1 w1.heap.size none 0 0 []) := .inl ⟨rfl, rfl, rfl, rfl⟩
  clear hq
  have HS0 : Hid (Src0 w1 w1.heap.size none 0 0 ([] : List Int)) := by
    rcases HSa.out with h | ⟨k, h1, h2, h3, h4⟩
    · exact .inl h
    · have hU := (rfl : w1.heap.size = w1.heap.size); have hV := HWb.out.size
      exact .inr ⟨k, h1, by omega, h3, fun j hj => (HWb.out.cell (p := ⟨k, j, none⟩) (show k < w1.heap.size by omega)).trans (h4 j hj)⟩
  have HS1 : Hid (Src0 w1 w1.heap.size none 0 0 ([] : List Int)) := by
    rcases HSb.out with h | ⟨k, h1, h2, h3, h4⟩
    · exact .inl h
    · have hV := (rfl : w1.heap.size = w1.heap.size)
      exact .inr ⟨k, h1, by omega, h3, h4⟩
  have HW : Hid (Below w1.heap.size w1 w1) := HWa.out.trans (HWb.out.mono HWa.out.size)
  clear HSa HSb HWa HWb
  go_wp2_with fail
  refine (zappend_any w1.heap.size 0 (.slice none 0 0) [] none 0 0 ([] : List Int) w1 (World.ownsRow_nil _ _ _ _) (Nat.le_refl _) (by omega) HS0.out).mono ?_
  rintro e w3 ⟨g1, cp1, rfl, ha1, ha2, hb1, hb2, ho3, hb3⟩
  have HO3 : Hid (w3.ownsRow w1.heap.size 5 1 (.slice (some ⟨g1, 0, none⟩) (0 + 8 + 0) cp1) (0 + 8 + 0) ([] ++ framed ([] : List Int))) := ho3
  have HB3 : Hid (Below w1.heap.size w1 w3) := hb3
  have HS13 : Hid (Src0 w3 w1.heap.size none 0 0 ([] : List Int)) := by
    rcases HS1.out with h | ⟨k, h1, h2, h3, h4⟩
    · exact .inl h
    · exact .inr ⟨k, h1, h2, h3, fun j hj => (HB3.out.cell (p := ⟨k, j, none⟩) h2).trans (h4 j hj)⟩
  have HS03 : Hid (Src0 w3 w1.heap.size none 0 0 ([] : List Int)) := by
    rcases HS0.out with h | ⟨k, h1, h2, h3, h4⟩
    · exact .inl h
    · exact .inr ⟨k, h1, h2, h3, fun j hj => (HB3.out.cell (p := ⟨k, j, none⟩) h2).trans (h4 j hj)⟩
  clear ha1 ha2 hb1 hb2 ho3 hb3 HS0 HS1
  go_wp2_with fail
  refine (zappend_any w1.heap.size (0 + 8 + 0) (.slice (some ⟨g1, 0, none⟩) (0 + 8 + 0) cp1) ([] ++ framed ([] : List Int)) none 0 0 ([] : List Int) w3 HO3.out HB3.out.size (by omega) HS13.out).mono ?_
  have hNN : 0 + 8 + 0 + 8 + 0 = 16 + 0 + 0 := by omega
  rw [hNN]
  clear hNN
  obtain ⟨N, hN⟩ : ∃ N, N = 16 + 0 + 0 := ⟨_, rfl⟩
  rw [← hN]
  have hlen : ((N : Int) != 16) = false := by rw [bne_eq_false_iff_eq]; omega
  have hNb : N ≤ 2000000 := by omega
  have HN : Hid (N = 16 + 0 + 0) := hN
  clear hN
  rintro e w4 ⟨g, cap, rfl, hg1, hg2, hc1, hc2, ho4, hb4⟩
  have HL : Hid (∀ j, j < N → w4.cell? ⟨g, j, none⟩ = (([] ++ framed ([] : List Int)) ++ framed ([] : List Int))[j]?) := fun j hj => ho4.cellAt j (by omega)
  have HB4 : Hid (Below w1.heap.size w3 w4) := hb4
  have HBa : Hid (Below w1.heap.size w1 w4) := HW.out.trans ((HB3.out.trans hb4).mono HW.out.size)
  have HG : Hid (g < w4.heap.size ∧ N ≤ cap ∧ cap ≤ maxLen) := ⟨hg2, hc1, hc2⟩
  have hsV : w1.heap.size ≤ w4.heap.size := Nat.le_trans HB3.out.size hb4.size
  have HX4 : Hid (Bs w4 none ([] : List Int) ∧ ∀ a : Addr, (none : Option Addr) = some a → a.block < w4.heap.size) := by
    rcases HS03.out with ⟨h0, _, _, h⟩ | ⟨k, h1, h2, h3, h4⟩
    · exact ⟨.inl h, fun a ha => by rw [h0] at ha; cases ha⟩
    · refine ⟨.inr ⟨k, 0, h1, by omega, fun j hj => ?_⟩, fun a ha => ?_⟩
      · rw [Nat.zero_add, hb4.cell (p := ⟨k, j, none⟩) h2]
        exact h4 j (by omega)
      · rw [h1] at ha; cases ha; show k < _; omega
  have HY4 : Hid (Bs w4 none ([] : List Int) ∧ ∀ a : Addr, (none : Option Addr) = some a → a.block < w4.heap.size) := by
    rcases HS13.out with ⟨h0, _, _, h⟩ | ⟨k, h1, h2, h3, h4⟩
    · exact ⟨.inl h, fun a ha => by rw [h0] at ha; cases ha⟩
    · refine ⟨.inr ⟨k, 0, h1, by omega, fun j hj => ?_⟩, fun a ha => ?_⟩
      · rw [Nat.zero_add, hb4.cell (p := ⟨k, j, none⟩) h2]
        exact h4 j (by omega)
      · rw [h1] at ha; cases ha; show k < _; omega
  clear ho4 hb4 HO3 HB3 HB4 HS03 HS13 hsV HW
  unfold maxLen at hc2
  go_wp2_with fail
  obtain ⟨HR1, HR2, HR3, HR4⟩ := frames ([] : List Int) ([] : List Int) 0 0 (rfl : ([] : List Int).length = 0) (rfl : ([] : List Int).length = 0)
  generalize ([] ++ framed ([] : List Int)) ++ framed ([] : List Int) = L at HL HR1 HR2 HR3 HR4
  refine (new_any g N cap 0 w4).mono ?_
  rintro e w5 ⟨rfl, hdec, hb5⟩
  have HB5 : Hid (Below w4.heap.size w4 w5) := hb5
  have HD5 : Hid (Dec w5 w4.heap.size g N cap 0 .nilIface) := hdec
  clear hdec hb5
  have HL5 : Hid (∀ W : World, Below w4.heap.size w4 W → ∀ j, j < N → W.cell? ⟨g, j, none⟩ = L[j]?) := fun W hW j hj => (hW.cell (p := ⟨g, j, none⟩) HG.out.1).trans (HL.out j hj)
  go_wp2_with fail
  refine (zu64_le w4.heap.size g N cap 0 0 w5 HD5.out (by have := HN.out; omega) HG.out.2.1 HG.out.2.2 HG.out.1 (by omega) (fun j hj => ?_)).mono ?_
  · rw [HL5.out w5 HB5.out _ (by have := HN.out; omega)]
    exact HR1.out j hj
  rintro e w6 ⟨rfl, hdec, hb6⟩
  have HB6 : Hid (Below w4.heap.size w4 w6) := HB5.out.trans hb6
  have HD6 : Hid (Dec w6 w4.heap.size g N cap 8 .nilIface) := hdec
  clear hdec hb6 HB5 HD5 HR1
  go_wp2_with fail
  refine (ztake_ok w4.heap.size g N cap 8 0 w6 HD6.out (by have := HN.out; omega) HG.out.2.1 HG.out.2.2 HG.out.1).mono ?_
  rintro e w7 ⟨⟨ao1, rfl, hao1⟩, hdec, hb7⟩
  have HB7 : Hid (Below w4.heap.size w4 w7) := HB6.out.trans hb7
  have HD7 : Hid (Dec w7 w4.heap.size g N cap (8 + 0) .nilIface) := hdec
  have HA1 : Hid (0 ≠ 0 → ao1 = some ⟨g, 8, none⟩) := hao1
  clear hdec hb7 hao1 HB6 HD6
  go_wp2_with fail
  refine (zu64_le w4.heap.size g N cap (8 + 0) 0 w7 HD7.out (by have := HN.out; omega) HG.out.2.1 HG.out.2.2 HG.out.1 (by omega) (fun j hj => ?_)).mono ?_
  · rw [HL5.out w7 HB7.out _ (by have := HN.out; omega)]
    exact HR3.out j hj
  rintro e w8 ⟨rfl, hdec, hb8⟩
  have HB8 : Hid (Below w4.heap.size w4 w8) := HB7.out.trans hb8
  have HD8 : Hid (Dec w8 w4.heap.size g N cap (8 + 0 + 8) .nilIface) := hdec
  clear hdec hb8 HB7 HD7 HR3
  go_wp2_with fail
  refine (ztake_ok w4.heap.size g N cap (8 + 0 + 8) 0 w8 HD8.out (by have := HN.out; omega) HG.out.2.1 HG.out.2.2 HG.out.1).mono ?_
  rintro e w9 ⟨⟨ao2, rfl, hao2⟩, hdec, hb9⟩
  have HB9 : Hid (Below w4.heap.size w4 w9) := HB8.out.trans hb9
  have hEN : 8 + 0 + 8 + 0 = N := by have := HN.out; omega
  have HD9 : Hid (Dec w9 w4.heap.size g N cap N .nilIface) := by
    have h := hdec
    rw [hEN] at h
    exact h
  have HA2 : Hid (0 ≠ 0 → ao2 = some ⟨g, 8 + 0 + 8, none⟩) := hao2
  clear hdec hb9 hao2 HB8 HD8 hEN
  have HG9 : Hid (g < w9.heap.size) := Nat.lt_of_lt_of_le HG.out.1 HB9.out.size
  have HX9 : Hid (Bs w9 none ([] : List Int)) := HX4.out.1.below HB9.out HX4.out.2
  have HY9 : Hid (Bs w9 none ([] : List Int)) := HY4.out.1.below HB9.out HY4.out.2
  have HT1 : Hid (Bs w9 ao1 ([] : List Int)) := by
    by_cases h0 : 0 = 0
    · exact .inl (List.eq_nil_of_length_eq_zero (by rw [(rfl : ([] : List Int).length = 0)]; exact h0))
    · rw [HA1.out h0]
      exact row_part (HL5.out w9 HB9.out) HG9.out _ 8 (by have := HN.out; have := (rfl : ([] : List Int).length = 0); omega) HR2.out
  have HT2 : Hid (Bs w9 ao2 ([] : List Int)) := by
    by_cases h0 : 0 = 0
    · exact .inl (List.eq_nil_of_length_eq_zero (by rw [(rfl : ([] : List Int).length = 0)]; exact h0))
    · rw [HA2.out h0]
      exact row_part (HL5.out w9 HB9.out) HG9.out _ (8 + 0 + 8) (by have := HN.out; have := (rfl : ([] : List Int).length = 0); omega) HR4.out
  clear HL HR2 HR4 HA1 HA2 HX4 HY4 HL5
  go_wp2_with fail
  refine (eq_len ao1 none _ _ 0 ([] : List Int) w9 (rfl : ([] : List Int).length = 0) (by unfold maxLen; omega) HT1.out HX9.out).mono ?_
  rintro e wa ⟨rfl, na, rfl⟩
  go_wp2_with fail
  refine (eq_len ao2 none _ _ 0 ([] : List Int) (w9.drewN na) (rfl : ([] : List Int).length = 0) (by unfold maxLen; omega) (HT2.out.drewN na) (HY9.out.drewN na)).mono ?_
  rintro e wb ⟨rfl, nb, hwb⟩
  have HBb : Hid (Below w9.heap.size w9 wb) := by subst hwb; exact ⟨rfl, rfl, rfl, Nat.le_refl _, fun _ _ => rfl⟩
  clear hwb
  have HDb : Hid (Dec wb w4.heap.size g N cap N .nilIface) := HD9.out.below HBb.out HD9.out.lt
  have HBc : Hid (Below w1.heap.size w1 wb) := HBa.out.trans (((HB9.out.trans (HBb.out.mono HB9.out.size))).mono HBa.out.size)
  have HFb : Hid (F.answers wb.tape) := by rw [HBc.out.tape]; exact HF.out
  clear HT1 HT2 HX9 HY9 HD9 HB9 HBb HF
  go_wp2_with fail
  have HO : Hid (∀ W : World, W = wb → Calls Tryf.prog 10 #[.pointer (some ⟨w4.heap.size, 0, none⟩)] W fun e w' => e = .returned (.int .i64 N) ∧ w' = wb) := fun W h => by subst h; exact off_any _ _ _ _ _ _ _ HDb.out
  have HE : Hid (∀ W : World, W = wb → Calls Tryf.prog 11 #[.pointer (some ⟨w4.heap.size, 0, none⟩)] W fun e w' => e = .returned .nilIface ∧ w' = wb) := fun W h => by subst h; exact err_any _ _ _ _ _ _ _ HDb.out
  refine (HE.out _ rfl).mono ?_
  rintro e wc ⟨rfl, hwc⟩
  rw [hwc]
  clear hwc wc
  go_wp2_with fail
  refine (HO.out _ rfl).mono ?_
  rintro e wc ⟨rfl, hwc⟩
  rw [hwc]
  clear hwc wc HO HE
  go_wp2_with fail
  refine (zu64_no F w4.heap.size g N cap N wb HFb.out HDb.out (by omega) (Nat.le_refl _) HG.out.2.1 HG.out.2.2).mono ?_
  rintro e wd ⟨rfl, ⟨ae, hdec⟩, hbd⟩
  have HDd : Hid (Dec wd w4.heap.size g N cap N (.iface 48 (.pointer (some ae)))) := hdec
  have HBd : Hid (Below w1.heap.size w1 wd) := HBc.out.trans (hbd.mono HBa.out.size)
  clear hdec hbd HDb HBc HFb
  have heq : ((N : Int) == 16) = true := by rw [beq_iff_eq]; have := HN.out; omega
  go_wp2_with fail
  have HO : Hid (∀ W : World, W = wd → Calls Tryf.prog 10 #[.pointer (some ⟨w4.heap.size, 0, none⟩)] W fun e w' => e = .returned (.int .i64 N) ∧ w' = wd) := fun W h => by subst h; exact off_any _ _ _ _ _ _ _ HDd.out
  have HE : Hid (∀ W : World, W = wd → Calls Tryf.prog 11 #[.pointer (some ⟨w4.heap.size, 0, none⟩)] W fun e w' => e = .returned (.iface 48 (.pointer (some ae))) ∧ w' = wd) := fun W h => by subst h; exact err_any _ _ _ _ _ _ _ HDd.out
  refine (HE.out _ rfl).mono ?_
  rintro e wc ⟨rfl, hwc⟩
  rw [hwc]
  clear hwc wc
  go_wp2_with fail
  refine (HO.out _ rfl).mono ?_
  rintro e wc ⟨rfl, hwc⟩
  rw [hwc]
  clear hwc wc HO HE
  go_wp2
  go_ret
  exact ⟨rfl, HBd.out⟩

set_option maxHeartbeats 4000000 in
theorem law2_sn (F : Interp) (x0 : Addr) (n cap0 : Nat) (z0 : List Int) (w : World) (hF : F.answers w.tape) (r0 : IsRow .u8 w (some x0) n cap0 z0) :
    Calls Tryf.prog 4 #[.slice (some x0) n cap0, .slice none 0 0] w fun e w' => e = .returned (.bool true) ∧ Below w.heap.size w w' := by
  have HF : Hid (F.answers w.tape) := hF
  clear hF
  have l0 : n ≤ maxLen := by rcases r0 with ⟨h, _⟩ | ⟨_, _, h, h', _⟩; (· cases h); omega
  obtain ⟨p1, p2, p3, p4⟩ := isRow_some r0
  clear r0
  generalize z0.take n = P at p1 p2 p4
  have HP : Hid (P.length = n ∧ (∀ i, i < n → w.cell? (x0.add i) = some (.int .u8 (P.getD i 0))) ∧ (n ≠ 0 → x0.block < w.heap.size)) := ⟨p1, p2, p3⟩
  clear p1 p2 p3 p4
  have HZ : Hid (Calls Tryf.prog 13 #[.slice (some x0) n cap0, .slice none 0 0] w fun e w' => (∃ r, e = .returned (.bool r)) ∧ w' = w) := bytes13_any (some x0) none n cap0 0 0 w l0 (by decide)
  unfold maxLen at *
  have hq := neq22
  go_enter Tryf.func4, Tryf.ntmps4
  go_wp2_with fail
  refine HZ.out.mono ?_
  rintro e w1 ⟨⟨r, rfl⟩, rfl⟩
  clear HZ
  cases r
  · go_wp2
    go_ret
    exact ⟨rfl, Below.refl _ _⟩
  go_wp2_with fail
  all_goals try (go_ret; exact ⟨rfl, Below.refl _ _⟩)
  have hk := run_make5 n w1 (by omega)
  have hy := run_copy5 x0 cap0 n P HP.out.1 w1 HP.out.2.1 HP.out.2.2
  go_simp
  go_wp2_with fail
  clear hk hy
  have HWa : Hid (Below w1.heap.size w1 (w1.alloc (.cells (P.map (Value.int .u8)).toArray 5))) := (Below.refl _ _).alloc (Nat.le_refl _) _
  have HSa : Hid (Src0 (w1.alloc (.cells (P.map (Value.int .u8)).toArray 5)) (w1.heap.size + 1) (some ⟨w1.heap.size, 0, none⟩) n n P) := by
    refine .inr ⟨_, rfl, by omega, HP.out.1, fun j hj => ?_⟩
    rw [cell_of_row _ _ j _ _ _ (heap_alloc_last w1 _)]
    have := HP.out.1
    simp [List.getD, show j < P.length by omega]
  have hsz : (w1.alloc (.cells (P.map (Value.int .u8)).toArray 5)).heap.size = w1.heap.size + 1 := by simp
  have HVa : Hid ((w1.alloc (.cells (P.map (Value.int .u8)).toArray 5)).heap.size = w1.heap.size + 1) := hsz
  clear hsz
  generalize (w1.alloc (.cells (P.map (Value.int .u8)).toArray 5)) = U at HWa HSa HVa ⊢
  have HWb : Hid (Below U.heap.size U U) := Below.refl _ _
  have HSb : Hid (Src0 U U.heap.size none 0 0 []) := .inl ⟨rfl, rfl, rfl, rfl⟩
  clear hq
  have HS0 : Hid (Src0 U U.heap.size (some ⟨w1.heap.size, 0, none⟩) n n P) := by
    rcases HSa.out with h | ⟨k, h1, h2, h3, h4⟩
    · exact .inl h
    · have hU := HVa.out; have hV := HWb.out.size
      exact .inr ⟨k, h1, by omega, h3, fun j hj => (HWb.out.cell (p := ⟨k, j, none⟩) (show k < U.heap.size by omega)).trans (h4 j hj)⟩
  have HS1 : Hid (Src0 U U.heap.size none 0 0 ([] : List Int)) := by
    rcases HSb.out with h | ⟨k, h1, h2, h3, h4⟩
    · exact .inl h
    · have hV := (rfl : U.heap.size = U.heap.size)
      exact .inr ⟨k, h1, by omega, h3, h4⟩
  have HW : Hid (Below w1.heap.size w1 U) := HWa.out.trans (HWb.out.mono HWa.out.size)
  clear HSa HSb HWa HWb HVa
  go_wp2_with fail
  refine (zappend_any U.heap.size 0 (.slice none 0 0) [] (some ⟨w1.heap.size, 0, none⟩) n n P U (World.ownsRow_nil _ _ _ _) (Nat.le_refl _) (by omega) HS0.out).mono ?_
  rintro e w3 ⟨g1, cp1, rfl, ha1, ha2, hb1, hb2, ho3, hb3⟩
  have HO3 : Hid (w3.ownsRow U.heap.size 5 1 (.slice (some ⟨g1, 0, none⟩) (0 + 8 + n) cp1) (0 + 8 + n) ([] ++ framed P)) := ho3
  have HB3 : Hid (Below U.heap.size U w3) := hb3
  have HS13 : Hid (Src0 w3 U.heap.size none 0 0 ([] : List Int)) := by
    rcases HS1.out with h | ⟨k, h1, h2, h3, h4⟩
    · exact .inl h
    · exact .inr ⟨k, h1, h2, h3, fun j hj => (HB3.out.cell (p := ⟨k, j, none⟩) h2).trans (h4 j hj)⟩
  have HS03 : Hid (Src0 w3 U.heap.size (some ⟨w1.heap.size, 0, none⟩) n n P) := by
    rcases HS0.out with h | ⟨k, h1, h2, h3, h4⟩
    · exact .inl h
    · exact .inr ⟨k, h1, h2, h3, fun j hj => (HB3.out.cell (p := ⟨k, j, none⟩) h2).trans (h4 j hj)⟩
  clear ha1 ha2 hb1 hb2 ho3 hb3 HS0 HS1
  go_wp2_with fail
  refine (zappend_any U.heap.size (0 + 8 + n) (.slice (some ⟨g1, 0, none⟩) (0 + 8 + n) cp1) ([] ++ framed P) none 0 0 ([] : List Int) w3 HO3.out HB3.out.size (by omega) HS13.out).mono ?_
  have hNN : 0 + 8 + n + 8 + 0 = 16 + n + 0 := by omega
  rw [hNN]
  clear hNN
  obtain ⟨N, hN⟩ : ∃ N, N = 16 + n + 0 := ⟨_, rfl⟩
  rw [← hN]
  have hlen : ((N : Int) != 16 + (n : Int)) = false := by rw [bne_eq_false_iff_eq]; omega
  have hNb : N ≤ 2000000 := by omega
  have HN : Hid (N = 16 + n + 0) := hN
  clear hN
  rintro e w4 ⟨g, cap, rfl, hg1, hg2, hc1, hc2, ho4, hb4⟩
  have HL : Hid (∀ j, j < N → w4.cell? ⟨g, j, none⟩ = (([] ++ framed P) ++ framed ([] : List Int))[j]?) := fun j hj => ho4.cellAt j (by omega)
  have HB4 : Hid (Below U.heap.size w3 w4) := hb4
  have HBa : Hid (Below w1.heap.size w1 w4) := HW.out.trans ((HB3.out.trans hb4).mono HW.out.size)
  have HG : Hid (g < w4.heap.size ∧ N ≤ cap ∧ cap ≤ maxLen) := ⟨hg2, hc1, hc2⟩
  have hsV : U.heap.size ≤ w4.heap.size := Nat.le_trans HB3.out.size hb4.size
  have HX4 : Hid (Bs w4 (some ⟨w1.heap.size, 0, none⟩) P ∧ ∀ a : Addr, ((some ⟨w1.heap.size, 0, none⟩) : Option Addr) = some a → a.block < w4.heap.size) := by
    rcases HS03.out with ⟨h0, _, _, h⟩ | ⟨k, h1, h2, h3, h4⟩
    · exact ⟨.inl h, fun a ha => by rw [h0] at ha; cases ha⟩
    · refine ⟨.inr ⟨k, 0, h1, by omega, fun j hj => ?_⟩, fun a ha => ?_⟩
      · rw [Nat.zero_add, hb4.cell (p := ⟨k, j, none⟩) h2]
        exact h4 j (by omega)
      · rw [h1] at ha; cases ha; show k < _; omega
  have HY4 : Hid (Bs w4 none ([] : List Int) ∧ ∀ a : Addr, (none : Option Addr) = some a → a.block < w4.heap.size) := by
    rcases HS13.out with ⟨h0, _, _, h⟩ | ⟨k, h1, h2, h3, h4⟩
    · exact ⟨.inl h, fun a ha => by rw [h0] at ha; cases ha⟩
    · refine ⟨.inr ⟨k, 0, h1, by omega, fun j hj => ?_⟩, fun a ha => ?_⟩
      · rw [Nat.zero_add, hb4.cell (p := ⟨k, j, none⟩) h2]
        exact h4 j (by omega)
      · rw [h1] at ha; cases ha; show k < _; omega
  clear ho4 hb4 HO3 HB3 HB4 HS03 HS13 hsV HW
  unfold maxLen at hc2
  go_wp2_with fail
  obtain ⟨HR1, HR2, HR3, HR4⟩ := frames P ([] : List Int) n 0 HP.out.1 (rfl : ([] : List Int).length = 0)
  generalize ([] ++ framed P) ++ framed ([] : List Int) = L at HL HR1 HR2 HR3 HR4
  refine (new_any g N cap 0 w4).mono ?_
  rintro e w5 ⟨rfl, hdec, hb5⟩
  have HB5 : Hid (Below w4.heap.size w4 w5) := hb5
  have HD5 : Hid (Dec w5 w4.heap.size g N cap 0 .nilIface) := hdec
  clear hdec hb5
  have HL5 : Hid (∀ W : World, Below w4.heap.size w4 W → ∀ j, j < N → W.cell? ⟨g, j, none⟩ = L[j]?) := fun W hW j hj => (hW.cell (p := ⟨g, j, none⟩) HG.out.1).trans (HL.out j hj)
  go_wp2_with fail
  refine (zu64_le w4.heap.size g N cap 0 n w5 HD5.out (by have := HN.out; omega) HG.out.2.1 HG.out.2.2 HG.out.1 (by omega) (fun j hj => ?_)).mono ?_
  · rw [HL5.out w5 HB5.out _ (by have := HN.out; omega)]
    exact HR1.out j hj
  rintro e w6 ⟨rfl, hdec, hb6⟩
  have HB6 : Hid (Below w4.heap.size w4 w6) := HB5.out.trans hb6
  have HD6 : Hid (Dec w6 w4.heap.size g N cap 8 .nilIface) := hdec
  clear hdec hb6 HB5 HD5 HR1
  go_wp2_with fail
  refine (ztake_ok w4.heap.size g N cap 8 n w6 HD6.out (by have := HN.out; omega) HG.out.2.1 HG.out.2.2 HG.out.1).mono ?_
  rintro e w7 ⟨⟨ao1, rfl, hao1⟩, hdec, hb7⟩
  have HB7 : Hid (Below w4.heap.size w4 w7) := HB6.out.trans hb7
  have HD7 : Hid (Dec w7 w4.heap.size g N cap (8 + n) .nilIface) := hdec
  have HA1 : Hid (n ≠ 0 → ao1 = some ⟨g, 8, none⟩) := hao1
  clear hdec hb7 hao1 HB6 HD6
  go_wp2_with fail
  refine (zu64_le w4.heap.size g N cap (8 + n) 0 w7 HD7.out (by have := HN.out; omega) HG.out.2.1 HG.out.2.2 HG.out.1 (by omega) (fun j hj => ?_)).mono ?_
  · rw [HL5.out w7 HB7.out _ (by have := HN.out; omega)]
    exact HR3.out j hj
  rintro e w8 ⟨rfl, hdec, hb8⟩
  have HB8 : Hid (Below w4.heap.size w4 w8) := HB7.out.trans hb8
  have HD8 : Hid (Dec w8 w4.heap.size g N cap (8 + n + 8) .nilIface) := hdec
  clear hdec hb8 HB7 HD7 HR3
  go_wp2_with fail
  refine (ztake_ok w4.heap.size g N cap (8 + n + 8) 0 w8 HD8.out (by have := HN.out; omega) HG.out.2.1 HG.out.2.2 HG.out.1).mono ?_
  rintro e w9 ⟨⟨ao2, rfl, hao2⟩, hdec, hb9⟩
  have HB9 : Hid (Below w4.heap.size w4 w9) := HB8.out.trans hb9
  have hEN : 8 + n + 8 + 0 = N := by have := HN.out; omega
  have HD9 : Hid (Dec w9 w4.heap.size g N cap N .nilIface) := by
    have h := hdec
    rw [hEN] at h
    exact h
  have HA2 : Hid (0 ≠ 0 → ao2 = some ⟨g, 8 + n + 8, none⟩) := hao2
  clear hdec hb9 hao2 HB8 HD8 hEN
  have HG9 : Hid (g < w9.heap.size) := Nat.lt_of_lt_of_le HG.out.1 HB9.out.size
  have HX9 : Hid (Bs w9 (some ⟨w1.heap.size, 0, none⟩) P) := HX4.out.1.below HB9.out HX4.out.2
  have HY9 : Hid (Bs w9 none ([] : List Int)) := HY4.out.1.below HB9.out HY4.out.2
  have HT1 : Hid (Bs w9 ao1 P) := by
    by_cases h0 : n = 0
    · exact .inl (List.eq_nil_of_length_eq_zero (by rw [HP.out.1]; exact h0))
    · rw [HA1.out h0]
      exact row_part (HL5.out w9 HB9.out) HG9.out _ 8 (by have := HN.out; have := HP.out.1; omega) HR2.out
  have HT2 : Hid (Bs w9 ao2 ([] : List Int)) := by
    by_cases h0 : 0 = 0
    · exact .inl (List.eq_nil_of_length_eq_zero (by rw [(rfl : ([] : List Int).length = 0)]; exact h0))
    · rw [HA2.out h0]
      exact row_part (HL5.out w9 HB9.out) HG9.out _ (8 + n + 8) (by have := HN.out; have := (rfl : ([] : List Int).length = 0); omega) HR4.out
  clear HL HR2 HR4 HA1 HA2 HX4 HY4 HL5
  go_wp2_with fail
  refine (eq_len ao1 (some ⟨w1.heap.size, 0, none⟩) _ _ n P w9 HP.out.1 (by unfold maxLen; omega) HT1.out HX9.out).mono ?_
  rintro e wa ⟨rfl, na, rfl⟩
  go_wp2_with fail
  refine (eq_len ao2 none _ _ 0 ([] : List Int) (w9.drewN na) (rfl : ([] : List Int).length = 0) (by unfold maxLen; omega) (HT2.out.drewN na) (HY9.out.drewN na)).mono ?_
  rintro e wb ⟨rfl, nb, hwb⟩
  have HBb : Hid (Below w9.heap.size w9 wb) := by subst hwb; exact ⟨rfl, rfl, rfl, Nat.le_refl _, fun _ _ => rfl⟩
  clear hwb
  have HDb : Hid (Dec wb w4.heap.size g N cap N .nilIface) := HD9.out.below HBb.out HD9.out.lt
  have HBc : Hid (Below w1.heap.size w1 wb) := HBa.out.trans (((HB9.out.trans (HBb.out.mono HB9.out.size))).mono HBa.out.size)
  have HFb : Hid (F.answers wb.tape) := by rw [HBc.out.tape]; exact HF.out
  clear HT1 HT2 HX9 HY9 HD9 HB9 HBb HF
  go_wp2_with fail
  have HO : Hid (∀ W : World, W = wb → Calls Tryf.prog 10 #[.pointer (some ⟨w4.heap.size, 0, none⟩)] W fun e w' => e = .returned (.int .i64 N) ∧ w' = wb) := fun W h => by subst h; exact off_any _ _ _ _ _ _ _ HDb.out
  have HE : Hid (∀ W : World, W = wb → Calls Tryf.prog 11 #[.pointer (some ⟨w4.heap.size, 0, none⟩)] W fun e w' => e = .returned .nilIface ∧ w' = wb) := fun W h => by subst h; exact err_any _ _ _ _ _ _ _ HDb.out
  refine (HE.out _ rfl).mono ?_
  rintro e wc ⟨rfl, hwc⟩
  rw [hwc]
  clear hwc wc
  go_wp2_with fail
  refine (HO.out _ rfl).mono ?_
  rintro e wc ⟨rfl, hwc⟩
  rw [hwc]
  clear hwc wc HO HE
  go_wp2_with fail
  refine (zu64_no F w4.heap.size g N cap N wb HFb.out HDb.out (by omega) (Nat.le_refl _) HG.out.2.1 HG.out.2.2).mono ?_
  rintro e wd ⟨rfl, ⟨ae, hdec⟩, hbd⟩
  have HDd : Hid (Dec wd w4.heap.size g N cap N (.iface 48 (.pointer (some ae)))) := hdec
  have HBd : Hid (Below w1.heap.size w1 wd) := HBc.out.trans (hbd.mono HBa.out.size)
  clear hdec hbd HDb HBc HFb
  have heq : ((N : Int) == 16 + (n : Int)) = true := by rw [beq_iff_eq]; have := HN.out; omega
  go_wp2_with fail
  have HO : Hid (∀ W : World, W = wd → Calls Tryf.prog 10 #[.pointer (some ⟨w4.heap.size, 0, none⟩)] W fun e w' => e = .returned (.int .i64 N) ∧ w' = wd) := fun W h => by subst h; exact off_any _ _ _ _ _ _ _ HDd.out
  have HE : Hid (∀ W : World, W = wd → Calls Tryf.prog 11 #[.pointer (some ⟨w4.heap.size, 0, none⟩)] W fun e w' => e = .returned (.iface 48 (.pointer (some ae))) ∧ w' = wd) := fun W h => by subst h; exact err_any _ _ _ _ _ _ _ HDd.out
  refine (HE.out _ rfl).mono ?_
  rintro e wc ⟨rfl, hwc⟩
  rw [hwc]
  clear hwc wc
  go_wp2_with fail
  refine (HO.out _ rfl).mono ?_
  rintro e wc ⟨rfl, hwc⟩
  rw [hwc]
  clear hwc wc HO HE
  go_wp2
  go_ret
  exact ⟨rfl, HBd.out⟩

set_option maxHeartbeats 4000000 in
theorem law2_ns (F : Interp) (x1 : Addr) (m cap1 : Nat) (z1 : List Int) (w : World) (hF : F.answers w.tape) (r1 : IsRow .u8 w (some x1) m cap1 z1) :
    Calls Tryf.prog 4 #[.slice none 0 0, .slice (some x1) m cap1] w fun e w' => e = .returned (.bool true) ∧ Below w.heap.size w w' := by
  have HF : Hid (F.answers w.tape) := hF
  clear hF
  have l1 : m ≤ maxLen := by rcases r1 with ⟨h, _⟩ | ⟨_, _, h, h', _⟩; (· cases h); omega
  obtain ⟨d1, d2, d3, d4⟩ := isRow_some r1
  clear r1
  generalize z1.take m = Q at d1 d2 d4
  have HQ : Hid (Q.length = m ∧ (∀ i, i < m → w.cell? (x1.add i) = some (.int .u8 (Q.getD i 0))) ∧ (m ≠ 0 → x1.block < w.heap.size)) := ⟨d1, d2, d3⟩
  clear d1 d2 d3 d4
  have HZ : Hid (Calls Tryf.prog 13 #[.slice none 0 0, .slice (some x1) m cap1] w fun e w' => (∃ r, e = .returned (.bool r)) ∧ w' = w) := bytes13_any none (some x1) 0 0 m cap1 w (by decide) l1
  unfold maxLen at *
  have hq := neq22
  go_enter Tryf.func4, Tryf.ntmps4
  go_wp2_with fail
  refine HZ.out.mono ?_
  rintro e w1 ⟨⟨r, rfl⟩, rfl⟩
  clear HZ
  cases r
  · go_wp2
    go_ret
    exact ⟨rfl, Below.refl _ _⟩
  go_wp2_with fail
  all_goals try (go_ret; exact ⟨rfl, Below.refl _ _⟩)
  have HWa : Hid (Below w1.heap.size w1 w1) := Below.refl _ _
  have HSa : Hid (Src0 w1 w1.heap.size none 0 0 []) := .inl ⟨rfl, rfl, rfl, rfl⟩
  have HQ2 : Hid (∀ i, i < m → w1.cell? (x1.add i) = some (.int .u8 (Q.getD i 0))) := fun i hi => by
    have h := HQ.out.2.1 i hi
    rw [HWa.out.cell (p := x1.add i) (cell_lt h)]
    exact h
  have hk := run_make5 m w1 (by omega)
  have hy := run_copy5 x1 cap1 m Q HQ.out.1 w1 HQ2.out (fun h0 => Nat.lt_of_lt_of_le (HQ.out.2.2 h0) HWa.out.size)
  go_simp
  go_wp2_with fail
  clear hk hy HQ2
  have HWb : Hid (Below w1.heap.size w1 (w1.alloc (.cells (Q.map (Value.int .u8)).toArray 5))) := (Below.refl _ _).alloc (Nat.le_refl _) _
  have HSb : Hid (Src0 (w1.alloc (.cells (Q.map (Value.int .u8)).toArray 5)) (w1.heap.size + 1) (some ⟨w1.heap.size, 0, none⟩) m m Q) := by
    refine .inr ⟨_, rfl, by omega, HQ.out.1, fun j hj => ?_⟩
    rw [cell_of_row _ _ j _ _ _ (heap_alloc_last w1 _)]
    have := HQ.out.1
    simp [List.getD, show j < Q.length by omega]
  have hsz : (w1.alloc (.cells (Q.map (Value.int .u8)).toArray 5)).heap.size = w1.heap.size + 1 := by simp
  have HVb : Hid ((w1.alloc (.cells (Q.map (Value.int .u8)).toArray 5)).heap.size = w1.heap.size + 1) := hsz
  clear hsz
  generalize (w1.alloc (.cells (Q.map (Value.int .u8)).toArray 5)) = V at HWb HSb HVb ⊢
  clear hq
  have HS0 : Hid (Src0 V V.heap.size none 0 0 ([] : List Int)) := by
    rcases HSa.out with h | ⟨k, h1, h2, h3, h4⟩
    · exact .inl h
    · have hU := (rfl : w1.heap.size = w1.heap.size); have hV := HWb.out.size
      exact .inr ⟨k, h1, by omega, h3, fun j hj => (HWb.out.cell (p := ⟨k, j, none⟩) (show k < w1.heap.size by omega)).trans (h4 j hj)⟩
  have HS1 : Hid (Src0 V V.heap.size (some ⟨w1.heap.size, 0, none⟩) m m Q) := by
    rcases HSb.out with h | ⟨k, h1, h2, h3, h4⟩
    · exact .inl h
    · have hV := HVb.out
      exact .inr ⟨k, h1, by omega, h3, h4⟩
  have HW : Hid (Below w1.heap.size w1 V) := HWa.out.trans (HWb.out.mono HWa.out.size)
  clear HSa HSb HWa HWb HVb
  go_wp2_with fail
  refine (zappend_any V.heap.size 0 (.slice none 0 0) [] none 0 0 ([] : List Int) V (World.ownsRow_nil _ _ _ _) (Nat.le_refl _) (by omega) HS0.out).mono ?_
  rintro e w3 ⟨g1, cp1, rfl, ha1, ha2, hb1, hb2, ho3, hb3⟩
  have HO3 : Hid (w3.ownsRow V.heap.size 5 1 (.slice (some ⟨g1, 0, none⟩) (0 + 8 + 0) cp1) (0 + 8 + 0) ([] ++ framed ([] : List Int))) := ho3
  have HB3 : Hid (Below V.heap.size V w3) := hb3
  have HS13 : Hid (Src0 w3 V.heap.size (some ⟨w1.heap.size, 0, none⟩) m m Q) := by
    rcases HS1.out with h | ⟨k, h1, h2, h3, h4⟩
    · exact .inl h
    · exact .inr ⟨k, h1, h2, h3, fun j hj => (HB3.out.cell (p := ⟨k, j, none⟩) h2).trans (h4 j hj)⟩
  have HS03 : Hid (Src0 w3 V.heap.size none 0 0 ([] : List Int)) := by
    rcases HS0.out with h | ⟨k, h1, h2, h3, h4⟩
    · exact .inl h
    · exact .inr ⟨k, h1, h2, h3, fun j hj => (HB3.out.cell (p := ⟨k, j, none⟩) h2).trans (h4 j hj)⟩
  clear ha1 ha2 hb1 hb2 ho3 hb3 HS0 HS1
  go_wp2_with fail
  refine (zappend_any V.heap.size (0 + 8 + 0) (.slice (some ⟨g1, 0, none⟩) (0 + 8 + 0) cp1) ([] ++ framed ([] : List Int)) (some ⟨w1.heap.size, 0, none⟩) m m Q w3 HO3.out HB3.out.size (by omega) HS13.out).mono ?_
  have hNN : 0 + 8 + 0 + 8 + m = 16 + 0 + m := by omega
  rw [hNN]
  clear hNN
  obtain ⟨N, hN⟩ : ∃ N, N = 16 + 0 + m := ⟨_, rfl⟩
  rw [← hN]
  have hlen : ((N : Int) != 16 + (m : Int)) = false := by rw [bne_eq_false_iff_eq]; omega
  have hNb : N ≤ 2000000 := by omega
  have HN : Hid (N = 16 + 0 + m) := hN
  clear hN
  rintro e w4 ⟨g, cap, rfl, hg1, hg2, hc1, hc2, ho4, hb4⟩
  have HL : Hid (∀ j, j < N → w4.cell? ⟨g, j, none⟩ = (([] ++ framed ([] : List Int)) ++ framed Q)[j]?) := fun j hj => ho4.cellAt j (by omega)
  have HB4 : Hid (Below V.heap.size w3 w4) := hb4
  have HBa : Hid (Below w1.heap.size w1 w4) := HW.out.trans ((HB3.out.trans hb4).mono HW.out.size)
  have HG : Hid (g < w4.heap.size ∧ N ≤ cap ∧ cap ≤ maxLen) := ⟨hg2, hc1, hc2⟩
  have hsV : V.heap.size ≤ w4.heap.size := Nat.le_trans HB3.out.size hb4.size
  have HX4 : Hid (Bs w4 none ([] : List Int) ∧ ∀ a : Addr, (none : Option Addr) = some a → a.block < w4.heap.size) := by
    rcases HS03.out with ⟨h0, _, _, h⟩ | ⟨k, h1, h2, h3, h4⟩
    · exact ⟨.inl h, fun a ha => by rw [h0] at ha; cases ha⟩
    · refine ⟨.inr ⟨k, 0, h1, by omega, fun j hj => ?_⟩, fun a ha => ?_⟩
      · rw [Nat.zero_add, hb4.cell (p := ⟨k, j, none⟩) h2]
        exact h4 j (by omega)
      · rw [h1] at ha; cases ha; show k < _; omega
  have HY4 : Hid (Bs w4 (some ⟨w1.heap.size, 0, none⟩) Q ∧ ∀ a : Addr, ((some ⟨w1.heap.size, 0, none⟩) : Option Addr) = some a → a.block < w4.heap.size) := by
    rcases HS13.out with ⟨h0, _, _, h⟩ | ⟨k, h1, h2, h3, h4⟩
    · exact ⟨.inl h, fun a ha => by rw [h0] at ha; cases ha⟩
    · refine ⟨.inr ⟨k, 0, h1, by omega, fun j hj => ?_⟩, fun a ha => ?_⟩
      · rw [Nat.zero_add, hb4.cell (p := ⟨k, j, none⟩) h2]
        exact h4 j (by omega)
      · rw [h1] at ha; cases ha; show k < _; omega
  clear ho4 hb4 HO3 HB3 HB4 HS03 HS13 hsV HW
  unfold maxLen at hc2
  go_wp2_with fail
  obtain ⟨HR1, HR2, HR3, HR4⟩ := frames ([] : List Int) Q 0 m (rfl : ([] : List Int).length = 0) HQ.out.1
  generalize ([] ++ framed ([] : List Int)) ++ framed Q = L at HL HR1 HR2 HR3 HR4
  refine (new_any g N cap 0 w4).mono ?_
  rintro e w5 ⟨rfl, hdec, hb5⟩
  have HB5 : Hid (Below w4.heap.size w4 w5) := hb5
  have HD5 : Hid (Dec w5 w4.heap.size g N cap 0 .nilIface) := hdec
  clear hdec hb5
  have HL5 : Hid (∀ W : World, Below w4.heap.size w4 W → ∀ j, j < N → W.cell? ⟨g, j, none⟩ = L[j]?) := fun W hW j hj => (hW.cell (p := ⟨g, j, none⟩) HG.out.1).trans (HL.out j hj)
  go_wp2_with fail
  refine (zu64_le w4.heap.size g N cap 0 0 w5 HD5.out (by have := HN.out; omega) HG.out.2.1 HG.out.2.2 HG.out.1 (by omega) (fun j hj => ?_)).mono ?_
  · rw [HL5.out w5 HB5.out _ (by have := HN.out; omega)]
    exact HR1.out j hj
  rintro e w6 ⟨rfl, hdec, hb6⟩
  have HB6 : Hid (Below w4.heap.size w4 w6) := HB5.out.trans hb6
  have HD6 : Hid (Dec w6 w4.heap.size g N cap 8 .nilIface) := hdec
  clear hdec hb6 HB5 HD5 HR1
  go_wp2_with fail
  refine (ztake_ok w4.heap.size g N cap 8 0 w6 HD6.out (by have := HN.out; omega) HG.out.2.1 HG.out.2.2 HG.out.1).mono ?_
  rintro e w7 ⟨⟨ao1, rfl, hao1⟩, hdec, hb7⟩
  have HB7 : Hid (Below w4.heap.size w4 w7) := HB6.out.trans hb7
  have HD7 : Hid (Dec w7 w4.heap.size g N cap (8 + 0) .nilIface) := hdec
  have HA1 : Hid (0 ≠ 0 → ao1 = some ⟨g, 8, none⟩) := hao1
  clear hdec hb7 hao1 HB6 HD6
  go_wp2_with fail
  refine (zu64_le w4.heap.size g N cap (8 + 0) m w7 HD7.out (by have := HN.out; omega) HG.out.2.1 HG.out.2.2 HG.out.1 (by omega) (fun j hj => ?_)).mono ?_
  · rw [HL5.out w7 HB7.out _ (by have := HN.out; omega)]
    exact HR3.out j hj
  rintro e w8 ⟨rfl, hdec, hb8⟩
  have HB8 : Hid (Below w4.heap.size w4 w8) := HB7.out.trans hb8
  have HD8 : Hid (Dec w8 w4.heap.size g N cap (8 + 0 + 8) .nilIface) := hdec
  clear hdec hb8 HB7 HD7 HR3
  go_wp2_with fail
  refine (ztake_ok w4.heap.size g N cap (8 + 0 + 8) m w8 HD8.out (by have := HN.out; omega) HG.out.2.1 HG.out.2.2 HG.out.1).mono ?_
  rintro e w9 ⟨⟨ao2, rfl, hao2⟩, hdec, hb9⟩
  have HB9 : Hid (Below w4.heap.size w4 w9) := HB8.out.trans hb9
  have hEN : 8 + 0 + 8 + m = N := by have := HN.out; omega
  have HD9 : Hid (Dec w9 w4.heap.size g N cap N .nilIface) := by
    have h := hdec
    rw [hEN] at h
    exact h
  have HA2 : Hid (m ≠ 0 → ao2 = some ⟨g, 8 + 0 + 8, none⟩) := hao2
  clear hdec hb9 hao2 HB8 HD8 hEN
  have HG9 : Hid (g < w9.heap.size) := Nat.lt_of_lt_of_le HG.out.1 HB9.out.size
  have HX9 : Hid (Bs w9 none ([] : List Int)) := HX4.out.1.below HB9.out HX4.out.2
  have HY9 : Hid (Bs w9 (some ⟨w1.heap.size, 0, none⟩) Q) := HY4.out.1.below HB9.out HY4.out.2
  have HT1 : Hid (Bs w9 ao1 ([] : List Int)) := by
    by_cases h0 : 0 = 0
    · exact .inl (List.eq_nil_of_length_eq_zero (by rw [(rfl : ([] : List Int).length = 0)]; exact h0))
    · rw [HA1.out h0]
      exact row_part (HL5.out w9 HB9.out) HG9.out _ 8 (by have := HN.out; have := (rfl : ([] : List Int).length = 0); omega) HR2.out
  have HT2 : Hid (Bs w9 ao2 Q) := by
    by_cases h0 : m = 0
    · exact .inl (List.eq_nil_of_length_eq_zero (by rw [HQ.out.1]; exact h0))
    · rw [HA2.out h0]
      exact row_part (HL5.out w9 HB9.out) HG9.out _ (8 + 0 + 8) (by have := HN.out; have := HQ.out.1; omega) HR4.out
  clear HL HR2 HR4 HA1 HA2 HX4 HY4 HL5
  go_wp2_with fail
  refine (eq_len ao1 none _ _ 0 ([] : List Int) w9 (rfl : ([] : List Int).length = 0) (by unfold maxLen; omega) HT1.out HX9.out).mono ?_
  rintro e wa ⟨rfl, na, rfl⟩
  go_wp2_with fail
  refine (eq_len ao2 (some ⟨w1.heap.size, 0, none⟩) _ _ m Q (w9.drewN na) HQ.out.1 (by unfold maxLen; omega) (HT2.out.drewN na) (HY9.out.drewN na)).mono ?_
  rintro e wb ⟨rfl, nb, hwb⟩
  have HBb : Hid (Below w9.heap.size w9 wb) := by subst hwb; exact ⟨rfl, rfl, rfl, Nat.le_refl _, fun _ _ => rfl⟩
  clear hwb
  have HDb : Hid (Dec wb w4.heap.size g N cap N .nilIface) := HD9.out.below HBb.out HD9.out.lt
  have HBc : Hid (Below w1.heap.size w1 wb) := HBa.out.trans (((HB9.out.trans (HBb.out.mono HB9.out.size))).mono HBa.out.size)
  have HFb : Hid (F.answers wb.tape) := by rw [HBc.out.tape]; exact HF.out
  clear HT1 HT2 HX9 HY9 HD9 HB9 HBb HF
  go_wp2_with fail
  have HO : Hid (∀ W : World, W = wb → Calls Tryf.prog 10 #[.pointer (some ⟨w4.heap.size, 0, none⟩)] W fun e w' => e = .returned (.int .i64 N) ∧ w' = wb) := fun W h => by subst h; exact off_any _ _ _ _ _ _ _ HDb.out
  have HE : Hid (∀ W : World, W = wb → Calls Tryf.prog 11 #[.pointer (some ⟨w4.heap.size, 0, none⟩)] W fun e w' => e = .returned .nilIface ∧ w' = wb) := fun W h => by subst h; exact err_any _ _ _ _ _ _ _ HDb.out
  refine (HE.out _ rfl).mono ?_
  rintro e wc ⟨rfl, hwc⟩
  rw [hwc]
  clear hwc wc
  go_wp2_with fail
  refine (HO.out _ rfl).mono ?_
  rintro e wc ⟨rfl, hwc⟩
  rw [hwc]
  clear hwc wc HO HE
  go_wp2_with fail
  refine (zu64_no F w4.heap.size g N cap N wb HFb.out HDb.out (by omega) (Nat.le_refl _) HG.out.2.1 HG.out.2.2).mono ?_
  rintro e wd ⟨rfl, ⟨ae, hdec⟩, hbd⟩
  have HDd : Hid (Dec wd w4.heap.size g N cap N (.iface 48 (.pointer (some ae)))) := hdec
  have HBd : Hid (Below w1.heap.size w1 wd) := HBc.out.trans (hbd.mono HBa.out.size)
  clear hdec hbd HDb HBc HFb
  have heq : ((N : Int) == 16 + (m : Int)) = true := by rw [beq_iff_eq]; have := HN.out; omega
  go_wp2_with fail
  have HO : Hid (∀ W : World, W = wd → Calls Tryf.prog 10 #[.pointer (some ⟨w4.heap.size, 0, none⟩)] W fun e w' => e = .returned (.int .i64 N) ∧ w' = wd) := fun W h => by subst h; exact off_any _ _ _ _ _ _ _ HDd.out
  have HE : Hid (∀ W : World, W = wd → Calls Tryf.prog 11 #[.pointer (some ⟨w4.heap.size, 0, none⟩)] W fun e w' => e = .returned (.iface 48 (.pointer (some ae))) ∧ w' = wd) := fun W h => by subst h; exact err_any _ _ _ _ _ _ _ HDd.out
  refine (HE.out _ rfl).mono ?_
  rintro e wc ⟨rfl, hwc⟩
  rw [hwc]
  clear hwc wc
  go_wp2_with fail
  refine (HO.out _ rfl).mono ?_
  rintro e wc ⟨rfl, hwc⟩
  rw [hwc]
  clear hwc wc HO HE
  go_wp2
  go_ret
  exact ⟨rfl, HBd.out⟩

/-- THE WALK OF THE SECOND LAW. -/
theorem law2_any (F : Interp) (a0 : Option Addr) (len0 cap0 : Nat) (z0 : List Int) (a1 : Option Addr) (len1 cap1 : Nat) (z1 : List Int) (w : World) (hF : F.answers w.tape) (r0 : IsRow .u8 w a0 len0 cap0 z0) (r1 : IsRow .u8 w a1 len1 cap1 z1) :
    Calls Tryf.prog 4 #[.slice a0 len0 cap0, .slice a1 len1 cap1] w fun e w' => e = .returned (.bool true) ∧ Below w.heap.size w w' := by
  cases a0 with
  | none =>
    obtain ⟨rfl, rfl⟩ : len0 = 0 ∧ cap0 = 0 := by rcases r0 with ⟨_, h1, h2, _⟩ | ⟨_, h, _⟩; (· exact ⟨h1, h2⟩); cases h
    cases a1 with
    | none =>
      obtain ⟨rfl, rfl⟩ : len1 = 0 ∧ cap1 = 0 := by rcases r1 with ⟨_, h1, h2, _⟩ | ⟨_, h, _⟩; (· exact ⟨h1, h2⟩); cases h
      exact law2_nn F w hF
    | some x1 => exact law2_ns F x1 len1 cap1 z1 w hF r1
  | some x0 =>
    cases a1 with
    | none =>
      obtain ⟨rfl, rfl⟩ : len1 = 0 ∧ cap1 = 0 := by rcases r1 with ⟨_, h1, h2, _⟩ | ⟨_, h, _⟩; (· exact ⟨h1, h2⟩); cases h
      exact law2_sn F x0 len0 cap0 z0 w hF r0
    | some x1 => exact law2_ss F x0 len0 cap0 z0 x1 len1 cap1 z1 w hF r0 r1
end Go.Proofs.Qxb6616507aFmt

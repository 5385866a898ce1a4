import Derived.Test.Qxb6616507aFmtCore
namespace Go.Proofs.Qxb6616507aFmt
open Go.RowKit
set_option linter.unusedVariables false

set_option maxHeartbeats 4000000 in
theorem law1_ss (x0 : Addr) (n cap0 : Nat) (z0 : List Int) (x1 : Addr) (m cap1 : Nat) (z1 : List Int) (w : World) (r0 : IsRow .u8 w (some x0) n cap0 z0) (r1 : IsRow .u8 w (some x1) m cap1 z1) :
    Calls Tryf.prog 3 #[.slice (some x0) n cap0, .slice (some x1) m cap1] w fun e w' => e = .returned (.bool true) ∧ Below w.heap.size w w' := by
  have l0 : n ≤ maxLen := by rcases r0 with ⟨h, _⟩ | ⟨_, _, h, h', _⟩; (· cases h); omega
  obtain ⟨p1, p2, p3, p4⟩ := isRow_some r0
  clear r0
  generalize z0.take n = P at p1 p2 p4
  have HP : Hid (P.length = n ∧ (∀ i, i < n → w.cell? (x0.add i) = some (.int .u8 (P.getD i 0))) ∧ (n ≠ 0 → x0.block < w.heap.size) ∧ Bs w (some x0) P) := ⟨p1, p2, p3, p4⟩
  clear p1 p2 p3 p4
  have l1 : m ≤ maxLen := by rcases r1 with ⟨h, _⟩ | ⟨_, _, h, h', _⟩; (· cases h); omega
  obtain ⟨d1, d2, d3, d4⟩ := isRow_some r1
  clear r1
  generalize z1.take m = Q at d1 d2 d4
  have HQ : Hid (Q.length = m ∧ (∀ i, i < m → w.cell? (x1.add i) = some (.int .u8 (Q.getD i 0))) ∧ (m ≠ 0 → x1.block < w.heap.size) ∧ Bs w (some x1) Q) := ⟨d1, d2, d3, d4⟩
  clear d1 d2 d3 d4
  have HZ : Hid (Calls Tryf.prog 5 #[.slice (some x0) n cap0, .slice (some x1) m cap1] w fun e w' => (∃ r, e = .returned (.bool r)) ∧ w' = w) := bytes5_any (some x0) (some x1) n cap0 m cap1 w l0 l1
  unfold maxLen at *
  have hq := neq22
  have hk := fun h : m ≤ 281474976710656 => run_make5 m w h
  have hy := run_copy5 x1 cap1 m Q HQ.out.1 w HQ.out.2.1 HQ.out.2.2.1
  go_enter Tryf.func3, Tryf.ntmps3
  go_wp2_with fail
  refine HZ.out.mono ?_
  rintro e w1 ⟨⟨r, rfl⟩, rfl⟩
  clear HZ
  cases r
  · go_wp2
    go_ret
    exact ⟨rfl, Below.refl _ _⟩
  go_wp2_with fail
  all_goals try (go_ret; exact ⟨rfl, Below.refl _ _⟩)
  have hk' := hk (by omega)
  clear hk
  go_simp
  go_wp2_with fail
  clear hk' hy
  clear hq
  have HW : Hid (Below w1.heap.size w1 (w1.alloc (.cells (Q.map (Value.int .u8)).toArray 5))) := (Below.refl _ _).alloc (Nat.le_refl _) _
  have HS : Hid (Src0 (w1.alloc (.cells (Q.map (Value.int .u8)).toArray 5)) (w1.heap.size + 1) (some ⟨w1.heap.size, 0, none⟩) m m Q) := by
    refine .inr ⟨_, rfl, by omega, HQ.out.1, fun j hj => ?_⟩
    rw [cell_of_row _ _ j _ _ _ (heap_alloc_last w1 _)]
    have := HQ.out.1
    simp [List.getD, show j < Q.length by omega]
  have hsz : (w1.alloc (.cells (Q.map (Value.int .u8)).toArray 5)).heap.size = w1.heap.size + 1 := by simp
  have HV : Hid ((w1.alloc (.cells (Q.map (Value.int .u8)).toArray 5)).heap.size = w1.heap.size + 1) := hsz
  clear hsz
  generalize (w1.alloc (.cells (Q.map (Value.int .u8)).toArray 5)) = W at HW HS HV ⊢
  refine (clone_some x0 n cap0 P W HP.out.1 (by omega) (fun i hi => ?_) (fun h0 => Nat.lt_of_lt_of_le (HP.out.2.2.1 h0) HW.out.size)).mono ?_
  · have hbl : (x0.add i).block < w1.heap.size := cell_lt (HP.out.2.1 i hi)
    rw [HW.out.cell (p := x0.add i) hbl]
    exact HP.out.2.1 i hi
  rintro e w2 ⟨rfl, hw2⟩
  have HO : Hid (w2.ownsRow (w1.heap.size + 1) 5 1 (.slice (some ⟨W.heap.size, 0, none⟩) n n) n (P.map (Value.int .u8))) := by
    subst hw2
    unfold Hid
    have h := World.ownsRow_lit (base := w1.heap.size + 1) (e := 5) (size := 1) W (P.map (Value.int .u8)).toArray n (by rw [HV.out]; omega) (by unfold maxLen; omega) (by simp [HP.out.1])
    simpa using h
  have HW2 : Hid (Below (w1.heap.size + 1) W w2) := by subst hw2; exact (Below.refl _ _).alloc (by rw [HV.out]; omega) _
  clear hw2
  have HS2 : Hid (Src0 w2 (w1.heap.size + 1) (some ⟨w1.heap.size, 0, none⟩) m m Q) := by
    rcases HS.out with h | ⟨k, h1, h2, h3, h4⟩
    · exact .inl h
    · exact .inr ⟨k, h1, h2, h3, fun j hj => (HW2.out.cell (p := ⟨k, j, none⟩) h2).trans (h4 j hj)⟩
  go_wp2_with fail
  refine (zappend_any (w1.heap.size + 1) n (.slice (some ⟨W.heap.size, 0, none⟩) n n) (P.map (Value.int .u8)) (some ⟨w1.heap.size, 0, none⟩) m m Q w2 HO.out (by have := HW2.out.size; have := HV.out; omega) (by omega) HS2.out).mono ?_
  rintro e w3 ⟨g, cap, rfl, hg1, hg2, hc1, hc2, ho3, hb3⟩
  have HL : Hid (∀ j, j < n + 8 + m → w3.cell? ⟨g, j, none⟩ = ((P.map (Value.int .u8)) ++ framed Q)[j]?) := fun j hj => ho3.cellAt j (by omega)
  have HB3 : Hid (Below w1.heap.size w1 w3) := HW.out.trans ((HW2.out.mono (by omega)).trans (hb3.mono (by omega)))
  have HS3 : Hid (Bs w3 (some ⟨w1.heap.size, 0, none⟩) Q) := by
    rcases HS2.out with ⟨_, _, _, h⟩ | ⟨k, h1, h2, h3, h4⟩
    · exact .inl h
    · refine .inr ⟨k, 0, h1, by have := hb3.size; have := HW2.out.size; have := HV.out; omega, fun j hj => ?_⟩
      rw [Nat.zero_add, hb3.cell (p := ⟨k, j, none⟩) h2]
      exact h4 j (by omega)
  have hd0 : ∀ a : Addr, ((some ⟨w1.heap.size, 0, none⟩) : Option Addr) = some a → a.block < w3.heap.size := by
    intro a ha
    have := hb3.size; have := HW2.out.size; have := HV.out
    cases ha; show w1.heap.size < _; omega
  have HD0 : Hid (∀ a : Addr, ((some ⟨w1.heap.size, 0, none⟩) : Option Addr) = some a → a.block < w3.heap.size) := hd0
  have HG : Hid (g < w3.heap.size ∧ n + 8 + m ≤ cap ∧ cap ≤ maxLen) := ⟨hg2, hc1, hc2⟩
  clear ho3 hb3 hd0 HS2 HO HW2 HS
  unfold maxLen at hc2
  go_wp2_with fail
  refine (new_any g (n + 8 + m) cap n w3).mono ?_
  rintro e w4 ⟨rfl, hdec, hb4⟩
  have HB4 : Hid (Below w3.heap.size w3 w4) := hb4
  have HD4 : Hid (Dec w4 w3.heap.size g (n + 8 + m) cap n .nilIface) := hdec
  clear hdec hb4
  go_wp2_with fail
  refine (zu64_le w3.heap.size g (n + 8 + m) cap n m w4 HD4.out (by omega) HG.out.2.1 HG.out.2.2 HG.out.1 (by omega) (fun j hj => ?_)).mono ?_
  · rw [HB4.out.cell (p := ⟨g, n + j, none⟩) HG.out.1, HL.out _ (by omega)]
    unfold framed
    have hlen : ((P.map (Value.int .u8))).length = n := (by rw [List.length_map]; exact HP.out.1)
    have := list_mid (P.map (Value.int .u8)) (Lib.byteCells (Lib.leBytes 8 (Q).length)) ((Q).map (Value.int .u8)) j (by rw [Lib.byteCells_length, Lib.leBytes_length]; exact hj)
    rw [hlen] at this
    rw [this, HQ.out.1]
  rintro e w5 ⟨rfl, hdec, hb5⟩
  have HB5 : Hid (Below w3.heap.size w4 w5) := hb5
  have HD5 : Hid (Dec w5 w3.heap.size g (n + 8 + m) cap (n + 8) .nilIface) := hdec
  clear hdec hb5
  have HL5 : Hid (∀ j, j < n + 8 + m → w5.cell? ⟨g, j, none⟩ = ((P.map (Value.int .u8)) ++ framed Q)[j]?) := fun j hj => by
    rw [HB5.out.cell (p := ⟨g, j, none⟩) HG.out.1, HB4.out.cell (p := ⟨g, j, none⟩) HG.out.1]
    exact HL.out j hj
  have HB15 : Hid (Below w1.heap.size w1 w5) := HB3.out.trans ((HB4.out.mono HB3.out.size).trans (HB5.out.mono HB3.out.size))
  have HS5 : Hid (Bs w5 (some ⟨w1.heap.size, 0, none⟩) Q) := (HS3.out.below HB4.out HD0.out).below HB5.out HD0.out
  have HG5 : Hid (g < w5.heap.size) := Nat.lt_of_lt_of_le HG.out.1 (Nat.le_trans HB4.out.size HB5.out.size)
  have HP5 : Hid (Bs w5 (some x0) P) := by
    rcases HP.out.2.2.2 with h | ⟨g', o', h1, h2, h3⟩
    · exact .inl h
    · exact .inr ⟨g', o', h1, Nat.lt_of_lt_of_le h2 HB15.out.size, fun j hj => (HB15.out.cell (p := ⟨g', o' + j, none⟩) h2).trans (h3 j hj)⟩
  have HE1 : Hid (Bs w5 (some ⟨g, 0, none⟩) P) := row_part HL5.out HG5.out P 0 (by have := HP.out.1; omega) (fun j hj => list_head P _ j hj)
  have HE2 : Hid (Bs w5 (some ⟨g, n + 8, none⟩) Q) := row_part HL5.out HG5.out Q (n + 8) (by have := HQ.out.1; omega) (fun j hj => list_end _ _ Q _ j (by rw [Lib.byteCells_length, Lib.leBytes_length, List.length_map, HP.out.1]) hj)
  go_wp2_with fail
  clear HL HS3 HD0 HB4 HD4 HB5 HB3 HG
  have HO5 : Hid (∀ W : World, W = w5 → Calls Tryf.prog 10 #[.pointer (some ⟨w3.heap.size, 0, none⟩)] W fun e w' => e = .returned (.int .i64 ((n + 8 : Nat) : Int)) ∧ w' = w5) := fun W h => by subst h; exact off_any _ _ _ _ _ _ _ HD5.out
  have HR5 : Hid (∀ W : World, W = w5 → Calls Tryf.prog 11 #[.pointer (some ⟨w3.heap.size, 0, none⟩)] W fun e w' => e = .returned .nilIface ∧ w' = w5) := fun W h => by subst h; exact err_any _ _ _ _ _ _ _ HD5.out
  refine (HO5.out _ rfl).mono ?_
  rintro e w6 ⟨rfl, hw6⟩
  rw [hw6]
  clear hw6 w6
  go_wp2_with fail
  refine (HR5.out _ rfl).mono ?_
  rintro e w6 ⟨rfl, hw6⟩
  rw [hw6]
  clear hw6 w6
  go_wp2_with fail
  refine (eq_len (some ⟨g, 0, none⟩) (some x0) _ _ n P w5 HP.out.1 (by unfold maxLen; omega) HE1.out HP5.out).mono ?_
  rintro e w6 ⟨rfl, n6, rfl⟩
  go_wp2_with fail
  all_goals
    refine (eq_len _ (some ⟨w1.heap.size, 0, none⟩) _ _ m Q (w5.drewN n6) HQ.out.1 (by unfold maxLen; omega) (by first | exact HE2.out.drewN n6 | exact .inl (List.eq_nil_of_length_eq_zero (by have := HQ.out.1; omega))) (HS5.out.drewN n6)).mono ?_
    rintro e w7 ⟨rfl, n7, rfl⟩
    go_wp2
    go_ret
    exact ⟨rfl, HB15.out.trans ⟨rfl, rfl, rfl, Nat.le_refl _, fun _ _ => rfl⟩⟩

set_option maxHeartbeats 4000000 in
theorem law1_nn (w : World) :
    Calls Tryf.prog 3 #[.slice none 0 0, .slice none 0 0] w fun e w' => e = .returned (.bool true) ∧ Below w.heap.size w w' := by
  have HZ : Hid (Calls Tryf.prog 5 #[.slice none 0 0, .slice none 0 0] w fun e w' => (∃ r, e = .returned (.bool r)) ∧ w' = w) := bytes5_any none none 0 0 0 0 w (by decide) (by decide)
  unfold maxLen at *
  have hq := neq22
  go_enter Tryf.func3, Tryf.ntmps3
  go_wp2_with fail
  refine HZ.out.mono ?_
  rintro e w1 ⟨⟨r, rfl⟩, rfl⟩
  clear HZ
  cases r
  · go_wp2
    go_ret
    exact ⟨rfl, Below.refl _ _⟩
  go_wp2_with fail
  all_goals try (go_ret; exact ⟨rfl, Below.refl _ _⟩)
  clear hq
  have HW : Hid (Below w1.heap.size w1 w1) := Below.refl _ _
  have HS : Hid (Src0 w1 w1.heap.size none 0 0 []) := .inl ⟨rfl, rfl, rfl, rfl⟩
  refine (clone_none w1).mono ?_
  rintro e w2 ⟨rfl, hw2⟩
  have HO : Hid (w2.ownsRow (w1.heap.size) 5 1 (.slice none 0 0) 0 []) := World.ownsRow_nil _ _ _ _
  have HW2 : Hid (Below (w1.heap.size) w1 w2) := by subst hw2; exact Below.refl _ _
  clear hw2
  have HS2 : Hid (Src0 w2 (w1.heap.size) none 0 0 ([] : List Int)) := by
    rcases HS.out with h | ⟨k, h1, h2, h3, h4⟩
    · exact .inl h
    · exact .inr ⟨k, h1, h2, h3, fun j hj => (HW2.out.cell (p := ⟨k, j, none⟩) h2).trans (h4 j hj)⟩
  go_wp2_with fail
  refine (zappend_any (w1.heap.size) 0 (.slice none 0 0) ([] : List Value) none 0 0 ([] : List Int) w2 HO.out (by have := HW2.out.size; have := (rfl : w1.heap.size = w1.heap.size); omega) (by omega) HS2.out).mono ?_
  rintro e w3 ⟨g, cap, rfl, hg1, hg2, hc1, hc2, ho3, hb3⟩
  have HL : Hid (∀ j, j < 0 + 8 + 0 → w3.cell? ⟨g, j, none⟩ = (([] : List Value) ++ framed ([] : List Int))[j]?) := fun j hj => ho3.cellAt j (by omega)
  have HB3 : Hid (Below w1.heap.size w1 w3) := HW.out.trans ((HW2.out.mono (by omega)).trans (hb3.mono (by omega)))
  have HS3 : Hid (Bs w3 none ([] : List Int)) := by
    rcases HS2.out with ⟨_, _, _, h⟩ | ⟨k, h1, h2, h3, h4⟩
    · exact .inl h
    · refine .inr ⟨k, 0, h1, by have := hb3.size; have := HW2.out.size; have := (rfl : w1.heap.size = w1.heap.size); omega, fun j hj => ?_⟩
      rw [Nat.zero_add, hb3.cell (p := ⟨k, j, none⟩) h2]
      exact h4 j (by omega)
  have hd0 : ∀ a : Addr, (none : Option Addr) = some a → a.block < w3.heap.size := by
    intro a ha
    have := hb3.size; have := HW2.out.size; have := (rfl : w1.heap.size = w1.heap.size)
    cases ha
  have HD0 : Hid (∀ a : Addr, (none : Option Addr) = some a → a.block < w3.heap.size) := hd0
  have HG : Hid (g < w3.heap.size ∧ 0 + 8 + 0 ≤ cap ∧ cap ≤ maxLen) := ⟨hg2, hc1, hc2⟩
  clear ho3 hb3 hd0 HS2 HO HW2 HS
  unfold maxLen at hc2
  go_wp2_with fail
  refine (new_any g (0 + 8 + 0) cap 0 w3).mono ?_
  rintro e w4 ⟨rfl, hdec, hb4⟩
  have HB4 : Hid (Below w3.heap.size w3 w4) := hb4
  have HD4 : Hid (Dec w4 w3.heap.size g (0 + 8 + 0) cap 0 .nilIface) := hdec
  clear hdec hb4
  go_wp2_with fail
  refine (zu64_le w3.heap.size g (0 + 8 + 0) cap 0 0 w4 HD4.out (by omega) HG.out.2.1 HG.out.2.2 HG.out.1 (by omega) (fun j hj => ?_)).mono ?_
  · rw [HB4.out.cell (p := ⟨g, 0 + j, none⟩) HG.out.1, HL.out _ (by omega)]
    unfold framed
    have hlen : (([] : List Value)).length = 0 := rfl
    have := list_mid ([] : List Value) (Lib.byteCells (Lib.leBytes 8 (([] : List Int)).length)) ((([] : List Int)).map (Value.int .u8)) j (by rw [Lib.byteCells_length, Lib.leBytes_length]; exact hj)
    rw [hlen] at this
    rw [this]
    rfl
  rintro e w5 ⟨rfl, hdec, hb5⟩
  have HB5 : Hid (Below w3.heap.size w4 w5) := hb5
  have HD5 : Hid (Dec w5 w3.heap.size g (0 + 8 + 0) cap (0 + 8) .nilIface) := hdec
  clear hdec hb5
  have HL5 : Hid (∀ j, j < 0 + 8 + 0 → w5.cell? ⟨g, j, none⟩ = (([] : List Value) ++ framed ([] : List Int))[j]?) := fun j hj => by
    rw [HB5.out.cell (p := ⟨g, j, none⟩) HG.out.1, HB4.out.cell (p := ⟨g, j, none⟩) HG.out.1]
    exact HL.out j hj
  have HB15 : Hid (Below w1.heap.size w1 w5) := HB3.out.trans ((HB4.out.mono HB3.out.size).trans (HB5.out.mono HB3.out.size))
  have HS5 : Hid (Bs w5 none ([] : List Int)) := (HS3.out.below HB4.out HD0.out).below HB5.out HD0.out
  have HG5 : Hid (g < w5.heap.size) := Nat.lt_of_lt_of_le HG.out.1 (Nat.le_trans HB4.out.size HB5.out.size)
  have HP5 : Hid (Bs w5 none ([] : List Int)) := .inl rfl
  have HE1 : Hid (Bs w5 (some ⟨g, 0, none⟩) ([] : List Int)) := row_part HL5.out HG5.out ([] : List Int) 0 (by simp) (fun j hj => by simp at hj)
  have HE2 : Hid (Bs w5 (some ⟨g, 0 + 8, none⟩) ([] : List Int)) := row_part HL5.out HG5.out ([] : List Int) (0 + 8) (by simp) (fun j hj => by simp at hj)
  go_wp2_with fail
  clear HL HS3 HD0 HB4 HD4 HB5 HB3 HG
  have HO5 : Hid (∀ W : World, W = w5 → Calls Tryf.prog 10 #[.pointer (some ⟨w3.heap.size, 0, none⟩)] W fun e w' => e = .returned (.int .i64 ((0 + 8 : Nat) : Int)) ∧ w' = w5) := fun W h => by subst h; exact off_any _ _ _ _ _ _ _ HD5.out
  have HR5 : Hid (∀ W : World, W = w5 → Calls Tryf.prog 11 #[.pointer (some ⟨w3.heap.size, 0, none⟩)] W fun e w' => e = .returned .nilIface ∧ w' = w5) := fun W h => by subst h; exact err_any _ _ _ _ _ _ _ HD5.out
  refine (HO5.out _ rfl).mono ?_
  rintro e w6 ⟨rfl, hw6⟩
  rw [hw6]
  clear hw6 w6
  go_wp2_with fail
  refine (HR5.out _ rfl).mono ?_
  rintro e w6 ⟨rfl, hw6⟩
  rw [hw6]
  clear hw6 w6
  go_wp2_with fail
  refine (eq_len (some ⟨g, 0, none⟩) none _ _ 0 ([] : List Int) w5 rfl (by unfold maxLen; omega) HE1.out HP5.out).mono ?_
  rintro e w6 ⟨rfl, n6, rfl⟩
  go_wp2_with fail
  all_goals
    refine (eq_len _ none _ _ 0 ([] : List Int) (w5.drewN n6) rfl (by unfold maxLen; omega) (by first | exact HE2.out.drewN n6 | exact .inl rfl) (HS5.out.drewN n6)).mono ?_
    rintro e w7 ⟨rfl, n7, rfl⟩
    go_wp2
    go_ret
    exact ⟨rfl, HB15.out.trans ⟨rfl, rfl, rfl, Nat.le_refl _, fun _ _ => rfl⟩⟩

set_option maxHeartbeats 4000000 in
theorem law1_sn (x0 : Addr) (n cap0 : Nat) (z0 : List Int) (w : World) (r0 : IsRow .u8 w (some x0) n cap0 z0) :
    Calls Tryf.prog 3 #[.slice (some x0) n cap0, .slice none 0 0] w fun e w' => e = .returned (.bool true) ∧ Below w.heap.size w w' := by
  have l0 : n ≤ maxLen := by rcases r0 with ⟨h, _⟩ | ⟨_, _, h, h', _⟩; (· cases h); omega
  obtain ⟨p1, p2, p3, p4⟩ := isRow_some r0
  clear r0
  generalize z0.take n = P at p1 p2 p4
  have HP : Hid (P.length = n ∧ (∀ i, i < n → w.cell? (x0.add i) = some (.int .u8 (P.getD i 0))) ∧ (n ≠ 0 → x0.block < w.heap.size) ∧ Bs w (some x0) P) := ⟨p1, p2, p3, p4⟩
  clear p1 p2 p3 p4
  have HZ : Hid (Calls Tryf.prog 5 #[.slice (some x0) n cap0, .slice none 0 0] w fun e w' => (∃ r, e = .returned (.bool r)) ∧ w' = w) := bytes5_any (some x0) none n cap0 0 0 w l0 (by decide)
  unfold maxLen at *
  have hq := neq22
  go_enter Tryf.func3, Tryf.ntmps3
  go_wp2_with fail
  refine HZ.out.mono ?_
  rintro e w1 ⟨⟨r, rfl⟩, rfl⟩
  clear HZ
  cases r
  · go_wp2
    go_ret
    exact ⟨rfl, Below.refl _ _⟩
  go_wp2_with fail
  all_goals try (go_ret; exact ⟨rfl, Below.refl _ _⟩)
  clear hq
  have HW : Hid (Below w1.heap.size w1 w1) := Below.refl _ _
  have HS : Hid (Src0 w1 w1.heap.size none 0 0 []) := .inl ⟨rfl, rfl, rfl, rfl⟩
  refine (clone_some x0 n cap0 P w1 HP.out.1 (by omega) (fun i hi => ?_) (fun h0 => Nat.lt_of_lt_of_le (HP.out.2.2.1 h0) HW.out.size)).mono ?_
  · have hbl : (x0.add i).block < w1.heap.size := cell_lt (HP.out.2.1 i hi)
    rw [HW.out.cell (p := x0.add i) hbl]
    exact HP.out.2.1 i hi
  rintro e w2 ⟨rfl, hw2⟩
  have HO : Hid (w2.ownsRow (w1.heap.size) 5 1 (.slice (some ⟨w1.heap.size, 0, none⟩) n n) n (P.map (Value.int .u8))) := by
    subst hw2
    unfold Hid
    have h := World.ownsRow_lit (base := w1.heap.size) (e := 5) (size := 1) w1 (P.map (Value.int .u8)).toArray n (by rw [(rfl : w1.heap.size = w1.heap.size)]; omega) (by unfold maxLen; omega) (by simp [HP.out.1])
    simpa using h
  have HW2 : Hid (Below (w1.heap.size) w1 w2) := by subst hw2; exact (Below.refl _ _).alloc (by rw [(rfl : w1.heap.size = w1.heap.size)]; omega) _
  clear hw2
  have HS2 : Hid (Src0 w2 (w1.heap.size) none 0 0 ([] : List Int)) := by
    rcases HS.out with h | ⟨k, h1, h2, h3, h4⟩
    · exact .inl h
    · exact .inr ⟨k, h1, h2, h3, fun j hj => (HW2.out.cell (p := ⟨k, j, none⟩) h2).trans (h4 j hj)⟩
  go_wp2_with fail
  refine (zappend_any (w1.heap.size) n (.slice (some ⟨w1.heap.size, 0, none⟩) n n) (P.map (Value.int .u8)) none 0 0 ([] : List Int) w2 HO.out (by have := HW2.out.size; have := (rfl : w1.heap.size = w1.heap.size); omega) (by omega) HS2.out).mono ?_
  rintro e w3 ⟨g, cap, rfl, hg1, hg2, hc1, hc2, ho3, hb3⟩
  have HL : Hid (∀ j, j < n + 8 + 0 → w3.cell? ⟨g, j, none⟩ = ((P.map (Value.int .u8)) ++ framed ([] : List Int))[j]?) := fun j hj => ho3.cellAt j (by omega)
  have HB3 : Hid (Below w1.heap.size w1 w3) := HW.out.trans ((HW2.out.mono (by omega)).trans (hb3.mono (by omega)))
  have HS3 : Hid (Bs w3 none ([] : List Int)) := by
    rcases HS2.out with ⟨_, _, _, h⟩ | ⟨k, h1, h2, h3, h4⟩
    · exact .inl h
    · refine .inr ⟨k, 0, h1, by have := hb3.size; have := HW2.out.size; have := (rfl : w1.heap.size = w1.heap.size); omega, fun j hj => ?_⟩
      rw [Nat.zero_add, hb3.cell (p := ⟨k, j, none⟩) h2]
      exact h4 j (by omega)
  have hd0 : ∀ a : Addr, (none : Option Addr) = some a → a.block < w3.heap.size := by
    intro a ha
    have := hb3.size; have := HW2.out.size; have := (rfl : w1.heap.size = w1.heap.size)
    cases ha
  have HD0 : Hid (∀ a : Addr, (none : Option Addr) = some a → a.block < w3.heap.size) := hd0
  have HG : Hid (g < w3.heap.size ∧ n + 8 + 0 ≤ cap ∧ cap ≤ maxLen) := ⟨hg2, hc1, hc2⟩
  clear ho3 hb3 hd0 HS2 HO HW2 HS
  unfold maxLen at hc2
  go_wp2_with fail
  refine (new_any g (n + 8 + 0) cap n w3).mono ?_
  rintro e w4 ⟨rfl, hdec, hb4⟩
  have HB4 : Hid (Below w3.heap.size w3 w4) := hb4
  have HD4 : Hid (Dec w4 w3.heap.size g (n + 8 + 0) cap n .nilIface) := hdec
  clear hdec hb4
  go_wp2_with fail
  refine (zu64_le w3.heap.size g (n + 8 + 0) cap n 0 w4 HD4.out (by omega) HG.out.2.1 HG.out.2.2 HG.out.1 (by omega) (fun j hj => ?_)).mono ?_
  · rw [HB4.out.cell (p := ⟨g, n + j, none⟩) HG.out.1, HL.out _ (by omega)]
    unfold framed
    have hlen : ((P.map (Value.int .u8))).length = n := (by rw [List.length_map]; exact HP.out.1)
    have := list_mid (P.map (Value.int .u8)) (Lib.byteCells (Lib.leBytes 8 (([] : List Int)).length)) ((([] : List Int)).map (Value.int .u8)) j (by rw [Lib.byteCells_length, Lib.leBytes_length]; exact hj)
    rw [hlen] at this
    rw [this]
    rfl
  rintro e w5 ⟨rfl, hdec, hb5⟩
  have HB5 : Hid (Below w3.heap.size w4 w5) := hb5
  have HD5 : Hid (Dec w5 w3.heap.size g (n + 8 + 0) cap (n + 8) .nilIface) := hdec
  clear hdec hb5
  have HL5 : Hid (∀ j, j < n + 8 + 0 → w5.cell? ⟨g, j, none⟩ = ((P.map (Value.int .u8)) ++ framed ([] : List Int))[j]?) := fun j hj => by
    rw [HB5.out.cell (p := ⟨g, j, none⟩) HG.out.1, HB4.out.cell (p := ⟨g, j, none⟩) HG.out.1]
    exact HL.out j hj
  have HB15 : Hid (Below w1.heap.size w1 w5) := HB3.out.trans ((HB4.out.mono HB3.out.size).trans (HB5.out.mono HB3.out.size))
  have HS5 : Hid (Bs w5 none ([] : List Int)) := (HS3.out.below HB4.out HD0.out).below HB5.out HD0.out
  have HG5 : Hid (g < w5.heap.size) := Nat.lt_of_lt_of_le HG.out.1 (Nat.le_trans HB4.out.size HB5.out.size)
  have HP5 : Hid (Bs w5 (some x0) P) := by
    rcases HP.out.2.2.2 with h | ⟨g', o', h1, h2, h3⟩
    · exact .inl h
    · exact .inr ⟨g', o', h1, Nat.lt_of_lt_of_le h2 HB15.out.size, fun j hj => (HB15.out.cell (p := ⟨g', o' + j, none⟩) h2).trans (h3 j hj)⟩
  have HE1 : Hid (Bs w5 (some ⟨g, 0, none⟩) P) := row_part HL5.out HG5.out P 0 (by have := HP.out.1; omega) (fun j hj => list_head P _ j hj)
  have HE2 : Hid (Bs w5 (some ⟨g, n + 8, none⟩) ([] : List Int)) := row_part HL5.out HG5.out ([] : List Int) (n + 8) (by simp) (fun j hj => by simp at hj)
  go_wp2_with fail
  clear HL HS3 HD0 HB4 HD4 HB5 HB3 HG
  have HO5 : Hid (∀ W : World, W = w5 → Calls Tryf.prog 10 #[.pointer (some ⟨w3.heap.size, 0, none⟩)] W fun e w' => e = .returned (.int .i64 ((n + 8 : Nat) : Int)) ∧ w' = w5) := fun W h => by subst h; exact off_any _ _ _ _ _ _ _ HD5.out
  have HR5 : Hid (∀ W : World, W = w5 → Calls Tryf.prog 11 #[.pointer (some ⟨w3.heap.size, 0, none⟩)] W fun e w' => e = .returned .nilIface ∧ w' = w5) := fun W h => by subst h; exact err_any _ _ _ _ _ _ _ HD5.out
  refine (HO5.out _ rfl).mono ?_
  rintro e w6 ⟨rfl, hw6⟩
  rw [hw6]
  clear hw6 w6
  go_wp2_with fail
  refine (HR5.out _ rfl).mono ?_
  rintro e w6 ⟨rfl, hw6⟩
  rw [hw6]
  clear hw6 w6
  go_wp2_with fail
  refine (eq_len (some ⟨g, 0, none⟩) (some x0) _ _ n P w5 HP.out.1 (by unfold maxLen; omega) HE1.out HP5.out).mono ?_
  rintro e w6 ⟨rfl, n6, rfl⟩
  go_wp2_with fail
  all_goals
    refine (eq_len _ none _ _ 0 ([] : List Int) (w5.drewN n6) rfl (by unfold maxLen; omega) (by first | exact HE2.out.drewN n6 | exact .inl rfl) (HS5.out.drewN n6)).mono ?_
    rintro e w7 ⟨rfl, n7, rfl⟩
    go_wp2
    go_ret
    exact ⟨rfl, HB15.out.trans ⟨rfl, rfl, rfl, Nat.le_refl _, fun _ _ => rfl⟩⟩

set_option maxHeartbeats 4000000 in
theorem law1_ns (x1 : Addr) (m cap1 : Nat) (z1 : List Int) (w : World) (r1 : IsRow .u8 w (some x1) m cap1 z1) :
    Calls Tryf.prog 3 #[.slice none 0 0, .slice (some x1) m cap1] w fun e w' => e = .returned (.bool true) ∧ Below w.heap.size w w' := by
  have l1 : m ≤ maxLen := by rcases r1 with ⟨h, _⟩ | ⟨_, _, h, h', _⟩; (· cases h); omega
  obtain ⟨d1, d2, d3, d4⟩ := isRow_some r1
  clear r1
  generalize z1.take m = Q at d1 d2 d4
  have HQ : Hid (Q.length = m ∧ (∀ i, i < m → w.cell? (x1.add i) = some (.int .u8 (Q.getD i 0))) ∧ (m ≠ 0 → x1.block < w.heap.size) ∧ Bs w (some x1) Q) := ⟨d1, d2, d3, d4⟩
  clear d1 d2 d3 d4
  have HZ : Hid (Calls Tryf.prog 5 #[.slice none 0 0, .slice (some x1) m cap1] w fun e w' => (∃ r, e = .returned (.bool r)) ∧ w' = w) := bytes5_any none (some x1) 0 0 m cap1 w (by decide) l1
  unfold maxLen at *
  have hq := neq22
  have hk := fun h : m ≤ 281474976710656 => run_make5 m w h
  have hy := run_copy5 x1 cap1 m Q HQ.out.1 w HQ.out.2.1 HQ.out.2.2.1
  go_enter Tryf.func3, Tryf.ntmps3
  go_wp2_with fail
  refine HZ.out.mono ?_
  rintro e w1 ⟨⟨r, rfl⟩, rfl⟩
  clear HZ
  cases r
  · go_wp2
    go_ret
    exact ⟨rfl, Below.refl _ _⟩
  go_wp2_with fail
  all_goals try (go_ret; exact ⟨rfl, Below.refl _ _⟩)
  have hk' := hk (by omega)
  clear hk
  go_simp
  go_wp2_with fail
  clear hk' hy
  clear hq
  have HW : Hid (Below w1.heap.size w1 (w1.alloc (.cells (Q.map (Value.int .u8)).toArray 5))) := (Below.refl _ _).alloc (Nat.le_refl _) _
  have HS : Hid (Src0 (w1.alloc (.cells (Q.map (Value.int .u8)).toArray 5)) (w1.heap.size + 1) (some ⟨w1.heap.size, 0, none⟩) m m Q) := by
    refine .inr ⟨_, rfl, by omega, HQ.out.1, fun j hj => ?_⟩
    rw [cell_of_row _ _ j _ _ _ (heap_alloc_last w1 _)]
    have := HQ.out.1
    simp [List.getD, show j < Q.length by omega]
  have hsz : (w1.alloc (.cells (Q.map (Value.int .u8)).toArray 5)).heap.size = w1.heap.size + 1 := by simp
  have HV : Hid ((w1.alloc (.cells (Q.map (Value.int .u8)).toArray 5)).heap.size = w1.heap.size + 1) := hsz
  clear hsz
  generalize (w1.alloc (.cells (Q.map (Value.int .u8)).toArray 5)) = W at HW HS HV ⊢
  refine (clone_none W).mono ?_
  rintro e w2 ⟨rfl, hw2⟩
  have HO : Hid (w2.ownsRow (w1.heap.size + 1) 5 1 (.slice none 0 0) 0 []) := World.ownsRow_nil _ _ _ _
  have HW2 : Hid (Below (w1.heap.size + 1) W w2) := by subst hw2; exact Below.refl _ _
  clear hw2
  have HS2 : Hid (Src0 w2 (w1.heap.size + 1) (some ⟨w1.heap.size, 0, none⟩) m m Q) := by
    rcases HS.out with h | ⟨k, h1, h2, h3, h4⟩
    · exact .inl h
    · exact .inr ⟨k, h1, h2, h3, fun j hj => (HW2.out.cell (p := ⟨k, j, none⟩) h2).trans (h4 j hj)⟩
  go_wp2_with fail
  refine (zappend_any (w1.heap.size + 1) 0 (.slice none 0 0) ([] : List Value) (some ⟨w1.heap.size, 0, none⟩) m m Q w2 HO.out (by have := HW2.out.size; have := HV.out; omega) (by omega) HS2.out).mono ?_
  rintro e w3 ⟨g, cap, rfl, hg1, hg2, hc1, hc2, ho3, hb3⟩
  have HL : Hid (∀ j, j < 0 + 8 + m → w3.cell? ⟨g, j, none⟩ = (([] : List Value) ++ framed Q)[j]?) := fun j hj => ho3.cellAt j (by omega)
  have HB3 : Hid (Below w1.heap.size w1 w3) := HW.out.trans ((HW2.out.mono (by omega)).trans (hb3.mono (by omega)))
  have HS3 : Hid (Bs w3 (some ⟨w1.heap.size, 0, none⟩) Q) := by
    rcases HS2.out with ⟨_, _, _, h⟩ | ⟨k, h1, h2, h3, h4⟩
    · exact .inl h
    · refine .inr ⟨k, 0, h1, by have := hb3.size; have := HW2.out.size; have := HV.out; omega, fun j hj => ?_⟩
      rw [Nat.zero_add, hb3.cell (p := ⟨k, j, none⟩) h2]
      exact h4 j (by omega)
  have hd0 : ∀ a : Addr, ((some ⟨w1.heap.size, 0, none⟩) : Option Addr) = some a → a.block < w3.heap.size := by
    intro a ha
    have := hb3.size; have := HW2.out.size; have := HV.out
    cases ha; show w1.heap.size < _; omega
  have HD0 : Hid (∀ a : Addr, ((some ⟨w1.heap.size, 0, none⟩) : Option Addr) = some a → a.block < w3.heap.size) := hd0
  have HG : Hid (g < w3.heap.size ∧ 0 + 8 + m ≤ cap ∧ cap ≤ maxLen) := ⟨hg2, hc1, hc2⟩
  clear ho3 hb3 hd0 HS2 HO HW2 HS
  unfold maxLen at hc2
  go_wp2_with fail
  refine (new_any g (0 + 8 + m) cap 0 w3).mono ?_
  rintro e w4 ⟨rfl, hdec, hb4⟩
  have HB4 : Hid (Below w3.heap.size w3 w4) := hb4
  have HD4 : Hid (Dec w4 w3.heap.size g (0 + 8 + m) cap 0 .nilIface) := hdec
  clear hdec hb4
  go_wp2_with fail
  refine (zu64_le w3.heap.size g (0 + 8 + m) cap 0 m w4 HD4.out (by omega) HG.out.2.1 HG.out.2.2 HG.out.1 (by omega) (fun j hj => ?_)).mono ?_
  · rw [HB4.out.cell (p := ⟨g, 0 + j, none⟩) HG.out.1, HL.out _ (by omega)]
    unfold framed
    have hlen : (([] : List Value)).length = 0 := rfl
    have := list_mid ([] : List Value) (Lib.byteCells (Lib.leBytes 8 (Q).length)) ((Q).map (Value.int .u8)) j (by rw [Lib.byteCells_length, Lib.leBytes_length]; exact hj)
    rw [hlen] at this
    rw [this, HQ.out.1]
  rintro e w5 ⟨rfl, hdec, hb5⟩
  have HB5 : Hid (Below w3.heap.size w4 w5) := hb5
  have HD5 : Hid (Dec w5 w3.heap.size g (0 + 8 + m) cap (0 + 8) .nilIface) := hdec
  clear hdec hb5
  have HL5 : Hid (∀ j, j < 0 + 8 + m → w5.cell? ⟨g, j, none⟩ = (([] : List Value) ++ framed Q)[j]?) := fun j hj => by
    rw [HB5.out.cell (p := ⟨g, j, none⟩) HG.out.1, HB4.out.cell (p := ⟨g, j, none⟩) HG.out.1]
    exact HL.out j hj
  have HB15 : Hid (Below w1.heap.size w1 w5) := HB3.out.trans ((HB4.out.mono HB3.out.size).trans (HB5.out.mono HB3.out.size))
  have HS5 : Hid (Bs w5 (some ⟨w1.heap.size, 0, none⟩) Q) := (HS3.out.below HB4.out HD0.out).below HB5.out HD0.out
  have HG5 : Hid (g < w5.heap.size) := Nat.lt_of_lt_of_le HG.out.1 (Nat.le_trans HB4.out.size HB5.out.size)
  have HP5 : Hid (Bs w5 none ([] : List Int)) := .inl rfl
  have HE1 : Hid (Bs w5 (some ⟨g, 0, none⟩) ([] : List Int)) := row_part HL5.out HG5.out ([] : List Int) 0 (by simp) (fun j hj => by simp at hj)
  have HE2 : Hid (Bs w5 (some ⟨g, 0 + 8, none⟩) Q) := row_part HL5.out HG5.out Q (0 + 8) (by have := HQ.out.1; omega) (fun j hj => list_end _ _ Q _ j (by rw [Lib.byteCells_length, Lib.leBytes_length, List.length_nil, Nat.zero_add]) hj)
  go_wp2_with fail
  clear HL HS3 HD0 HB4 HD4 HB5 HB3 HG
  have HO5 : Hid (∀ W : World, W = w5 → Calls Tryf.prog 10 #[.pointer (some ⟨w3.heap.size, 0, none⟩)] W fun e w' => e = .returned (.int .i64 ((0 + 8 : Nat) : Int)) ∧ w' = w5) := fun W h => by subst h; exact off_any _ _ _ _ _ _ _ HD5.out
  have HR5 : Hid (∀ W : World, W = w5 → Calls Tryf.prog 11 #[.pointer (some ⟨w3.heap.size, 0, none⟩)] W fun e w' => e = .returned .nilIface ∧ w' = w5) := fun W h => by subst h; exact err_any _ _ _ _ _ _ _ HD5.out
  refine (HO5.out _ rfl).mono ?_
  rintro e w6 ⟨rfl, hw6⟩
  rw [hw6]
  clear hw6 w6
  go_wp2_with fail
  refine (HR5.out _ rfl).mono ?_
  rintro e w6 ⟨rfl, hw6⟩
  rw [hw6]
  clear hw6 w6
  go_wp2_with fail
  refine (eq_len (some ⟨g, 0, none⟩) none _ _ 0 ([] : List Int) w5 rfl (by unfold maxLen; omega) HE1.out HP5.out).mono ?_
  rintro e w6 ⟨rfl, n6, rfl⟩
  go_wp2_with fail
  all_goals
    refine (eq_len _ (some ⟨w1.heap.size, 0, none⟩) _ _ m Q (w5.drewN n6) HQ.out.1 (by unfold maxLen; omega) (by first | exact HE2.out.drewN n6 | exact .inl (List.eq_nil_of_length_eq_zero (by have := HQ.out.1; omega))) (HS5.out.drewN n6)).mono ?_
    rintro e w7 ⟨rfl, n7, rfl⟩
    go_wp2
    go_ret
    exact ⟨rfl, HB15.out.trans ⟨rfl, rfl, rfl, Nat.le_refl _, fun _ _ => rfl⟩⟩

/-- THE WALK OF THE FIRST LAW. -/
theorem law1_any (a0 : Option Addr) (len0 cap0 : Nat) (z0 : List Int) (a1 : Option Addr) (len1 cap1 : Nat) (z1 : List Int) (w : World) (r0 : IsRow .u8 w a0 len0 cap0 z0) (r1 : IsRow .u8 w a1 len1 cap1 z1) :
    Calls Tryf.prog 3 #[.slice a0 len0 cap0, .slice a1 len1 cap1] w fun e w' => e = .returned (.bool true) ∧ Below w.heap.size w w' := by
  cases a0 with
  | none =>
    obtain ⟨rfl, rfl⟩ : len0 = 0 ∧ cap0 = 0 := by rcases r0 with ⟨_, h1, h2, _⟩ | ⟨_, h, _⟩; (· exact ⟨h1, h2⟩); cases h
    cases a1 with
    | none =>
      obtain ⟨rfl, rfl⟩ : len1 = 0 ∧ cap1 = 0 := by rcases r1 with ⟨_, h1, h2, _⟩ | ⟨_, h, _⟩; (· exact ⟨h1, h2⟩); cases h
      exact law1_nn w
    | some x1 => exact law1_ns x1 len1 cap1 z1 w r1
  | some x0 =>
    cases a1 with
    | none =>
      obtain ⟨rfl, rfl⟩ : len1 = 0 ∧ cap1 = 0 := by rcases r1 with ⟨_, h1, h2, _⟩ | ⟨_, h, _⟩; (· exact ⟨h1, h2⟩); cases h
      exact law1_sn x0 len0 cap0 z0 w r0
    | some x1 => exact law1_ss x0 len0 cap0 z0 x1 len1 cap1 z1 w r0 r1
end Go.Proofs.Qxb6616507aFmt

import Derived.Test.Qxb6616507aFmtEq
import Derived.Test.Qxb6616507aFmtShelf
namespace Go.Proofs.Qxb6616507aFmt
open Go.RowKit
set_option linter.unusedVariables false

/-- A decoder in block D over the row g. -/
structure Dec (w : World) (D g N cap off : Nat) (err : Value) : Prop where
  c0 : w.cell? ⟨D, 0, none⟩ = some (.slice (some ⟨g, 0, none⟩) N cap)
  c1 : w.cell? ⟨D, 1, none⟩ = some (.int .i64 off)
  c2 : w.cell? ⟨D, 2, none⟩ = some err
  f1 : w.frozen? ⟨D, 1, none⟩ = false
  f2 : w.frozen? ⟨D, 2, none⟩ = false
  lt : D < w.heap.size

theorem Dec.below {w w' : World} {D g N cap off B : Nat} {err : Value} (h : Dec w D g N cap off err) (hb : Below B w w') (hB : D < B) : Dec w' D g N cap off err :=
  ⟨(hb.cell (p := ⟨D, 0, none⟩) hB).trans h.c0, (hb.cell (p := ⟨D, 1, none⟩) hB).trans h.c1, (hb.cell (p := ⟨D, 2, none⟩) hB).trans h.c2,
    (hb.frozen (p := ⟨D, 1, none⟩) hB).trans h.f1, (hb.frozen (p := ⟨D, 2, none⟩) hB).trans h.f2, Nat.lt_of_lt_of_le h.lt hb.size⟩

theorem below_drewN (w : World) (n : Nat) : Below w.heap.size w (w.drewN n) := ⟨rfl, rfl, rfl, Nat.le_refl _, fun _ _ => rfl⟩

theorem new_any (g N cap : Nat) (off : Nat) (w : World) :
    Calls Tryf.prog 8 #[.slice (some ⟨g, 0, none⟩) N cap, .int .i64 off] w fun e w' => e = .returned (.pointer (some ⟨w.heap.size, 0, none⟩)) ∧ Dec w' w.heap.size g N cap off .nilIface ∧ Below w.heap.size w w' := by
  go_enter Tryf.func8, Tryf.ntmps8
  go_wp2
  go_ret
  exact ⟨rfl, ⟨by simp [go_sem], by simp [go_sem], by simp [go_sem], by simp [go_sem], by simp [go_sem], by simp⟩, (Below.refl _ _).alloc (Nat.le_refl _) _⟩

theorem off_any (D g N cap off : Nat) (err : Value) (w : World) (h : Dec w D g N cap off err) : Calls Tryf.prog 10 #[.pointer (some ⟨D, 0, none⟩)] w fun e w' => e = .returned (.int .i64 off) ∧ w' = w := by
  obtain ⟨c0, c1, c2, f1, f2, lt⟩ := h
  go_enter Tryf.func10, Tryf.ntmps10
  go_wp2
  go_ret
  exact ⟨rfl, rfl⟩

theorem err_any (D g N cap off : Nat) (err : Value) (w : World) (h : Dec w D g N cap off err) : Calls Tryf.prog 11 #[.pointer (some ⟨D, 0, none⟩)] w fun e w' => e = .returned err ∧ w' = w := by
  obtain ⟨c0, c1, c2, f1, f2, lt⟩ := h
  go_enter Tryf.func11, Tryf.ntmps11
  go_wp2
  go_ret
  exact ⟨rfl, rfl⟩

theorem Dec.moved {w : World} {D g N cap off : Nat} {err : Value} (h : Dec w D g N cap off err) (m n : Nat) :
    Dec ((w.drewN m).setCell ⟨D, 1, none⟩ (.int .i64 ((off : Int) + n))) D g N cap (off + n) err ∧ Below D w ((w.drewN m).setCell ⟨D, 1, none⟩ (.int .i64 ((off : Int) + n))) := by
  obtain ⟨c0, c1, c2, f1, f2, lt⟩ := h
  refine ⟨⟨?_, ?_, ?_, ?_, ?_, ?_⟩, ((below_drewN w m).mono (Nat.le_of_lt lt)).setCell (p := ⟨D, 1, none⟩) (Nat.le_refl _) _⟩
  all_goals simp [go_sem, c0, c1, c2, f1, f2, lt]

set_option maxHeartbeats 1000000 in
/-- 'take(n)' where n bytes are left. -/
theorem take_ok (D g N cap off n : Nat) (w : World) (h : Dec w D g N cap off .nilIface) (hn : off + n ≤ N) (hN : N ≤ cap) (hm : cap ≤ maxLen) (hgD : g < D) :
    Calls Tryf.prog 17 #[.pointer (some ⟨D, 0, none⟩), .int .i64 n] w fun e w' => (∃ ao, e = .returned (.slice ao n (cap - off)) ∧ (n ≠ 0 → ao = some ⟨g, off, none⟩)) ∧ Dec w' D g N cap (off + n) .nilIface ∧ Below D w w' := by
  obtain ⟨c0, c1, c2, f1, f2, lt⟩ := h
  unfold maxLen at hm
  have hgt : decide ((N : Int) - off < n) = false := by simp; omega
  go_enter Tryf.func17, Tryf.ntmps17
  go_wp2
  go_quiet (fail)
  go_wp2
  go_quiet (fail)
  go_wp2
  · go_ret
    subst h
    exact ⟨⟨_, rfl, fun h0 => absurd (show n = 0 by omega) h0⟩, Dec.moved (Dec.mk c0 c1 c2 f1 f2 lt) _ n⟩
  · go_ret
    exact ⟨⟨_, rfl, fun _ => rfl⟩, Dec.moved (Dec.mk c0 c1 c2 f1 f2 lt) _ n⟩

theorem ztake_ok (D g N cap off n : Nat) (w : World) (h : Dec w D g N cap off .nilIface) (hn : off + n ≤ N) (hN : N ≤ cap) (hm : cap ≤ maxLen) (hgD : g < D) :
    Calls Tryf.prog 14 #[.pointer (some ⟨D, 0, none⟩), .int .i64 n] w fun e w' => (∃ ao, e = .returned (.slice ao n (cap - off)) ∧ (n ≠ 0 → ao = some ⟨g, off, none⟩)) ∧ Dec w' D g N cap (off + n) .nilIface ∧ Below D w w' := by
  go_enter Tryf.func14, Tryf.ntmps14
  go_wp2_with fail
  refine (take_ok D g N cap off n w h hn hN hm hgD).mono ?_
  rintro e w' ⟨⟨ao, rfl, hao⟩, hd, hb⟩
  have HD : Hid (Dec w' D g N cap (off + n) .nilIface ∧ Below D w w') := ⟨hd, hb⟩
  have HA : Hid (n ≠ 0 → ao = some ⟨g, off, none⟩) := hao
  clear hao hd hb
  go_wp2
  go_ret
  exact ⟨⟨ao, rfl, HA.out⟩, HD.out⟩

set_option maxHeartbeats 1000000 in
/-- 'u64' where 8 bytes are left. -/
theorem u64_ok (D g N cap off : Nat) (w : World) (h : Dec w D g N cap off .nilIface) (hn : off + 8 ≤ N) (hN : N ≤ cap) (hm : cap ≤ maxLen) (hgD : g < D) (b0 b1 b2 b3 b4 b5 b6 b7 : UInt8)
    (c0 : w.cell? ⟨g, off, none⟩ = some (.int .u8 b0.toNat)) (c1 : w.cell? ⟨g, off + 1, none⟩ = some (.int .u8 b1.toNat)) (c2 : w.cell? ⟨g, off + 2, none⟩ = some (.int .u8 b2.toNat)) (c3 : w.cell? ⟨g, off + 3, none⟩ = some (.int .u8 b3.toNat))
    (c4 : w.cell? ⟨g, off + 4, none⟩ = some (.int .u8 b4.toNat)) (c5 : w.cell? ⟨g, off + 5, none⟩ = some (.int .u8 b5.toNat)) (c6 : w.cell? ⟨g, off + 6, none⟩ = some (.int .u8 b6.toNat)) (c7 : w.cell? ⟨g, off + 7, none⟩ = some (.int .u8 b7.toNat)) :
    Calls Tryf.prog 16 #[.pointer (some ⟨D, 0, none⟩)] w fun e w' => e = .returned (.int .u64 (Lib.leNat [b0, b1, b2, b3, b4, b5, b6, b7])) ∧ Dec w' D g N cap (off + 8) .nilIface ∧ Below D w w' := by
  go_enter Tryf.func16, Tryf.ntmps16
  go_wp2_with fail
  refine (take_ok D g N cap off 8 w h hn hN hm hgD).mono ?_
  rintro e w' ⟨⟨ao, rfl, hao⟩, hd, hb⟩
  obtain rfl := hao (by decide)
  clear hao
  have HD : Hid (Dec w' D g N cap (off + 8) .nilIface ∧ Below D w w') := ⟨hd, hb⟩
  have HC := fun j (x : UInt8) (hc : w.cell? ⟨g, off + j, none⟩ = some (.int .u8 x.toNat)) => (hb.cell (p := ⟨g, off + j, none⟩) hgD).trans hc
  have k0 := HC 0 b0 c0; have k1 := HC 1 b1 c1; have k2 := HC 2 b2 c2; have k3 := HC 3 b3 c3
  have k4 := HC 4 b4 c4; have k5 := HC 5 b5 c5; have k6 := HC 6 b6 c6; have k7 := HC 7 b7 c7
  have HU : Hid (Calls Tryf.prog 19 #[.agg #[], .slice (some ⟨g, off, none⟩) 8 (cap - off)] w' fun e w'' => e = .returned (.int .u64 (Lib.leNat [b0, b1, b2, b3, b4, b5, b6, b7])) ∧ Below w'.heap.size w' w'') :=
    Tryf.binary_LE_Uint64 g off 8 (cap - off) b0 b1 b2 b3 b4 b5 b6 b7 w' (Nat.le_refl _) k0 k1 k2 k3 k4 k5 k6 k7
  clear HC k0 k1 k2 k3 k4 k5 k6 k7 c0 c1 c2 c3 c4 c5 c6 c7 hd hb h
  have hq := neq22
  go_wp2_with fail
  refine HU.out.mono ?_
  rintro e w2 ⟨rfl, hb2⟩
  have H2 : Hid (Below w'.heap.size w' w2) := hb2
  clear hb2
  go_wp2
  go_ret
  exact ⟨rfl, HD.out.1.below H2.out HD.out.1.lt, HD.out.2.trans (H2.out.mono (Nat.le_of_lt HD.out.1.lt))⟩

theorem zu64_ok (D g N cap off : Nat) (w : World) (h : Dec w D g N cap off .nilIface) (hn : off + 8 ≤ N) (hN : N ≤ cap) (hm : cap ≤ maxLen) (hgD : g < D) (b0 b1 b2 b3 b4 b5 b6 b7 : UInt8)
    (c0 : w.cell? ⟨g, off, none⟩ = some (.int .u8 b0.toNat)) (c1 : w.cell? ⟨g, off + 1, none⟩ = some (.int .u8 b1.toNat)) (c2 : w.cell? ⟨g, off + 2, none⟩ = some (.int .u8 b2.toNat)) (c3 : w.cell? ⟨g, off + 3, none⟩ = some (.int .u8 b3.toNat))
    (c4 : w.cell? ⟨g, off + 4, none⟩ = some (.int .u8 b4.toNat)) (c5 : w.cell? ⟨g, off + 5, none⟩ = some (.int .u8 b5.toNat)) (c6 : w.cell? ⟨g, off + 6, none⟩ = some (.int .u8 b6.toNat)) (c7 : w.cell? ⟨g, off + 7, none⟩ = some (.int .u8 b7.toNat)) :
    Calls Tryf.prog 9 #[.pointer (some ⟨D, 0, none⟩)] w fun e w' => e = .returned (.int .u64 (Lib.leNat [b0, b1, b2, b3, b4, b5, b6, b7])) ∧ Dec w' D g N cap (off + 8) .nilIface ∧ Below D w w' := by
  have HU : Hid (Calls Tryf.prog 16 #[.pointer (some ⟨D, 0, none⟩)] w fun e w' => e = .returned (.int .u64 (Lib.leNat [b0, b1, b2, b3, b4, b5, b6, b7])) ∧ Dec w' D g N cap (off + 8) .nilIface ∧ Below D w w') :=
    u64_ok D g N cap off w h hn hN hm hgD b0 b1 b2 b3 b4 b5 b6 b7 c0 c1 c2 c3 c4 c5 c6 c7
  clear c0 c1 c2 c3 c4 c5 c6 c7 h
  go_enter Tryf.func9, Tryf.ntmps9
  go_wp2_with fail
  refine HU.out.mono ?_
  rintro e w2 ⟨rfl, hd, hb⟩
  have H2 : Hid (Dec w2 D g N cap (off + 8) .nilIface ∧ Below D w w2) := ⟨hd, hb⟩
  clear hd hb
  go_wp2
  go_ret
  exact ⟨rfl, H2.out⟩
end Go.Proofs.Qxb6616507aFmt

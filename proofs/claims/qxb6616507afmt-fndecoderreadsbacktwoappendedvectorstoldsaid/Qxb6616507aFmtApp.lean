import Derived.Test.Qxb6616507aFmtDec
import Derived.Laws.AppendOwnNone
namespace Go.Proofs.Qxb6616507aFmt
open Go.RowKit
set_option linter.unusedVariables false

/-- What appendBytes leaves behind the old cells. -/
def framed (zs : List Int) : List Value := Lib.byteCells (Lib.leBytes 8 zs.length) ++ zs.map (Value.int .u8)

set_option maxHeartbeats 1000000 in
theorem append_some (B n : Nat) (sv : Value) (xs : List Value) (k m c : Nat) (zs : List Int) (w : World) (hown : w.ownsRow B 5 1 sv n xs) (hBw : B ≤ w.heap.size) (hlim : n + 8 + m ≤ 140737488355328)
    (hz : zs.length = m) (hk : k < B) (hc : ∀ j, j < m → w.cell? ⟨k, j, none⟩ = some (.int .u8 (zs.getD j 0))) :
    Calls Tryf.prog 15 #[sv, .slice (some ⟨k, 0, none⟩) m c] w fun e w' => ∃ v', e = .returned v' ∧ w'.ownsRow B 5 1 v' (n + 8 + m) (xs ++ framed zs) ∧ Below B w w' := by
  have HU : Hid (Calls Tryf.prog 18 #[.agg #[], sv, .int .u64 m] w fun e w' => ∃ v', e = .returned v' ∧ w'.ownsRow B 5 1 v' (n + 8) (xs ++ Lib.byteCells (Lib.leBytes 8 m)) ∧ Below B w w') :=
    Tryf.binary_LE_AppendUint64 B n m (by omega) sv xs w hown hBw (by omega)
  obtain ⟨i, hi, hz0, hz1, hz2⟩ := info_parts info5
  have HI : Hid (Tryf.prog.info? 5 = some i ∧ i.zero = some (.int .u8 0) ∧ i.size = 1 ∧ i.bytes = 1) := ⟨hi, hz0, hz1, hz2⟩
  clear hi hz0 hz1 hz2 hown
  have HC : Hid (∀ j, j < m → w.cell? ⟨k, j, none⟩ = some (.int .u8 (zs.getD j 0))) := hc
  clear hc
  have HZ : Hid (zs.length = m) := hz
  clear hz
  go_enter Tryf.func15, Tryf.ntmps15
  go_wp2_with fail
  refine HU.out.mono ?_
  rintro e w1 ⟨v1, rfl, ho, hb⟩
  clear HU
  have HO : Hid (w1.ownsRow B 5 1 v1 (n + 8) (xs ++ Lib.byteCells (Lib.leBytes 8 m))) := ho
  have HB : Hid (Below B w w1) := hb
  clear ho hb
  have HN : Hid (∀ j u, (zs.map (Value.int .u8))[j]? = some u → w1.cell? ((⟨k, 0, none⟩ : Addr).add j) = some u) := by
    intro j u hj
    have hj' : j < zs.length := by have := (List.getElem?_eq_some_iff.1 hj).1; simpa using this
    have e : (zs.map (Value.int .u8))[j]? = some (.int .u8 (zs.getD j 0)) := by simp [List.getD, hj']
    rw [e] at hj
    rw [Addr.add_lit, Nat.zero_add, HB.out.cell (p := ⟨k, j, none⟩) hk, HC.out j (by rw [← HZ.out]; exact hj'), ← hj]
  go_wp2_with (refine wpList_append_own w1 (o := ⟨_, .call { callee := .builtin .append, args := #[.tmp 11, .tmp 12], argTypes := #[22, 22] }, _, _, _, _⟩) rfl (.tmp 11) (.tmp 12) 22 rfl B 5 i (.int .u8 0) 1 1 Tryf.underlying22 HI.out.1 HI.out.2.1 HI.out.2.2.1 HI.out.2.2.2 rfl (by decide) v1 (n + 8) _ rfl HO.out ⟨k, 0, none⟩ m c (zs.map (Value.int .u8)) rfl (by rw [List.length_map, HZ.out, Nat.mul_one]) HN.out (ints_oneCell _ _) (by unfold maxLen; omega) (by omega) (by have := HB.out.size; omega) (fun v' w' h1 h2 _ => ?_))
  go_ret
  refine ⟨_, rfl, ?_, HB.out.grown h2 (by have := HB.out.size; omega) (fun q hq => (HO.out.lt q hq).1)⟩
  unfold framed
  rw [HZ.out, ← List.append_assoc]
  exact h1

set_option maxHeartbeats 1000000 in
theorem append_none (B n : Nat) (sv : Value) (xs : List Value) (w : World) (hown : w.ownsRow B 5 1 sv n xs) (hBw : B ≤ w.heap.size) (hlim : n + 8 ≤ 140737488355328) :
    Calls Tryf.prog 15 #[sv, .slice none 0 0] w fun e w' => ∃ v', e = .returned v' ∧ w'.ownsRow B 5 1 v' (n + 8) (xs ++ framed []) ∧ Below B w w' := by
  have HU : Hid (Calls Tryf.prog 18 #[.agg #[], sv, .int .u64 0] w fun e w' => ∃ v', e = .returned v' ∧ w'.ownsRow B 5 1 v' (n + 8) (xs ++ Lib.byteCells (Lib.leBytes 8 0)) ∧ Below B w w') :=
    Tryf.binary_LE_AppendUint64 B n 0 (by omega) sv xs w hown hBw (by omega)
  obtain ⟨i, hi, hz0, hz1, hz2⟩ := info_parts info5
  have HI : Hid (Tryf.prog.info? 5 = some i) := hi
  clear hi hz0 hz1 hz2 hown
  go_enter Tryf.func15, Tryf.ntmps15
  go_wp2_with fail
  refine HU.out.mono ?_
  rintro e w1 ⟨v1, rfl, ho, hb⟩
  clear HU
  have HO : Hid (w1.ownsRow B 5 1 v1 (n + 8) (xs ++ Lib.byteCells (Lib.leBytes 8 0))) := ho
  have HB : Hid (Below B w w1) := hb
  clear ho hb
  go_wp2_with (refine wpList_append_own_none (o := ⟨_, .call { callee := .builtin .append, args := #[.tmp 11, .tmp 12], argTypes := #[22, 22] }, _, _, _, _⟩) rfl (.tmp 11) (.tmp 12) 22 rfl B 5 i 1 Tryf.underlying22 HI.out v1 (n + 8) _ rfl HO.out rfl ?_)
  go_ret
  refine ⟨_, rfl, ?_, HB.out⟩
  unfold framed
  simpa using HO.out

/-- What a slice that was copied first is: nil, or the head of a row below B. -/
def Src0 (w : World) (B : Nat) (ao : Option Addr) (m c : Nat) (zs : List Int) : Prop :=
  (ao = none ∧ m = 0 ∧ c = 0 ∧ zs = []) ∨ ∃ k, ao = some ⟨k, 0, none⟩ ∧ k < B ∧ zs.length = m ∧ ∀ j, j < m → w.cell? ⟨k, j, none⟩ = some (.int .u8 (zs.getD j 0))

theorem append_any (B n : Nat) (sv : Value) (xs : List Value) (ao : Option Addr) (m c : Nat) (zs : List Int) (w : World) (hown : w.ownsRow B 5 1 sv n xs) (hBw : B ≤ w.heap.size) (hlim : n + 8 + m ≤ 140737488355328) (hs : Src0 w B ao m c zs) :
    Calls Tryf.prog 15 #[sv, .slice ao m c] w fun e w' => ∃ v', e = .returned v' ∧ w'.ownsRow B 5 1 v' (n + 8 + m) (xs ++ framed zs) ∧ Below B w w' := by
  rcases hs with ⟨rfl, rfl, rfl, rfl⟩ | ⟨k, rfl, hk, hz, hc⟩
  · exact append_none B n sv xs w hown hBw (by omega)
  · exact append_some B n sv xs k m c zs w hown hBw hlim hz hk hc

theorem zappend_any (B n : Nat) (sv : Value) (xs : List Value) (ao : Option Addr) (m c : Nat) (zs : List Int) (w : World) (hown : w.ownsRow B 5 1 sv n xs) (hBw : B ≤ w.heap.size) (hlim : n + 8 + m ≤ 140737488355328) (hs : Src0 w B ao m c zs) :
    Calls Tryf.prog 6 #[sv, .slice ao m c] w fun e w' => ∃ g cap, e = .returned (.slice (some ⟨g, 0, none⟩) (n + 8 + m) cap) ∧ B ≤ g ∧ g < w'.heap.size ∧ n + 8 + m ≤ cap ∧ cap ≤ maxLen ∧ w'.ownsRow B 5 1 (.slice (some ⟨g, 0, none⟩) (n + 8 + m) cap) (n + 8 + m) (xs ++ framed zs) ∧ Below B w w' := by
  have HA : Hid (Calls Tryf.prog 15 #[sv, .slice ao m c] w fun e w' => ∃ v', e = .returned v' ∧ w'.ownsRow B 5 1 v' (n + 8 + m) (xs ++ framed zs) ∧ Below B w w') := append_any B n sv xs ao m c zs w hown hBw hlim hs
  clear hown hs
  go_enter Tryf.func6, Tryf.ntmps6
  go_wp2_with fail
  refine HA.out.mono ?_
  rintro e w1 ⟨v1, rfl, ho, hb⟩
  have HO : Hid (w1.ownsRow B 5 1 v1 (n + 8 + m) (xs ++ framed zs)) := ho
  have HB : Hid (Below B w w1) := hb
  clear HA ho hb
  go_wp2
  go_ret
  have ho := HO.out
  rcases ho.2 with ⟨_, h0⟩ | ⟨g, cap, cur, rfl, hbg, hcell, hnc, hcm, hcs, htake⟩
  · omega
  · refine ⟨g, cap, rfl, hbg, ?_, hnc, hcm, ho, HB.out⟩
    rcases Nat.lt_or_ge g w1.heap.size with h | h
    · exact h
    · simp [Array.getElem?_eq_none h] at hcell

set_option maxHeartbeats 1000000 in
/-- 'zzClone': nil, or a new row with the bytes. -/
theorem clone_some (a : Addr) (n c : Nat) (zs : List Int) (w : World) (hz : zs.length = n) (hm : n ≤ 140737488355328) (hc : ∀ i, i < n → w.cell? (a.add i) = some (.int .u8 (zs.getD i 0))) (hb : n ≠ 0 → a.block < w.heap.size) :
    Calls Tryf.prog 7 #[.slice (some a) n c] w fun e w' => e = .returned (.slice (some ⟨w.heap.size, 0, none⟩) n n) ∧ w' = w.alloc (.cells (zs.map (Value.int .u8)).toArray 5) := by
  have h1 := run_make5 n w (by omega)
  have h2 := run_copy5 a c n zs hz w hc hb
  have hq := eql22
  clear hc hb hz
  go_enter Tryf.func7, Tryf.ntmps7
  go_wp2
  go_ret
  exact ⟨rfl, rfl⟩

theorem clone_none (w : World) : Calls Tryf.prog 7 #[.slice none 0 0] w fun e w' => e = .returned (.slice none 0 0) ∧ w' = w := by
  have hq := eql22
  go_enter Tryf.func7, Tryf.ntmps7
  go_wp2
  go_ret
  exact ⟨rfl, rfl⟩
end Go.Proofs.Qxb6616507aFmt

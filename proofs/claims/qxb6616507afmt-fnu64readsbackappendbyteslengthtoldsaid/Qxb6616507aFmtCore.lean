import Derived.Test.Qxb6616507aFmtApp
import Derived.Lib.Endian
namespace Go.Proofs.Qxb6616507aFmt
open Go.RowKit
set_option linter.unusedVariables false

theorem zu64_le (D g N cap off m : Nat) (w : World) (h : Dec w D g N cap off .nilIface) (hn : off + 8 ≤ N) (hN : N ≤ cap) (hm : cap ≤ maxLen) (hgD : g < D) (hm' : m < 18446744073709551616)
    (hc : ∀ j, j < 8 → w.cell? ⟨g, off + j, none⟩ = (Lib.byteCells (Lib.leBytes 8 m))[j]?) :
    Calls Tryf.prog 9 #[.pointer (some ⟨D, 0, none⟩)] w fun e w' => e = .returned (.int .u64 m) ∧ Dec w' D g N cap (off + 8) .nilIface ∧ Below D w w' := by
  have e : Lib.leNat (Lib.leBytes 8 m) = m := Lib.leNat_leBytes 8 m (by omega)
  refine (zu64_ok D g N cap off w h hn hN hm hgD _ _ _ _ _ _ _ _ (hc 0 (by decide)) (hc 1 (by decide)) (hc 2 (by decide)) (hc 3 (by decide)) (hc 4 (by decide)) (hc 5 (by decide)) (hc 6 (by decide)) (hc 7 (by decide))).mono ?_
  rintro x w' ⟨rfl, h2⟩
  refine ⟨?_, h2⟩
  have e2 : Lib.leBytes 8 m = [(m % 256).toUInt8, (m / 256 % 256).toUInt8, (m / 256 / 256 % 256).toUInt8, (m / 256 / 256 / 256 % 256).toUInt8, (m / 256 / 256 / 256 / 256 % 256).toUInt8, (m / 256 / 256 / 256 / 256 / 256 % 256).toUInt8, (m / 256 / 256 / 256 / 256 / 256 / 256 % 256).toUInt8, (m / 256 / 256 / 256 / 256 / 256 / 256 / 256 % 256).toUInt8] := rfl
  rw [← e2, e]

theorem Bs.drewN {w : World} {ao : Option Addr} {zs : List Int} (h : Bs w ao zs) (n : Nat) : Bs (w.drewN n) ao zs := h

theorem eq_len (ao bo : Option Addr) (ca cb n : Nat) (zs : List Int) (w : World) (hz : zs.length = n) (hm : n ≤ maxLen) (ha : Bs w ao zs) (hb : Bs w bo zs) :
    Calls Tryf.prog 12 #[.slice ao n ca, .slice bo n cb] w fun e w' => e = .returned (.bool true) ∧ ∃ n, w' = w.drewN n := by
  subst hz
  exact eq_any ao bo ca cb zs w hm ha hb

/-- WHAT THE WALK IS TOLD OF A SLICE OF BYTES THAT CAME IN. -/
def IsRow (k : IntKind) (w : World) (a : Option Addr) (len cap : Nat) (zs : List Int) : Prop :=
  (a = none ∧ len = 0 ∧ cap = 0 ∧ zs = []) ∨
  ∃ x, a = some x ∧ len ≤ cap ∧ cap ≤ maxLen ∧ zs.length = cap ∧ (∀ i, i < zs.length → w.cell? (x.add i) = some (.int k (zs.getD i 0))) ∧ ∀ n ∈ zs, (Lit.int k n).wf = true

theorem cell_lt {w : World} {a : Addr} {v : Value} (h : w.cell? a = some v) : a.block < w.heap.size := by
  rcases Nat.lt_or_ge a.block w.heap.size with h' | h'
  · exact h'
  · simp [World.cell?, Array.getElem?_eq_none h'] at h

theorem getD_take (zs : List Int) (n j : Nat) (hj : j < n) : (zs.take n).getD j 0 = zs.getD j 0 := by
  simp [List.getD, hj]

/-- A slice that came in and is not nil: what the copy, and what 'zzEqual', want. -/
theorem isRow_some {w : World} {x : Addr} {len cap : Nat} {zs : List Int} (h : IsRow .u8 w (some x) len cap zs) :
    (zs.take len).length = len ∧ (∀ i, i < len → w.cell? (x.add i) = some (.int .u8 ((zs.take len).getD i 0))) ∧ (len ≠ 0 → x.block < w.heap.size) ∧ Bs w (some x) (zs.take len) := by
  rcases h with ⟨h, _⟩ | ⟨y, hy, hl, hm, hz, hc, _⟩
  · cases h
  · cases hy
    have h1 : (zs.take len).length = len := by rw [List.length_take]; omega
    have h2 : ∀ i, i < len → w.cell? (x.add i) = some (.int .u8 ((zs.take len).getD i 0)) := fun i hi => by rw [getD_take _ _ _ hi]; exact hc i (by omega)
    have h3 : len ≠ 0 → x.block < w.heap.size := fun h0 => by
      have := cell_lt (h2 0 (by omega))
      have e2 : (x.add 0).block = x.block := by unfold Addr.add; split <;> rfl
      rwa [e2] at this
    refine ⟨h1, h2, h3, ?_⟩
    by_cases h0 : len = 0
    · left; subst h0; simp
    · right
      have hs := World.cell?_spot (h2 0 (by omega))
      obtain ⟨b, o, sp⟩ := x
      have hsp : sp = none := by simpa [Addr.add] using hs
      subst hsp
      refine ⟨b, o, rfl, h3 h0, fun j hj => ?_⟩
      rw [h1] at hj
      have := h2 j hj
      rwa [Addr.add_lit] at this

/-- Cells of a row that reads as a list of cells, one part of it. -/
theorem row_part {w : World} {g : Nat} {L : List Value} {N : Nat} (h : ∀ j, j < N → w.cell? ⟨g, j, none⟩ = L[j]?) (hg : g < w.heap.size) (zs : List Int) (o : Nat) (ho : o + zs.length ≤ N) (hL : ∀ j, j < zs.length → L[o + j]? = some (.int .u8 (zs.getD j 0))) : Bs w (some ⟨g, o, none⟩) zs :=
  .inr ⟨g, o, rfl, hg, fun j hj => (h _ (by omega)).trans (hL j hj)⟩

theorem list_mid (xs ys zs : List Value) (j : Nat) (hj : j < ys.length) : (xs ++ (ys ++ zs))[xs.length + j]? = ys[j]? := by
  rw [List.getElem?_append_right (by omega)]
  rw [show xs.length + j - xs.length = j by omega, List.getElem?_append_left hj]

theorem list_end (xs ys : List Value) (zs : List Int) (o j : Nat) (ho : o = xs.length + ys.length) (hj : j < zs.length) : (xs ++ (ys ++ zs.map (Value.int .u8)))[o + j]? = some (.int .u8 (zs.getD j 0)) := by
  subst ho
  rw [List.getElem?_append_right (by omega), List.getElem?_append_right (by omega)]
  rw [show xs.length + ys.length + j - xs.length - ys.length = j by omega]
  simp [List.getD, hj]

theorem list_head (zs : List Int) (ys : List Value) (j : Nat) (hj : j < zs.length) : (zs.map (Value.int .u8) ++ ys)[0 + j]? = some (.int .u8 (zs.getD j 0)) := by
  rw [Nat.zero_add, List.getElem?_append_left (by simpa using hj)]
  simp [List.getD, hj]

/-- Two frames, one behind the other: where each part lies. -/
theorem frames (P Q : List Int) (n m : Nat) (hP : P.length = n) (hQ : Q.length = m) :
    Hid (∀ j, j < 8 → (([] ++ framed P) ++ framed Q)[0 + j]? = (Lib.byteCells (Lib.leBytes 8 n))[j]?) ∧
    Hid (∀ j, j < P.length → (([] ++ framed P) ++ framed Q)[8 + j]? = some (.int .u8 (P.getD j 0))) ∧
    Hid (∀ j, j < 8 → (([] ++ framed P) ++ framed Q)[8 + n + j]? = (Lib.byteCells (Lib.leBytes 8 m))[j]?) ∧
    Hid (∀ j, j < Q.length → (([] ++ framed P) ++ framed Q)[8 + n + 8 + j]? = some (.int .u8 (Q.getD j 0))) := by
  have hl : (Lib.byteCells (Lib.leBytes 8 P.length)).length = 8 := by rw [Lib.byteCells_length, Lib.leBytes_length]
  have hl2 : ([] ++ framed P).length = 8 + n := by
    unfold framed
    rw [List.nil_append, List.length_append, Lib.byteCells_length, Lib.leBytes_length, List.length_map, hP]
  have e3 : (([] ++ framed P) ++ framed Q) = ([] ++ framed P) ++ (Lib.byteCells (Lib.leBytes 8 Q.length) ++ Q.map (Value.int .u8)) := rfl
  refine ⟨fun j hj => ?_, fun j hj => ?_, fun j hj => ?_, fun j hj => ?_⟩
  · have h := list_mid [] (Lib.byteCells (Lib.leBytes 8 P.length)) (P.map (Value.int .u8) ++ framed Q) j (by rw [hl]; exact hj)
    have e : (([] ++ framed P) ++ framed Q) = [] ++ (Lib.byteCells (Lib.leBytes 8 P.length) ++ (P.map (Value.int .u8) ++ framed Q)) := by unfold framed; simp
    rw [e, show 0 + j = ([] : List Value).length + j by simp, h, hP]
  · have e : (([] ++ framed P) ++ framed Q) = Lib.byteCells (Lib.leBytes 8 P.length) ++ (P.map (Value.int .u8) ++ framed Q) := by unfold framed; simp
    have h := list_mid (Lib.byteCells (Lib.leBytes 8 P.length)) (P.map (Value.int .u8)) (framed Q) j (by rw [List.length_map]; exact hj)
    rw [hl] at h
    rw [e, h]
    simp [List.getD, hj]
  · have h := list_mid ([] ++ framed P) (Lib.byteCells (Lib.leBytes 8 Q.length)) (Q.map (Value.int .u8)) j (by rw [Lib.byteCells_length, Lib.leBytes_length]; exact hj)
    rw [hl2] at h
    rw [e3, h, hQ]
  · rw [e3]
    exact list_end _ _ _ _ j (by rw [hl2, Lib.byteCells_length, Lib.leBytes_length]) hj
end Go.Proofs.Qxb6616507aFmt

import Derived.Test.Qxb6616460aScrA
import Derived.BigRegion
namespace Go.Proofs.Qxb6616460a
open Go.RowKit
set_option linter.unusedVariables false

theorem SInv.state {lo hi x : Nat} {w W : World} {vw vp : Value} {st z : Int} {g n : Nat} {A : Nat → Option Addr} {N C : Nat → Nat} {B : Nat} (h : SInv lo hi x w W (srow vw st vp).toArray g n A N C B) : SInv lo hi x w (W.setCell ⟨x, 1, none⟩ (.int .i64 z)) (srow vw z vp).toArray g n A N C B := by
  refine ⟨h.scr.setCell h.blk (.inl ⟨rfl, rfl⟩) _ _, ?_, fun hn => ?_, fun j hj hN => ?_⟩
  · exact setCell_blk h.blk 1 (.int .i64 z)
  · obtain ⟨f1, f2, cur, f3, f4⟩ := h.peers hn
    have hg : g ≠ x := by rintro rfl; have := h.blk; rw [f3] at this; cases this
    exact ⟨f1, f2, cur, (Below.heap_setCell W ⟨x, 1, none⟩ _ g hg).trans f3, f4⟩
  · obtain ⟨h', e1, e2, e3, cur, e4, e5⟩ := h.cells j hj hN
    have hg : h' ≠ x := by rintro rfl; have := h.blk; rw [e4] at this; cases this
    exact ⟨h', e1, e2, e3, cur, (Below.heap_setCell W ⟨x, 1, none⟩ _ h' hg).trans e4, e5⟩

theorem size_bang (s : ByteArray) : (s ++ (⟨#[33]⟩ : ByteArray)).size = s.size + 1 := by rw [ByteArray.size_append]; rfl

set_option maxHeartbeats 4000000 in
set_option maxRecDepth 100000 in
theorem scribble_any (lo hi x g n cp : Nat) (ao : Option Addr) (pw : Option Addr) (st : Int) (A : Nat → Option Addr) (N C : Nat → Nat) (w : World) (hao : 0 < n → ao = some ⟨g, 0, none⟩) (hn : n ≤ 1048576) (hN : ∀ j, j < n → N j ≤ 1048576)
    (h0 : SInv lo hi x w w (srow (.pointer pw) st (.slice ao n cp)).toArray g n A N C 1048576) :
    Calls Try.prog 11 #[.pointer (some ⟨x, 0, none⟩)] w fun e w' => (∃ v, e = .returned v) ∧ Scr lo hi x w w' := by
  have x1 : w.cell? ⟨x, 1, none⟩ = some (.int .i64 st) := h0.atx 1 _ rfl
  have x5 : w.cell? ⟨x, 5, none⟩ = some (.slice ao n cp) := h0.atx 5 _ rfl
  have f1 := frozen_of h0.blk 1
  have HI0 : Hid (SInv lo hi x w w (srow (.pointer pw) st (.slice ao n cp)).toArray g n A N C 1048576) := h0
  clear h0
  go_enter Try.func11, Try.ntmps11
  go_upto_region 1 with fail
  have HI1 : Hid (SInv lo hi x w (w.setCell ⟨x, 1, none⟩ (.int .i64 (wrap64 (st + 1)))) (srow (.pointer pw) (wrap64 (st + 1)) (.slice ao n cp)).toArray g n A N C 1048576) := HI0.out.state
  clear x1 x5 f1 HI0
  obtain ⟨R, hR⟩ : ∃ R, R = (srow (.pointer pw) (wrap64 (st + 1)) (.slice ao n cp)).toArray := ⟨_, rfl⟩
  have HR5 : Hid (R[5]? = some (.slice ao n cp)) := by rw [hR]; exact rfl
  rw [← hR] at HI1
  generalize w.setCell ⟨x, 1, none⟩ (.int .i64 (wrap64 (st + 1))) = w1 at HI1 ⊢
  clear hR
  go_wp2
  go_loopw [2] (fun i w' => ∃ k : Nat, k ≤ n ∧ i = .int .i64 k ∧ Hid (SInv lo hi x w w' R g n A N C (1048576 + k * 2097152))) (fun i _ => n - (intOf i).toNat)
  case atStart => exact ⟨0, Nat.zero_le _, rfl, by simpa using HI1⟩
  case round =>
    obtain ⟨k, hk, rfl, HI⟩ := hrel
    have x5 := HI.out.atx 5 _ HR5.out
    by_cases hlt : k < n
    · have hao' := hao (by omega)
      subst hao'
      obtain ⟨⟨z, c1⟩, _, _, fz⟩ := HI.out.at1 hlt
      have f1 := fz (k * 14 + 1)
      clear fz
      have hxl := cell_lt x5
      go_upto_region 4 with fail
      go_region
      have HI4 : Hid (SInv lo hi x w (wr.setCell ⟨g, k * 14 + 1, none⟩ (.int .i64 (wrap64 (z + 1)))).drew R g n A N C (1048576 + k * 2097152 + 1)) := (HI.out.set1 hlt _ (.inl ⟨rfl, _, rfl⟩)).drew
      generalize (wr.setCell ⟨g, k * 14 + 1, none⟩ (.int .i64 (wrap64 (z + 1)))).drew = w4 at HI4 ⊢
      clear x5 c1 f1 hxl
      have x5 := HI4.out.atx 5 _ HR5.out
      obtain ⟨_, ⟨s, c5, hs5⟩, _, fz⟩ := HI4.out.at1 hlt
      have f5 := fz (k * 14 + 5)
      have hs6 : s.size ≤ 4398046511104 := by omega
      clear fz
      go_upto_region 5 with fail
      go_region
      have HI5 : Hid (SInv lo hi x w (w4.setCell ⟨g, k * 14 + 5, none⟩ (.string (s ++ ⟨#[33]⟩))).drew R g n A N C (1048576 + k * 2097152 + 2)) := (HI4.out.set1 hlt _ (.inr ⟨rfl, _, rfl, by rw [size_bang]; omega⟩)).drew
      generalize (w4.setCell ⟨g, k * 14 + 5, none⟩ (.string (s ++ ⟨#[33]⟩))).drew = w5 at HI5 ⊢
      clear x5 c5 f5 hs5 hs6 HI4 HI HI1
      have hNk := hN k hlt
      go_wp2
      go_loopw [3] (fun i w' => ∃ m : Nat, m ≤ N k ∧ i = .int .i64 m ∧ Hid (SInv lo hi x w w' R g n A N C (1048576 + k * 2097152 + 2 + m))) (fun i _ => N k - (intOf i).toNat)
      case atStart => exact ⟨0, Nat.zero_le _, rfl, HI5⟩
      case round =>
        obtain ⟨m, hm, rfl, HI⟩ := hrel
        have x5 := HI.out.atx 5 _ HR5.out
        obtain ⟨_, _, c2, _⟩ := HI.out.at1 hlt
        by_cases hlm : m < N k
        · obtain ⟨h', hA, ⟨s2, c5, hs5⟩, fz⟩ := HI.out.at2 hlt hlm
          have f5 := fz (m * 7 + 5)
          have hs6 : s2.size ≤ 4398046511104 := by omega
          rw [hA] at c2
          have HA : Hid (A k = some ⟨h', 0, none⟩) := hA
          clear fz hA
          go_upto_region 9 with fail
          go_region
          have HI9 : Hid (SInv lo hi x w (wr.setCell ⟨h', m * 7 + 5, none⟩ (.string (s2 ++ ⟨#[33]⟩))).drew R g n A N C (1048576 + k * 2097152 + 2 + m + 1)) := (HI.out.set2 hlt hlm HA.out _ (by rw [size_bang]; omega)).drew
          clear x5 c2 c5 f5
          go_wp2
          go_roundw
          case rel =>
            first
              | exact ⟨m + 1, by omega, by go_num, HI9⟩
              | (repeat apply Exists.intro
                 exact ⟨⟨m + 1, by omega, by go_num, HI9⟩, rfl⟩)
          case measure => simp [intOf]; omega
        · have HI9 : Hid (SInv lo hi x w wr R g n A N C (1048576 + (k + 1) * 2097152)) := HI.out.mono (by omega)
          go_wp2
          go_roundw
          case rel =>
            first
              | exact ⟨k + 1, by omega, by go_num, HI9⟩
              | (repeat apply Exists.intro
                 exact ⟨⟨k + 1, by omega, by go_num, HI9⟩, rfl⟩)
          case measure => simp [intOf]; omega
    · have hb := HI.out.scr
      go_wp2
      go_end0
      exact ⟨⟨_, rfl⟩, hb⟩
end Go.Proofs.Qxb6616460a

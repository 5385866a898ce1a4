import Derived.Test.Qxb6616507aFmtWalks
namespace Go.Proofs.Qxb6616507aFmt
open Go.RowKit
set_option linter.unusedVariables false

/-- The slice at 'ao' reads as the bytes 'zs'. -/
def Bs (w : World) (ao : Option Addr) (zs : List Int) : Prop :=
  zs = [] ∨ ∃ g o, ao = some ⟨g, o, none⟩ ∧ g < w.heap.size ∧ ∀ j, j < zs.length → w.cell? ⟨g, o + j, none⟩ = some (.int .u8 (zs.getD j 0))

theorem Bs.below {w w' : World} {B : Nat} {ao : Option Addr} {zs : List Int} (h : Bs w ao zs) (hb : Below B w w') (hB : ∀ a, ao = some a → a.block < B) : Bs w' ao zs := by
  rcases h with h | ⟨g, o, rfl, hg, hc⟩
  · exact .inl h
  · refine .inr ⟨g, o, rfl, Nat.lt_of_lt_of_le hg hb.size, fun j hj => ?_⟩
    rw [hb.cell (p := ⟨g, o + j, none⟩) (hB ⟨g, o, none⟩ rfl)]
    exact hc j hj

set_option maxHeartbeats 1000000 in
theorem eq_any (ao bo : Option Addr) (ca cb : Nat) (zs : List Int) (w : World) (hm : zs.length ≤ maxLen) (ha : Bs w ao zs) (hb : Bs w bo zs) :
    Calls Tryf.prog 12 #[.slice ao zs.length ca, .slice bo zs.length cb] w fun e w' => e = .returned (.bool true) ∧ ∃ n, w' = w.drewN n := by
  unfold maxLen at hm
  have HA : Hid (Bs w ao zs) := ha
  have HB : Hid (Bs w bo zs) := hb
  clear ha hb
  have hne : ((zs.length : Int) != (zs.length : Int)) = false := by simp
  generalize hn : zs.length = n at *
  have HN : Hid (zs.length = n) := hn
  clear hn
  go_enter Tryf.func12, Tryf.ntmps12
  go_wp2
  go_loopw [5] (fun i w' => ∃ k : Nat, k ≤ n ∧ i = .int .i64 k ∧ ∃ m, w' = w.drewN m) (fun i _ => n - (intOf i).toNat)
  case atStart => exact ⟨0, Nat.zero_le _, rfl, 0, rfl⟩
  case round =>
    obtain ⟨k, hk, rfl, m, rfl⟩ := hrel
    by_cases hlt : k < n
    · rcases HA.out with h | ⟨g, o, rfl, hg, hc⟩
      · have := HN.out; rw [h] at this; simp at this; omega
      rcases HB.out with h | ⟨g', o', rfl, hg', hc'⟩
      · have := HN.out; rw [h] at this; simp at this; omega
      have c1 := hc k (by rw [HN.out]; exact hlt)
      have c2 := hc' k (by rw [HN.out]; exact hlt)
      clear hc hc' HA HB
      generalize zs.getD k 0 = z at c1 c2
      go_wp2
      go_quiet (fail)
      go_wp2
      go_roundw
      case rel => exact ⟨k + 1, by omega, by go_num, _, rfl⟩
      case measure => simp [intOf]; omega
    · go_wp2
      go_ret
      exact ⟨rfl, _, rfl⟩
end Go.Proofs.Qxb6616507aFmt

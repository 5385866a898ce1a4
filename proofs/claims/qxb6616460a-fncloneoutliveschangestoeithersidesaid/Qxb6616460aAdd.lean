import Derived.Test.Qxb6616460aData
namespace Go.Proofs.Qxb6616460a
open Go.RowKit
set_option linter.unusedVariables false

def Adds (n l m : Nat) : Prop := m ≤ 2097152 ∧ (m ≤ 1048576 → n + l ≤ m)

theorem add_any (n : Nat) (l : Int) (w : World) (hl : 0 ≤ l) : Calls Try.prog 12 #[.int .i64 n, .int .i64 l] w fun e w' => ∃ m : Nat, e = .returned (.int .i64 m) ∧ w = w' ∧ Hid (Adds n l.toNat m) := by
  by_cases h1 : (1048576 : Int) < (n : Int)
  · go_enter Try.func12, Try.ntmps12
    go_wp2
    go_ret
    exact ⟨1048577, rfl, rfl, by unfold Hid Adds; omega⟩
  · by_cases h2 : (1048576 : Int) < l
    · go_enter Try.func12, Try.ntmps12
      go_wp2
      go_ret
      exact ⟨1048577, rfl, rfl, by unfold Hid Adds; omega⟩
    · go_enter Try.func12, Try.ntmps12
      go_wp2
      go_ret
      refine ⟨n + l.toNat, ?_, rfl, by unfold Hid Adds; omega⟩
      have e : (n : Int) + l = ((n + l.toNat : Nat) : Int) := by omega
      rw [← e]
      first
        | rfl
        | (simp; go_num)
        | go_num

/-- What the sum at hand says of what was summed. -/
def Acc (L m : Nat) : Prop := m ≤ 2097152 ∧ (m ≤ 1048576 → L ≤ m)
theorem Acc.step {L m m2 : Nat} {l : Int} (h : Hid (Acc L m)) (ha : Hid (Adds m l.toNat m2)) : Hid (Acc (L + l.toNat) m2) := by
  obtain ⟨h1, h2⟩ := h
  obtain ⟨h3, h4⟩ := ha
  exact ⟨h3, fun hm => by have := h4 hm; have := h2 (by omega); omega⟩

/-- What the bound says of a peer. -/
structure Good (p : ZP) : Prop where
  small : Small p
  cause : p.cause.size ≤ 1048576
  causes : ∀ c ∈ p.cells, c.cause.size ≤ 1048576
end Go.Proofs.Qxb6616460a

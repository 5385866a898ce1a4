import Derived.Test.Qxb6616307aDoorRows
import Derived.WalkKit
import Derived.ProofKit
import Derived.Below
import Derived.Laws.IdiomStrings
import Derived.Lib.ConvBytes
import Derived.Deep.QuietTactic
import Derived.BigQuiet
namespace Go.Proofs.Qxb6616307aDoor
open Go.RowKit
set_option linter.unusedVariables false

/-- internal/strconv.ParseBool at the word 'true'. -/
theorem iparse_t (w : World) : Calls Tryd.prog 17 #[.string ⟨#[116, 114, 117, 101]⟩] w fun e w' => e = .returned (.tuple #[.bool true, .nilIface]) ∧ w' = w := by
  go_enter Tryd.func17, Tryd.ntmps17
  go_wp2
  go_ret2
  exact ⟨rfl, rfl⟩
theorem iparse_f (w : World) : Calls Tryd.prog 17 #[.string ⟨#[102, 97, 108, 115, 101]⟩] w fun e w' => e = .returned (.tuple #[.bool false, .nilIface]) ∧ w' = w := by
  go_enter Tryd.func17, Tryd.ntmps17
  go_wp2
  go_ret2
  exact ⟨rfl, rfl⟩
theorem parse_t (w : World) : Calls Tryd.prog 15 #[.string ⟨#[116, 114, 117, 101]⟩] w fun e w' => e = .returned (.tuple #[.bool true, .nilIface]) ∧ w' = w := by
  go_enter Tryd.func15, Tryd.ntmps15
  go_wp2_with (go_at_call 17; refine (iparse_t _).mono ?_; rintro e w' ⟨rfl, rfl⟩)
  go_ret2
  exact ⟨rfl, rfl⟩
theorem parse_f (w : World) : Calls Tryd.prog 15 #[.string ⟨#[102, 97, 108, 115, 101]⟩] w fun e w' => e = .returned (.tuple #[.bool false, .nilIface]) ∧ w' = w := by
  go_enter Tryd.func15, Tryd.ntmps15
  go_wp2_with (go_at_call 17; refine (iparse_f _).mono ?_; rintro e w' ⟨rfl, rfl⟩)
  go_ret2
  exact ⟨rfl, rfl⟩

theorem set_below {b : Nat} {w : World} (v : Value) (o : Obj) (hb : b < w.heap.size) (x : Value) (hc : w.cell? ⟨b, 0, none⟩ = some x) :
    ((w.setCell ⟨b, 0, none⟩ v).alloc o).cell? ⟨b, 0, none⟩ = some v ∧ Below b w ((w.setCell ⟨b, 0, none⟩ v).alloc o) :=
  ⟨by simp [go_sem, hc, hb], ((Below.refl b w).setCell (p := ⟨b, 0, none⟩) (Nat.le_refl _) v).alloc (by simp [World.setCell]; omega) _⟩

theorem text_t (b : Nat) (x : Value) (w : World) (hb : b < w.heap.size) (hc : w.cell? ⟨b, 0, none⟩ = some x) (hf : w.frozen? ⟨b, 0, none⟩ = false) :
    Calls Tryd.prog 13 #[.agg #[.pointer (some ⟨b, 0, none⟩)], .string ⟨#[116, 114, 117, 101]⟩] w fun e w' => e = .returned (.bool true) ∧ w'.cell? ⟨b, 0, none⟩ = some (.bool true) ∧ Below b w w' := by
  go_enter Tryd.func13, Tryd.ntmps13
  go_wp2_with (go_at_call 15; refine (parse_t _).mono ?_; rintro e w' ⟨rfl, rfl⟩)
  go_ret
  exact ⟨rfl, set_below _ _ hb x hc⟩
theorem text_f (b : Nat) (x : Value) (w : World) (hb : b < w.heap.size) (hc : w.cell? ⟨b, 0, none⟩ = some x) (hf : w.frozen? ⟨b, 0, none⟩ = false) :
    Calls Tryd.prog 13 #[.agg #[.pointer (some ⟨b, 0, none⟩)], .string ⟨#[102, 97, 108, 115, 101]⟩] w fun e w' => e = .returned (.bool true) ∧ w'.cell? ⟨b, 0, none⟩ = some (.bool false) ∧ Below b w w' := by
  go_enter Tryd.func13, Tryd.ntmps13
  go_wp2_with (go_at_call 15; refine (parse_f _).mono ?_; rintro e w' ⟨rfl, rfl⟩)
  go_ret
  exact ⟨rfl, set_below _ _ hb x hc⟩

/-- 'want': the constant. -/
theorem want_any (a : Addr) (w : World) : Calls Tryd.prog 7 #[.pointer (some a)] w fun e w' => e = .returned (.string ⟨#[116, 114, 117, 101, 32, 111, 114, 32, 102, 97, 108, 115, 101]⟩) ∧ Below w.heap.size w w' := by
  go_enter Tryd.func7, Tryd.ntmps7
  go_wp2
  go_ret
  exact ⟨rfl, (Below.refl _ _).alloc (Nat.le_refl _) _⟩

theorem bytes_any (s : ByteArray) (b : Bool) (w : World) (h : s.size ≤ maxLen) : Calls Tryd.prog 5 #[.string s, .bool b] w fun e w' => (∃ r, e = .returned (.bool r)) ∧ w' = w := by
  unfold maxLen at *
  go_enter Tryd.func5, Tryd.ntmps5
  go_wp2
  all_goals
    go_ret
    exact ⟨⟨_, rfl⟩, rfl⟩

set_option maxHeartbeats 1000000 in
/-- 'zzSplitOr' at what 'want' says. -/
theorem split_any (w : World) : Calls Tryd.prog 8 #[.string ⟨#[116, 114, 117, 101, 32, 111, 114, 32, 102, 97, 108, 115, 101]⟩] w fun e w' =>
    e = .returned (.tuple #[.string ⟨#[116, 114, 117, 101]⟩, .string ⟨#[102, 97, 108, 115, 101]⟩, .bool true]) ∧ ∃ n, w' = w.drewN n := by
  have e0 : (ByteArray.mk #[116, 114, 117, 101, 32, 111, 114, 32, 102, 97, 108, 115, 101]).extract 0 4 = ⟨#[116, 114, 117, 101]⟩ := by decide +kernel
  have e1 : (ByteArray.mk #[116, 114, 117, 101, 32, 111, 114, 32, 102, 97, 108, 115, 101]).extract 1 5 = ⟨#[114, 117, 101, 32]⟩ := by decide +kernel
  have e2 : (ByteArray.mk #[116, 114, 117, 101, 32, 111, 114, 32, 102, 97, 108, 115, 101]).extract 2 6 = ⟨#[117, 101, 32, 111]⟩ := by decide +kernel
  have e3 : (ByteArray.mk #[116, 114, 117, 101, 32, 111, 114, 32, 102, 97, 108, 115, 101]).extract 3 7 = ⟨#[101, 32, 111, 114]⟩ := by decide +kernel
  have e4 : (ByteArray.mk #[116, 114, 117, 101, 32, 111, 114, 32, 102, 97, 108, 115, 101]).extract 4 8 = ⟨#[32, 111, 114, 32]⟩ := by decide +kernel
  have e5 : (ByteArray.mk #[116, 114, 117, 101, 32, 111, 114, 32, 102, 97, 108, 115, 101]).extract 8 13 = ⟨#[102, 97, 108, 115, 101]⟩ := by decide +kernel
  go_enter Tryd.func8, Tryd.ntmps8
  go_wp2
  go_loop [5] (fun i => ∃ k : Nat, k ≤ 4 ∧ i = .int .i64 k) (fun i => 4 - (intOf i).toNat)
  case atStart => exact ⟨0, by omega, rfl⟩
  case round =>
    obtain ⟨k, hk, rfl⟩ := hrel
    have h5 : k = 0 ∨ k = 1 ∨ k = 2 ∨ k = 3 ∨ k = 4 := by omega
    rcases h5 with rfl | rfl | rfl | rfl | rfl
    case inr.inr.inr.inr =>
      go_wp2
      go_quiet (fail)
      go_wp2
      go_ret3
      exact ⟨rfl, _, rfl⟩
    all_goals
      go_wp2
      go_round
      case rel => refine ⟨_, ?_, rfl⟩; decide
      case measure => simp [intOf]
end Go.Proofs.Qxb6616307aDoor

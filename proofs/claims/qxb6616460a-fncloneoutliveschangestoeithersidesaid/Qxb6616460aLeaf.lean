import Derived.Test.Qxb6616460aRows
import Derived.WalkKit
import Derived.ProofKit
import Derived.Below
import Derived.WalkSpells
import Derived.Deep.WholeRow
import Derived.Deep.QuietTactic
import Derived.BigQuiet
import Derived.Deep.RegionHeld3
import Derived.Deep.DrawnRows
namespace Go.Proofs.Qxb6616460a
open Go.RowKit
set_option linter.unusedVariables false

theorem toList_self (s : ByteArray) : (s.toList == s.toList) = true := by simp

/-- zzPLMN. -/
theorem plmn_any (a b : ByteArray) (w : World) : Calls Try.prog 17 #[.string a, .string b] w fun e w' => e = .returned (.agg #[.string a, .string b]) ∧ ∃ cs, w' = w.alloc (.cells cs 57) := by
  go_enter Try.func17, Try.ntmps17
  go_wp2
  exact bodyPost_ret (v := .agg #[.string a, .string b]) (by simp [results, Try.results17, go_sem]) rfl ⟨rfl, _, rfl⟩

/-- zzSamePLMN where the two are the same. -/
theorem same_any (a b : ByteArray) (w : World) : Calls Try.prog 19 #[.agg #[.string a, .string b], .string a, .string b] w fun e w' => e = .returned (.bool true) ∧ ∃ cs, w' = w.alloc (.cells cs 57) := by
  have h1 := toList_self a
  have h2 := toList_self b
  go_enter Try.func19, Try.ntmps19
  go_wp2
  go_ret
  exact ⟨rfl, _, rfl⟩

/-- A cell as the law is handed it. -/
structure ZC where
  mcc : ByteArray
  mnc : ByteArray
  lac : Int
  ci : Int
  st : Int
  cause : ByteArray
  hc : Bool
  comp : Int
  info : Int
def ZC.row (c : ZC) : List Value := [.string c.mcc, .string c.mnc, .int .u16 c.lac, .int .u16 c.ci, .int .i64 c.st, .string c.cause, .bool c.hc, .int .u16 c.comp, .int .i64 c.info]

/-- A cell as it was built: its seven cells, and what its pointer leads to. -/
def CellOK (w : World) (cs : List Value) (c : ZC) : Prop :=
  (c.hc = false ∧ cs = [.string c.mcc, .string c.mnc, .int .u16 c.lac, .int .u16 c.ci, .int .i64 c.st, .string c.cause, .pointer none]) ∨
  (c.hc = true ∧ ∃ k, cs = [.string c.mcc, .string c.mnc, .int .u16 c.lac, .int .u16 c.ci, .int .i64 c.st, .string c.cause, .pointer (some ⟨k, 0, none⟩)] ∧
    w.heap[k]? = some (.cells #[.int .u16 c.comp, .int .i64 c.info] 112 (0, 0)))

theorem heap_lt {w : World} {k : Nat} {o : Obj} (h : w.heap[k]? = some o) : k < w.heap.size := by
  rcases Nat.lt_or_ge k w.heap.size with h' | h'
  · exact h'
  · simp [Array.getElem?_eq_none h'] at h

set_option maxHeartbeats 1000000 in
/-- zzCellIs at a cell that was built from it. -/
theorem cellIs_none (mcc mnc : ByteArray) (lac ci st : Int) (cause : ByteArray) (comp info : Int) (w : World) :
    Calls Try.prog 18 #[.agg #[.string mcc, .string mnc, .int .u16 lac, .int .u16 ci, .int .i64 st, .string cause, .pointer none], .agg #[.string mcc, .string mnc, .int .u16 lac, .int .u16 ci, .int .i64 st, .string cause, .bool false, .int .u16 comp, .int .i64 info]] w
      fun e w' => e = .returned (.bool true) ∧ Below w.heap.size w w' := by
  have h1 := toList_self cause
  go_enter Try.func18, Try.ntmps18
  go_wp2_with (go_at_call 19; refine (same_any _ _ _).mono ?_; rintro e w' ⟨rfl, cs, rfl⟩)
  go_ret
  exact ⟨rfl, (((Below.refl _ _).alloc (Nat.le_refl _) _).alloc (by simp) _).alloc (by simp; omega) _⟩

set_option maxHeartbeats 1000000 in
theorem cellIs_some (mcc mnc : ByteArray) (lac ci st : Int) (cause : ByteArray) (comp info : Int) (k : Nat) (w : World) (hk : w.heap[k]? = some (.cells #[.int .u16 comp, .int .i64 info] 112 (0, 0))) :
    Calls Try.prog 18 #[.agg #[.string mcc, .string mnc, .int .u16 lac, .int .u16 ci, .int .i64 st, .string cause, .pointer (some ⟨k, 0, none⟩)], .agg #[.string mcc, .string mnc, .int .u16 lac, .int .u16 ci, .int .i64 st, .string cause, .bool true, .int .u16 comp, .int .i64 info]] w
      fun e w' => e = .returned (.bool true) ∧ Below w.heap.size w w' := by
  have h1 := toList_self cause
  have k0 : w.cell? ⟨k, 0, none⟩ = some (.int .u16 comp) := cell_of_row w k 0 _ _ _ hk
  have k1 : w.cell? ⟨k, 1, none⟩ = some (.int .i64 info) := cell_of_row w k 1 _ _ _ hk
  have l0 : k < w.heap.size := heap_lt hk
  have l1 : k < w.heap.size + 1 := by omega
  have l2 : k < w.heap.size + 1 + 1 := by omega
  clear hk
  go_enter Try.func18, Try.ntmps18
  go_wp2_with (go_at_call 19; refine (same_any _ _ _).mono ?_; rintro e w' ⟨rfl, cs, rfl⟩)
  go_quiet (fail)
  go_wp2
  go_ret
  exact ⟨rfl, ((((Below.refl _ _).alloc (Nat.le_refl _) _).alloc (by simp) _).alloc (by simp; omega) _).trans ⟨rfl, rfl, rfl, Nat.le_refl _, fun _ _ => rfl⟩⟩

theorem cellIs_any (cs : List Value) (c : ZC) (w : World) (h : CellOK w cs c) : Calls Try.prog 18 #[.agg cs.toArray, .agg c.row.toArray] w fun e w' => e = .returned (.bool true) ∧ Below w.heap.size w w' := by
  obtain ⟨mcc, mnc, lac, ci, st, cause, hc, comp, info⟩ := c
  rcases h with ⟨h1, rfl⟩ | ⟨h1, k, rfl, hk⟩
  · simp only at h1; subst h1
    exact cellIs_none mcc mnc lac ci st cause comp info w
  · simp only at h1; subst h1
    exact cellIs_some mcc mnc lac ci st cause comp info k w hk

set_option maxHeartbeats 2000000 in
theorem build_none (mcc mnc : ByteArray) (lac ci st : Int) (cause : ByteArray) (comp info : Int) (w : World) :
    Calls Try.prog 16 #[.agg #[.string mcc, .string mnc, .int .u16 lac, .int .u16 ci, .int .i64 st, .string cause, .bool false, .int .u16 comp, .int .i64 info]] w
      fun e w' => e = .returned (.agg #[.string mcc, .string mnc, .int .u16 lac, .int .u16 ci, .int .i64 st, .string cause, .pointer none]) ∧ Below w.heap.size w w' := by
  go_enter Try.func16, Try.ntmps16
  go_wp2
  go_region_held3 (fun w' => w'.cell? ⟨w.heap.size, 0, none⟩ = some (.string mcc) ∧ w'.cell? ⟨w.heap.size, 1, none⟩ = some (.string mnc) ∧ w'.cell? ⟨w.heap.size, 2, none⟩ = some (.int .u16 lac) ∧ w'.cell? ⟨w.heap.size, 3, none⟩ = some (.int .u16 ci)) (go_keep) ((go_at_call 17; refine (plmn_any _ _ _).mono ?_; rintro e w' ⟨rfl, cs, rfl⟩))
  rename_i hh
  clear hh
  go_wp2
  exact bodyPost_ret (v := .agg #[.string mcc, .string mnc, .int .u16 lac, .int .u16 ci, .int .i64 st, .string cause, .pointer none]) (by simp [results, Try.results16, go_sem]) rfl ⟨rfl, ((((Below.refl _ _).alloc (Nat.le_refl _) _).alloc (by simp) _).alloc (by simp; omega) _).alloc (by simp; omega) _ |>.drew⟩

theorem heap5 (w : World) (a b c d x : Obj) : (((((w.alloc a).alloc b).alloc c).alloc d).alloc x).drew.heap[w.heap.size + 1 + 1 + 1 + 1]? = some x := by
  have h := heap_alloc_new ((((w.alloc a).alloc b).alloc c).alloc d) x
  have e : ((((w.alloc a).alloc b).alloc c).alloc d).heap.size = w.heap.size + 1 + 1 + 1 + 1 := by simp
  rw [e] at h
  exact h

set_option maxHeartbeats 2000000 in
theorem build_some (mcc mnc : ByteArray) (lac ci st : Int) (cause : ByteArray) (comp info : Int) (w : World) :
    Calls Try.prog 16 #[.agg #[.string mcc, .string mnc, .int .u16 lac, .int .u16 ci, .int .i64 st, .string cause, .bool true, .int .u16 comp, .int .i64 info]] w
      fun e w' => ∃ k, e = .returned (.agg #[.string mcc, .string mnc, .int .u16 lac, .int .u16 ci, .int .i64 st, .string cause, .pointer (some ⟨k, 0, none⟩)]) ∧ w'.heap[k]? = some (.cells #[.int .u16 comp, .int .i64 info] 112 (0, 0)) ∧ Below w.heap.size w w' := by
  go_enter Try.func16, Try.ntmps16
  go_wp2
  go_region_held3 (fun w' => w'.cell? ⟨w.heap.size, 0, none⟩ = some (.string mcc) ∧ w'.cell? ⟨w.heap.size, 1, none⟩ = some (.string mnc) ∧ w'.cell? ⟨w.heap.size, 2, none⟩ = some (.int .u16 lac) ∧ w'.cell? ⟨w.heap.size, 3, none⟩ = some (.int .u16 ci)) (go_keep) ((go_at_call 17; refine (plmn_any _ _ _).mono ?_; rintro e w' ⟨rfl, cs, rfl⟩))
  rename_i hh
  clear hh
  go_wp2
  refine bodyPost_ret (v := .agg #[.string mcc, .string mnc, .int .u16 lac, .int .u16 ci, .int .i64 st, .string cause, .pointer (some ⟨w.heap.size + 1 + 1 + 1 + 1, 0, none⟩)]) (by simp [results, Try.results16, go_sem]) rfl ⟨_, rfl, ?_, ((((((Below.refl _ _).alloc (Nat.le_refl _) _).alloc (by simp) _).alloc (by simp; omega) _).alloc (by simp; omega) _).alloc (by simp; omega) _).drew⟩
  exact heap5 _ _ _ _ _ _

theorem buildCell_any (c : ZC) (w : World) : Calls Try.prog 16 #[.agg c.row.toArray] w fun e w' => ∃ cs : List Value, e = .returned (.agg cs.toArray) ∧ cs.length = 7 ∧ CellOK w' cs c ∧ Below w.heap.size w w' := by
  obtain ⟨mcc, mnc, lac, ci, st, cause, hc, comp, info⟩ := c
  cases hc
  · refine (build_none mcc mnc lac ci st cause comp info w).mono ?_
    rintro e w' ⟨rfl, hb⟩
    exact ⟨_, rfl, rfl, .inl ⟨rfl, rfl⟩, hb⟩
  · refine (build_some mcc mnc lac ci st cause comp info w).mono ?_
    rintro e w' ⟨k, rfl, hk, hb⟩
    exact ⟨_, rfl, rfl, .inr ⟨rfl, k, rfl, hk⟩, hb⟩

theorem CellOK.one {w : World} {cs : List Value} {c : ZC} (h : CellOK w cs c) : cs.length = 7 ∧ ∀ v ∈ cs, v.oneCell' = true := by
  rcases h with ⟨_, rfl⟩ | ⟨_, k, rfl, _⟩
  · exact ⟨rfl, by simp [Value.oneCell']⟩
  · exact ⟨rfl, by simp [Value.oneCell']⟩
end Go.Proofs.Qxb6616460a

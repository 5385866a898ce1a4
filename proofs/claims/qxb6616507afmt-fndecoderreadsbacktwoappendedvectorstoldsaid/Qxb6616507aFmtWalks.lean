import Derived.Test.Qxb6616507aFmtRows
import Derived.WalkKit
import Derived.ProofKit
import Derived.Below
import Derived.Deep.WholeRow
import Derived.Deep.QuietTactic
import Derived.BigQuiet
import Derived.WalkSpells
namespace Go.Proofs.Qxb6616507aFmt
open Go.RowKit
set_option linter.unusedVariables false

theorem info5 : (Tryf.prog.info? 5).map (fun i => (i.zero, i.size, i.bytes)) = some (some (.int .u8 0), 1, 1) := by kernel_rfl
theorem size5 : (Tryf.prog.info? 5).map (·.size) = some 1 := by kernel_rfl

set_option maxHeartbeats 1000000 in
theorem bytes5_any (ao bo : Option Addr) (la ca lb cb : Nat) (w : World) (ha : la ≤ maxLen) (hb : lb ≤ maxLen) : Calls Tryf.prog 5 #[.slice ao la ca, .slice bo lb cb] w fun e w' => (∃ r, e = .returned (.bool r)) ∧ w' = w := by
  unfold maxLen at *
  go_enter Tryf.func5, Tryf.ntmps5
  go_wp2
  all_goals
    go_ret
    exact ⟨⟨_, rfl⟩, rfl⟩

set_option maxHeartbeats 1000000 in
theorem bytes13_any (ao bo : Option Addr) (la ca lb cb : Nat) (w : World) (ha : la ≤ maxLen) (hb : lb ≤ maxLen) : Calls Tryf.prog 13 #[.slice ao la ca, .slice bo lb cb] w fun e w' => (∃ r, e = .returned (.bool r)) ∧ w' = w := by
  unfold maxLen at *
  go_enter Tryf.func13, Tryf.ntmps13
  go_wp2
  all_goals
    go_ret
    exact ⟨⟨_, rfl⟩, rfl⟩

/-- 'make([]byte, n)' as the walk meets it. -/
theorem run_make5 (n : Nat) (w : World) (hn : n ≤ 281474976710656) :
    (Instr.makeSlice 22 (.int .i64 (n : Int)) (.int .i64 (n : Int))).run Tryf.prog w = .ok (.slice (some ⟨w.heap.size, 0, none⟩) n n) (w.alloc (.cells (madeCells #[.int .u8 0] n) 5)) := by
  obtain ⟨i, hi, hz0, hz1, hz2⟩ := info_parts info5
  have h := run_make (P := Tryf.prog) w 22 5 i (.int .u8 0) Tryf.underlying22 hi hz0 .i64 .i64 n n (by omega) (Int.le_refl _) (by rw [hz2]; omega) (by omega)
  simp only [Int.toNat_natCast, hz1, Nat.mul_one] at h
  exact h

/-- 'copy(zzc, s)' into the row that was made last. -/
theorem run_copy5 (a : Addr) (c n : Nat) (zs : List Int) (hz : zs.length = n) (w : World) (hc : ∀ i, i < n → w.cell? (a.add i) = some (.int .u8 (zs.getD i 0))) (hb : n ≠ 0 → a.block < w.heap.size) (ty : TypeId) :
    (Builtin.copy_ #[22, 22] ty #[.slice (some ⟨w.heap.size, 0, none⟩) n n, .slice (some a) n c]).run Tryf.prog (w.alloc (.cells (madeCells #[.int .u8 0] n) 5)) =
      .ok (goInt n) (w.alloc (.cells (zs.map (Value.int .u8)).toArray 5)) := by
  have h := run_copy_row (P := Tryf.prog) (w.alloc (.cells (madeCells #[.int .u8 0] n) 5)) 22 22 ty 5 w.heap.size 0 n n a n c (madeCells #[.int .u8 0] n) 5 (zs.map (Value.int .u8)) Tryf.underlying22 size5
    (heap_alloc_last w _) (by simp [hz]) (fun j v hj => by
      have hj' : j < n := by have := (List.getElem?_eq_some_iff.1 hj).1; simpa [hz] using this
      have e : (zs.map (Value.int .u8))[j]? = some (.int .u8 (zs.getD j 0)) := by simp [List.getD, show j < zs.length by omega]
      rw [e] at hj
      have hbl : (a.add j).block < w.heap.size := by
        have := hb (by omega)
        have e2 : (a.add j).block = a.block := by unfold Addr.add; split <;> rfl
        rw [e2]; exact this
      rw [((Below.refl w.heap.size w).alloc (Nat.le_refl _) _).cell (p := a.add j) hbl, hc j hj', ← hj])
    (by simp [hz, size_madeCells]) (fun v hv => ints_oneCell _ _ v hv)
  rw [h, World.setRow_alloc_new]
  have e : (madeCells #[.int .u8 0] n).toList.drop (0 + (zs.map (Value.int .u8)).length) = [] := by
    apply List.drop_eq_nil_of_le; simp [hz, size_madeCells]
  rw [e]
  simp [hz]

theorem neq22 (W : World) (a : Option Addr) (n c : Nat) : (binOp .neq 22 (.slice a n c) (.slice none 0 0)).run Tryf.prog W = .ok (.bool (!a.isNone)) W := run_neq_slice_nil_any W 22 5 a n c 0 0 Tryf.underlying22
theorem eql22 (W : World) (a : Option Addr) (n c : Nat) : (binOp .eql 22 (.slice a n c) (.slice none 0 0)).run Tryf.prog W = .ok (.bool a.isNone) W := by
  have h : ∀ d, (Op.equalIn (d + 1) 22 (.slice a n c) (.slice none 0 0)).run Tryf.prog W = .ok a.isNone W := by
    intro d
    cases a <;> simp [Op.equalIn, run_underlying Tryf.underlying22]
  simp only [binOp]
  simp [Op.equal, Op.maxDepth, h 9999]
end Go.Proofs.Qxb6616507aFmt

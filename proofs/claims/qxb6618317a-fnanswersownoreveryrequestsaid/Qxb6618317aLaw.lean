import Derived.Test.Qxb6618317aWalks
namespace Go.Proofs.Qxb6618317a
open Go.RowKit
set_option linter.unusedVariables false

set_option maxHeartbeats 2000000 in
theorem law_any (a0 : ByteArray) (a1 : ByteArray) (a2 : Int) (a3 : Int) (a4 : Option Addr) (len4 cap4 : Nat) (a5 : ByteArray) (a6 : Option Addr) (len6 cap6 : Nat) (a7 : Bool) (a8 : Int) (a9 : Int) (a10 : Int) (w : World) (w0 : a0.size ≤ maxLen) (w1 : a1.size ≤ maxLen) (w4 : len4 ≤ maxLen) (w5 : a5.size ≤ maxLen) (w6 : len6 ≤ maxLen) :
    Calls Try.prog 3 #[.string a0, .string a1, .int .i64 a2, .int .i64 a3, .slice a4 len4 cap4, .string a5, .slice a6 len6 cap6, .bool a7, .int .u64 a8, .int .u64 a9, .int .u64 a10] w fun e w' => e = .returned (.bool true) ∧ Below w.heap.size w w' := by
  have H : Hid (∀ w : World, Calls Try.prog 4 #[.string a0, .string a1, .int .i64 a2, .int .i64 a3, .slice a4 len4 cap4, .string a5, .slice a6 len6 cap6, .bool a7, .int .u64 a8, .int .u64 a9, .int .u64 a10] w fun e w' => (∃ b, e = .returned (.bool b)) ∧ w' = w) := fun w => bytes_any a0 a1 a2 a3 a4 len4 cap4 a5 a6 len6 cap6 a7 a8 a9 a10 w w0 w1 w4 w5 w6
  unfold maxLen at *
  have HI : Hid ((Try.prog.info? 34).map (·.size) = some (answ a0 a1 a2 a3 a4 len4 cap4 a5 a6 len6 cap6 a7 a8).size) := by unfold Hid; kernel_rfl
  have H1 : Hid ((answ a0 a1 a2 a3 a4 len4 cap4 a5 a6 len6 cap6 a7 a8).all (·.oneCell') = true) := by unfold Hid; simp [answ, Value.oneCell']
  have H2 : Hid ((answ a0 a1 a2 a3 a4 len4 cap4 a5 a6 len6 cap6 a7 a8)[20]? = some (.int .u64 a8)) := by unfold Hid; rfl
  generalize hA : answ a0 a1 a2 a3 a4 len4 cap4 a5 a6 len6 cap6 a7 a8 = A at HI H1 H2
  have HA : Hid (answ a0 a1 a2 a3 a4 len4 cap4 a5 a6 len6 cap6 a7 a8 = A) := hA
  have HZ : Hid (24 = A.size) := by unfold Hid; rw [← hA]; rfl
  clear hA
  go_enter Try.func3, Try.ntmps3
  go_wp2_with fail
  refine (H.out _).mono ?_
  rintro e w1 ⟨⟨b, rfl⟩, rfl⟩
  cases b
  · go_wp2
    go_ret
    exact ⟨rfl, Below.refl _ _⟩
  clear H
  go_wp2_with (first
    | (refine wpList_store_new (op := ⟨_, .store 34 (.tmp 23) (.tmp 63), _, _, _, _⟩) rfl 34 (.tmp 23) (.tmp 63) rfl _ A rfl (congrArg Value.agg HA.out) HI.out HZ.out H1.out ?_)
    | (refine wpList_load_row (o := ⟨_, .load 34 (.tmp 23), _, _, _, _⟩) rfl 34 (.tmp 23) rfl w1.heap.size rfl 34 A (0,0) _ (heap_alloc_new w1 _) Try.underlying34 rfl HI.out ?_))
  all_goals try (go_ret; exact ⟨rfl, Below.refl _ _⟩)
  refine (zz_is A a8 a8 true (by simp [ansB]) HZ.out.symm H2.out _).mono ?_
  rintro e w2 ⟨rfl, hb⟩
  have hz : w1.heap.size < w2.heap.size := by have := hb.size; simp at this; omega
  have HB : Hid (Below (w1.heap.size + 1) (w1.alloc (.cells A 34)) w2) := by have := hb; simp at this; exact this
  clear hb
  have HG : Hid (w2.heap[w1.heap.size]? = some (.cells A 34 (0, 0))) := by
    unfold Hid; rw [HB.out.block _ (by omega)]; exact heap_alloc_new w1 _
  have HE : Hid (Below w1.heap.size w1 w2) := ((Below.refl _ _).alloc (Nat.le_refl _) _).trans (HB.out.mono (by omega))
  by_cases hst : a9 = a10
  · subst hst
    go_wp2
    go_ret
    exact ⟨rfl, HE.out⟩
  have hst' : (a9 == a10) = false := by simp [hst]
  clear hst
  go_wp2_with (refine wpList_load_row (o := ⟨_, .load 34 (.tmp 23), _, _, _, _⟩) rfl 34 (.tmp 23) rfl w1.heap.size rfl 34 A (0,0) _ HG.out Try.underlying34 rfl HI.out ?_)
  by_cases h0 : a8 = 0
  · subst h0
    refine (zz_is A 0 a9 true (by simp [ansB]) HZ.out.symm H2.out _).mono ?_
    rintro e w3 ⟨rfl, hb3⟩
    have HB3 : Hid (Below w2.heap.size w2 w3) := hb3
    clear hb3
    have HG3 : Hid (w3.heap[w1.heap.size]? = some (.cells A 34 (0, 0))) := by
      unfold Hid; rw [HB3.out.block _ hz]; exact HG.out
    go_wp2_with (refine wpList_load_row_g (o := ⟨_, .load 34 (.tmp 23), _, _, _, _⟩) rfl 34 (.tmp 23) rfl w1.heap.size rfl 34 A (0,0) _ HG3.out Try.underlying34 rfl HI.out ?_)
    refine (zz_is A 0 a10 true (by simp [ansB]) HZ.out.symm H2.out _).mono ?_
    rintro e w4 ⟨rfl, hb4⟩
    have HB4 : Hid (Below w3.heap.size w3 w4) := hb4
    clear hb4
    go_wp2
    go_ret
    exact ⟨rfl, HE.out.trans ((HB3.out.mono (by omega)).trans (HB4.out.mono (by have := HB3.out.size; omega)))⟩
  have h0' : (a8 == 0) = false := by simp [h0]
  by_cases h9 : a8 = a9
  · have hne : a8 ≠ a10 := by rw [h9]; intro e; simp [e] at hst'
    refine (zz_is A a8 a9 true (by simp [ansB, h9]) HZ.out.symm H2.out _).mono ?_
    have HF : Hid (ansB a8 a10 = false) := by unfold Hid; simp [ansB, h0, hne]
    clear h9 hne h0
    rintro e w3 ⟨rfl, hb3⟩
    have HB3 : Hid (Below w2.heap.size w2 w3) := hb3
    clear hb3
    have HG3 : Hid (w3.heap[w1.heap.size]? = some (.cells A 34 (0, 0))) := by
      unfold Hid; rw [HB3.out.block _ hz]; exact HG.out
    go_wp2_with (refine wpList_load_row_g (o := ⟨_, .load 34 (.tmp 23), _, _, _, _⟩) rfl 34 (.tmp 23) rfl w1.heap.size rfl 34 A (0,0) _ HG3.out Try.underlying34 rfl HI.out ?_)
    refine (zz_is A a8 a10 false HF.out HZ.out.symm H2.out _).mono ?_
    rintro e w4 ⟨rfl, hb4⟩
    have HB4 : Hid (Below w3.heap.size w3 w4) := hb4
    clear hb4
    go_wp2
    go_ret
    exact ⟨rfl, HE.out.trans ((HB3.out.mono (by omega)).trans (HB4.out.mono (by have := HB3.out.size; omega)))⟩
  · refine (zz_is A a8 a9 false (by simp [ansB, h0, h9]) HZ.out.symm H2.out _).mono ?_
    clear h9 h0
    rintro e w3 ⟨rfl, hb3⟩
    have HB3 : Hid (Below w2.heap.size w2 w3) := hb3
    clear hb3
    go_wp2
    go_ret
    exact ⟨rfl, HE.out.trans (HB3.out.mono (by omega))⟩
end Go.Proofs.Qxb6618317a

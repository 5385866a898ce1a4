import Derived.Test.Qxb6618317aRows
import Derived.WalkKit
import Derived.ProofKit
import Derived.Below
import Derived.Laws.Rows
import Derived.Deep.WholeRow
namespace Go.Proofs.Qxb6618317a
open Go.RowKit
set_option linter.unusedVariables false

def ansB (q s : Int) : Bool := q == 0 || q == s

theorem bcell {W w1 : World} (hb : Below W.heap.size W w1) : (∀ b o, b < W.heap.size → w1.cell? ⟨b, o, none⟩ = W.cell? ⟨b, o, none⟩) ∧ (∀ b o, b < W.heap.size → w1.frozen? ⟨b, o, none⟩ = W.frozen? ⟨b, o, none⟩) :=
  ⟨fun b o h => hb.cell (p := ⟨b, o, none⟩) h, fun b o h => hb.frozen (p := ⟨b, o, none⟩) h⟩

set_option maxHeartbeats 400000 in
theorem answers_any (cs : Array Value) (q s : Int) (hc : cs[20]? = some (.int .u64 q)) (w : World) :
    Calls Try.prog 6 #[.agg cs, .int .u64 s] w fun x w' => x = .returned (.bool (ansB q s)) ∧ Below w.heap.size w w' := by
  by_cases h0 : q = 0
  · subst h0
    go_enter Try.func6, Try.ntmps6
    go_wp2
    go_ret
    exact ⟨by simp [ansB], (Below.refl _ _).alloc (Nat.le_refl _) _⟩
  · have hq : (q == 0) = false := by simp [h0]
    go_enter Try.func6, Try.ntmps6
    go_wp2
    go_ret
    exact ⟨by simp [ansB, hq], (Below.refl _ _).alloc (Nat.le_refl _) _⟩

set_option maxHeartbeats 400000 in
theorem zz_any (cs : Array Value) (q s : Int) (hn : cs.size = 24) (hc : cs[20]? = some (.int .u64 q)) (w : World) :
    Calls Try.prog 5 #[.agg cs, .int .u64 s] w fun x w' => x = .returned (.bool (ansB q s)) ∧ Below w.heap.size w w' := by
  go_enter Try.func5, Try.ntmps5
  have hi : (Try.prog.info? 34).map (·.size) = some cs.size := by rw [hn]; kernel_rfl
  have H : Hid ((Try.prog.info? 34).map (·.size) = some cs.size) := hi
  clear hi hn
  go_wp2_with (refine wpList_load_row rfl 34 (.tmp 2) rfl w.heap.size rfl 34 cs (0,0) _ (heap_alloc_new w _) Try.underlying34 rfl H.out ?_)
  refine (answers_any cs q s hc _).mono ?_
  rintro x w1 ⟨rfl, hb⟩
  go_wp2
  go_ret
  exact ⟨rfl, ((Below.refl _ _).alloc (Nat.le_refl _) _).trans (hb.mono (by simp))⟩

theorem zz_is (cs : Array Value) (q s : Int) (b : Bool) (hB : ansB q s = b) (hn : cs.size = 24) (hc : cs[20]? = some (.int .u64 q)) (w : World) :
    Calls Try.prog 5 #[.agg cs, .int .u64 s] w fun x w' => x = .returned (.bool b) ∧ Below w.heap.size w w' := by
  subst hB
  exact zz_any cs q s hn hc w

/-- 'wpList_load_row' at a guarded operation whose guard says yes. -/
theorem wpList_load_row_g {P : Program} {ops : Array Oper} {rest : List Oper} {o : Oper} {a : Act} {w : World} {Q : Exit → Act → World → Prop} (hw : Region.wanted o (yielded ops a.tmps) = true) (ty : TypeId) (x : Operand) (ho : o.op = .load ty x)
    (g : Nat) (hx : a.eval x = .pointer (some ⟨g, 0, none⟩)) (t : TypeId) (cs : Array Value) (fr : Nat × Nat) (d : TypeDesc) (hg : w.heap[g]? = some (.cells cs t fr))
    (hu : P.underlying ty = some d) (hd : (match d with | .struct _ | .array _ _ => true | _ => false) = true) (hi : (P.info? ty).map (·.size) = some cs.size)
    (h : wpList P ops Q rest (a.put o.dst (.agg cs)) w) : wpList P ops Q (o :: rest) a w :=
  wpList_step fun _ hK => by
    rw [if_pos hw]
    exact wp_load_row ty x ho g hx t cs fr d hg hu hd hi (hK _ _ h)

/-- The answer that the law builds: a plain name for its 24 cells. -/
def answ (e f : ByteArray) (o z : Int) (s1 : Option Addr) (l1 c1 : Nat) (sv : ByteArray) (s2 : Option Addr) (l2 c2 : Nat) (en : Bool) (q : Int) : Array Value :=
  #[.string e, .string f, .int .i64 o, .int .i64 z, .slice s1 l1 c1, .slice none 0 0, .bool false, .string sv, .slice s2 l2 c2, .bool false, .int .u64 0, .string ByteArray.empty, .slice none 0 0, .slice none 0 0, .pointer none, .slice none 0 0, .slice none 0 0, .slice none 0 0, .int .i64 0, .bool en, .int .u64 q, .slice none 0 0, .int .i64 0, .slice none 0 0]

/-- A store of a whole struct into the block that was made last, at a region's list. -/
theorem wpList_store_new {P : Program} {ops : Array Oper} {rest : List Oper} {op : Oper} {a : Act} {w : World} {Q : Exit → Act → World → Prop} (hgd : op.guard = none) (ty : TypeId) (x y : Operand) (ho : op.op = .store ty x y)
    (c c' : Array Value) (hx : a.eval x = .pointer (some ⟨w.heap.size, 0, none⟩)) (hy : a.eval y = .agg c') (hi : (P.info? ty).map (·.size) = some c'.size) (hs : c.size = c'.size) (h1 : c'.all (·.oneCell') = true)
    (h : wpList P ops Q rest (a.put op.dst undef) (w.alloc (.cells c' ty))) : wpList P ops Q (op :: rest) a (w.alloc (.cells c ty)) :=
  wpList_plain hgd fun K hK => by
    unfold Oper.wp execOp
    simp only [ho, hx, hy, Instr.storeAt, Instr.sureAddr, Sem.run_bind, Sem.run_pure, Result.andThen_ok, run_storeVar_new w ty c c' hi hs h1]
    exact hK _ _ h

set_option maxHeartbeats 1000000 in
theorem bytes_any (a0 : ByteArray) (a1 : ByteArray) (a2 : Int) (a3 : Int) (a4 : Option Addr) (len4 cap4 : Nat) (a5 : ByteArray) (a6 : Option Addr) (len6 cap6 : Nat) (a7 : Bool) (a8 : Int) (a9 : Int) (a10 : Int) (w : World) (w0 : a0.size ≤ maxLen) (w1 : a1.size ≤ maxLen) (w4 : len4 ≤ maxLen) (w5 : a5.size ≤ maxLen) (w6 : len6 ≤ maxLen) :
    Calls Try.prog 4 #[.string a0, .string a1, .int .i64 a2, .int .i64 a3, .slice a4 len4 cap4, .string a5, .slice a6 len6 cap6, .bool a7, .int .u64 a8, .int .u64 a9, .int .u64 a10] w fun e w' => (∃ b, e = .returned (.bool b)) ∧ w' = w := by
  unfold maxLen at *
  go_enter Try.func4, Try.ntmps4
  go_wp2
  all_goals
    go_ret
    exact ⟨⟨_, rfl⟩, rfl⟩
end Go.Proofs.Qxb6618317a

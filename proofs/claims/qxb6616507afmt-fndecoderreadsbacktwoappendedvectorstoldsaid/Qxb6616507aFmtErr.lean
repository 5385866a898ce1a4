import Derived.Test.Qxb6616507aFmtDec
import Derived.Stop.CallBack
import Derived.Stop.IfaceNil
import GoSem.ClaimData
namespace Go.Proofs.Qxb6616507aFmt
open Go.RowKit Go.Extern.Stop Go.Stop Go.Extern
set_option linter.unusedVariables false

theorem call22 (args : Array Value) (w : World) : (callFunc 22 args).run Tryf.prog w = (FmtCalls.errorf #[9, 45] #[32] args).run Tryf.prog w :=
  run_callFunc_next Tryf.func22 (by kernel_rfl) (by kernel_rfl) (by kernel_rfl) args w
theorem fguard (name : String) (w : World) : (FmtStop.guard name).run Tryf.prog w = .ok () w := by kernel_rfl
theorem nextTurns : Extern.next FmtCalls.turnsRow = some (FmtCalls.begun #[] #[]) := by kernel_rfl
theorem fmt0r (w : World) : (FmtDoors.printed ⟨#[101, 110, 100, 115, 32, 101, 97, 114, 108, 121, 44, 32, 105, 110, 32, 97, 32, 102, 105, 101, 108, 100, 32, 111, 102, 32, 37, 100, 32, 98, 121, 116, 101, 115]⟩ 1).run Tryf.prog w = .ok [(0, 100, false)] w := by kernel_rfl
theorem fmt1r (w : World) : (FmtDoors.printed ⟨#[98, 121, 116, 101, 32, 37, 100, 58, 32, 37, 119]⟩ 2).run Tryf.prog w = .ok [(0, 100, false), (1, 119, false)] w := by kernel_rfl
def shape3 : List UInt8 := [5, 3, 0, 0, 0, 0, 0, 0, 0, 105, 110, 116]
theorem act3 (name : String) (x : Value) (w : World) : (FmtCalls.act name true 100 false (.iface 3 x)).run Tryf.prog w = .ok (.closed true) w := by kernel_rfl
theorem op3 (name : String) (x : Int) (w : World) : (FmtStop.operand name true 100 false (.iface 3 (.int .i64 x))).run Tryf.prog w = .ok (shape3, Go.Extern.Stop.digits 8 (x % 2 ^ 64).toNat) w := by kernel_rfl
theorem act49 (name : String) (x : Value) (w : World) : (FmtCalls.act name true 119 false (.iface 49 x)).run Tryf.prog w = .ok (.closed true) w := by kernel_rfl
theorem op49 (name : String) (a : Addr) (s : ByteArray) (w : World) (hc : w.cell? a = some (.string s)) :
    (FmtStop.operand name true 119 false (.iface 49 (.pointer (some a)))).run Tryf.prog w = .ok (14 :: FmtStop.pack Tryf.t49.str.toUTF8.data.toList, s.data.toList) w := by
  have h1 : (typeStr 49).run Tryf.prog w = .ok Tryf.t49.str w := by kernel_rfl
  have d2 : Tryf.t49.desc = .pointer 51 := rfl
  have d3 : Tryf.t51.desc = .named "errors.errorString" 50 := rfl
  simp [FmtStop.operand, h1, d2, d3, run_load, hc]
theorem ptr49 (w : World) : (FmtStop.ptrTo "errors.errorString").run Tryf.prog w = .ok 49 w := by kernel_rfl
theorem elem49 (w : World) : (elemOf 49).run Tryf.prog w = .ok 51 w := by kernel_rfl
theorem isError49 (w : World) : (FmtDoors.textMethod 49 "Error").run Tryf.prog w = .ok true w := by kernel_rfl
theorem ptr48 (w : World) : (FmtStop.ptrTo "fmt.wrapError").run Tryf.prog w = .ok 48 w := by kernel_rfl
theorem elem48 (w : World) : (elemOf 48).run Tryf.prog w = .ok 70 w := by kernel_rfl

attribute [local go_sem] call22 fguard fmt0r fmt1r act3 op3 act49 ptr49 elem49 isError49 ptr48 elem48

set_option maxHeartbeats 1600000 in
theorem errorf_in (F : Interp) (n : Int) (blk : Nat) (w : World) (hF : F.answers w.tape) (hc : w.cell? ⟨blk, 0, none⟩ = some (.iface 3 (.int .i64 n))) :
    Calls Tryf.prog 21 #[.string ⟨#[101, 110, 100, 115, 32, 101, 97, 114, 108, 121, 44, 32, 105, 110, 32, 97, 32, 102, 105, 101, 108, 100, 32, 111, 102, 32, 37, 100, 32, 98, 121, 116, 101, 115]⟩, .slice (some ⟨blk, 0, none⟩) 1 1] w fun e w' =>
      e = .returned (.iface 49 (.pointer (some ⟨w.heap.size, 0, none⟩))) ∧ ∃ s, w' = (w.alloc (.cells #[.string s] 51)).drew := by
  have hF' := answers_open hF
  go_enter Tryf.func21, Tryf.ntmps21
  go_wp2
  apply rows_value nextTurns
  case hr =>
    go_simp
    exact ⟨rfl, rfl⟩
  case h =>
    go_wp2
    go_ret
    exact ⟨rfl, _, rfl⟩

set_option maxHeartbeats 1600000 in
theorem errorf_out (F : Interp) (n : Int) (a : Addr) (s : ByteArray) (blk : Nat) (w : World) (hF : F.answers w.tape) (hc : w.cell? ⟨blk, 0, none⟩ = some (.iface 3 (.int .i64 n))) (hc1 : w.cell? ⟨blk, 1, none⟩ = some (.iface 49 (.pointer (some a)))) (hs : w.cell? a = some (.string s)) :
    Calls Tryf.prog 21 #[.string ⟨#[98, 121, 116, 101, 32, 37, 100, 58, 32, 37, 119]⟩, .slice (some ⟨blk, 0, none⟩) 2 2] w fun e w' =>
      e = .returned (.iface 48 (.pointer (some ⟨w.heap.size, 0, none⟩))) ∧ ∃ s, w' = (w.alloc (.cells #[.string s, .iface 49 (.pointer (some a))] 70)).drew := by
  have hF' := answers_open hF
  have hop := fun name => op49 name a s w hs
  go_enter Tryf.func21, Tryf.ntmps21
  go_wp2
  apply rows_value nextTurns
  case hr =>
    go_simp
    exact ⟨rfl, rfl⟩
  case h =>
    go_wp2
    go_ret
    exact ⟨rfl, _, rfl⟩

theorem Dec.failed {w : World} {D g N cap off : Nat} {err : Value} (h : Dec w D g N cap off err) (v : Value) : Dec (w.setCell ⟨D, 2, none⟩ v) D g N cap off v := by
  obtain ⟨c0, c1, c2, f1, f2, lt⟩ := h
  refine ⟨?_, ?_, ?_, ?_, ?_, ?_⟩
  all_goals simp [go_sem, c0, c1, c2, f1, f2, lt]

set_option maxHeartbeats 1600000 in
/-- 'failf' at a decoder without an error: an error lies there now; nothing else of what was there has turned. -/
theorem failf_any (F : Interp) (D g N cap off at_ : Nat) (n : Int) (blk : Nat) (w : World) (hF : F.answers w.tape) (h : Dec w D g N cap off .nilIface) (hD : D < blk) (hb : blk < w.heap.size) (hc : w.cell? ⟨blk, 0, none⟩ = some (.iface 3 (.int .i64 n))) :
    Calls Tryf.prog 20 #[.pointer (some ⟨D, 0, none⟩), .int .i64 at_, .string ⟨#[101, 110, 100, 115, 32, 101, 97, 114, 108, 121, 44, 32, 105, 110, 32, 97, 32, 102, 105, 101, 108, 100, 32, 111, 102, 32, 37, 100, 32, 98, 121, 116, 101, 115]⟩, .slice (some ⟨blk, 0, none⟩) 1 1] w fun e w' =>
      e = .returned (.tuple #[]) ∧ (∃ a, Dec w' D g N cap off (.iface 48 (.pointer (some a)))) ∧ Below D w w' := by
  obtain ⟨c0, c1, c2, f1, f2, lt⟩ := h
  go_enter Tryf.func20, Tryf.ntmps20
  go_wp2_with fail
  refine (errorf_in F n blk w hF hc).mono ?_
  rintro e w1 ⟨rfl, s, rfl⟩
  go_wp2_with fail
  refine (errorf_out F at_ ⟨w.heap.size, 0, none⟩ s (w.heap.size + 1) _ (by exact hF) (by simp [go_sem]) (by simp [go_sem]) (by simp [go_sem])).mono ?_
  rintro e w2 ⟨rfl, s2, hw2⟩
  have hb2 : Below w.heap.size w w2 := by
    subst hw2
    exact ((((Below.refl _ w).alloc (Nat.le_refl _) _).alloc (by simp) _).alloc (by simp; omega) _).trans ⟨rfl, rfl, rfl, Nat.le_refl _, fun _ _ => rfl⟩
  clear hw2
  have hd := (Dec.mk c0 c1 c2 f1 f2 lt).below hb2 lt
  have HD : Hid (Dec w2 D g N cap off .nilIface) := hd
  have HB : Hid (Below w.heap.size w w2) := hb2
  obtain ⟨k0, k1, k2, l1, l2, lk⟩ := hd
  clear hb2 c0 c1 c2 f1 f2 hc
  go_wp2
  go_end0
  exact ⟨rfl, ⟨_, HD.out.failed _⟩, (HB.out.mono (Nat.le_of_lt lt)).setCell (p := ⟨D, 2, none⟩) (Nat.le_refl _) _⟩

set_option maxHeartbeats 1600000 in
/-- 'take(n)' where fewer than n bytes are left. -/
theorem take_no (F : Interp) (D g N cap off n : Nat) (w : World) (hF : F.answers w.tape) (h : Dec w D g N cap off .nilIface) (hn : N < off + n) (ho : off ≤ N) (hN : N ≤ cap) (hm : cap ≤ maxLen) (hn2 : n ≤ 1000000) :
    Calls Tryf.prog 17 #[.pointer (some ⟨D, 0, none⟩), .int .i64 n] w fun e w' => e = .returned (.slice none 0 0) ∧ (∃ a, Dec w' D g N cap off (.iface 48 (.pointer (some a)))) ∧ Below D w w' := by
  have HD : Hid (Dec w D g N cap off .nilIface) := h
  obtain ⟨c0, c1, c2, f1, f2, lt⟩ := h
  unfold maxLen at hm
  have hgt : decide ((N : Int) - off < n) = true := by simp; omega
  go_enter Tryf.func17, Tryf.ntmps17
  go_wp2
  go_quiet (fail)
  go_wp2_with fail
  have hd := (HD.out.below (below_drewN w nq) lt).below ((Below.refl _ (w.drewN nq)).alloc (Nat.le_refl _) (.cells #[.iface 3 (.int .i64 (n : Int))] 20)) lt
  refine (failf_any F D g N cap off off n w.heap.size ((w.drewN nq).alloc (.cells #[.iface 3 (.int .i64 (n : Int))] 20)) (by exact hF) hd lt (by show w.heap.size < (w.heap.push _).size; simp) (cell_of_row _ (w.drewN nq).heap.size 0 _ _ _ (heap_alloc_last (w.drewN nq) _))).mono ?_
  rintro e w2 ⟨rfl, hd2, hb2⟩
  have H2 : Hid ((∃ a, Dec w2 D g N cap off (.iface 48 (.pointer (some a)))) ∧ Below D w w2) :=
    ⟨hd2, (((below_drewN w nq).alloc (Nat.le_refl _) _).mono (Nat.le_of_lt lt)).trans hb2⟩
  clear hd hd2 hb2 c0 c1 c2 f1 f2 HD
  go_wp2
  go_ret
  exact ⟨rfl, H2.out⟩

theorem u64_no (F : Interp) (D g N cap off : Nat) (w : World) (hF : F.answers w.tape) (h : Dec w D g N cap off .nilIface) (hn : N < off + 8) (ho : off ≤ N) (hN : N ≤ cap) (hm : cap ≤ maxLen) :
    Calls Tryf.prog 16 #[.pointer (some ⟨D, 0, none⟩)] w fun e w' => e = .returned (.int .u64 0) ∧ (∃ a, Dec w' D g N cap off (.iface 48 (.pointer (some a)))) ∧ Below D w w' := by
  have HT : Hid (Calls Tryf.prog 17 #[.pointer (some ⟨D, 0, none⟩), .int .i64 ((8 : Nat) : Int)] w fun e w' => e = .returned (.slice none 0 0) ∧ (∃ a, Dec w' D g N cap off (.iface 48 (.pointer (some a)))) ∧ Below D w w') := take_no F D g N cap off 8 w hF h hn ho hN hm (by omega)
  clear h hF
  have hq := neq22
  go_enter Tryf.func16, Tryf.ntmps16
  go_wp2_with fail
  refine HT.out.mono ?_
  rintro e w2 ⟨rfl, h2⟩
  have H2 : Hid ((∃ a, Dec w2 D g N cap off (.iface 48 (.pointer (some a)))) ∧ Below D w w2) := h2
  clear h2
  go_wp2
  go_ret
  exact ⟨rfl, H2.out⟩

theorem zu64_no (F : Interp) (D g N cap off : Nat) (w : World) (hF : F.answers w.tape) (h : Dec w D g N cap off .nilIface) (hn : N < off + 8) (ho : off ≤ N) (hN : N ≤ cap) (hm : cap ≤ maxLen) :
    Calls Tryf.prog 9 #[.pointer (some ⟨D, 0, none⟩)] w fun e w' => e = .returned (.int .u64 0) ∧ (∃ a, Dec w' D g N cap off (.iface 48 (.pointer (some a)))) ∧ Below D w w' := by
  have HT : Hid (Calls Tryf.prog 16 #[.pointer (some ⟨D, 0, none⟩)] w fun e w' => e = .returned (.int .u64 0) ∧ (∃ a, Dec w' D g N cap off (.iface 48 (.pointer (some a)))) ∧ Below D w w') := u64_no F D g N cap off w hF h hn ho hN hm
  clear h hF
  go_enter Tryf.func9, Tryf.ntmps9
  go_wp2_with fail
  refine HT.out.mono ?_
  rintro e w2 ⟨rfl, h2⟩
  have H2 : Hid ((∃ a, Dec w2 D g N cap off (.iface 48 (.pointer (some a)))) ∧ Below D w w2) := h2
  clear h2
  go_wp2
  go_ret
  exact ⟨rfl, H2.out⟩
end Go.Proofs.Qxb6616507aFmt

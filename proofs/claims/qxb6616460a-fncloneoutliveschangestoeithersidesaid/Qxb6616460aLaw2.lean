import Derived.Test.Qxb6616460aLawB
namespace Go.Proofs.Qxb6616460a
open Go.RowKit
set_option linter.unusedVariables false

set_option maxHeartbeats 2000000 in
set_option maxRecDepth 100000 in
theorem law2_any (HB : BuildsPeer) (PI : PeerIs) (B10 : BytesSay 10) (st : Int) (hw : Bool) (id : ByteArray) (mid : Int) (text : ByteArray) (a : Option Addr) (cap : Nat) (ps : List ZP) (w : World) (hin : PIn w a cap ps) (hlen : ps.length ≤ maxLen) :
    Calls Try.prog 4 #[.int .i64 st, .bool hw, .string id, .int .u16 mid, .string text, .slice a ps.length cap] w fun e w' => e = .returned (.bool true) ∧ Below w.heap.size w w' := by
  go_enter Try.func4, Try.ntmps4
  go_upto_if 23 with (go_at_call 10; refine (B10 _ _ _ _ _ _ _ _ _ hin hlen).mono ?_; rintro e w' ⟨⟨b, rfl⟩, rfl⟩)
  cases b
  · go_wp2
    go_ret
    exact ⟨rfl, Below.refl _ _⟩
  · go_upto_if 28 with (go_at_call 6; refine (size_any _ _ _ _ _ _ hin hlen).mono ?_; rintro e w6 ⟨m, rfl, hb6, hg6⟩)
    by_cases hm : (1048576 : Int) < (m : Int)
    · go_wp2
      go_ret
      exact ⟨rfl, hb6⟩
    · have HG : Hid (ps.length ≤ 1048576 ∧ ∀ p ∈ ps, Good p) := hg6.out (by omega)
      have HB6 : Hid (Below w.heap.size w w6) := hb6
      clear hg6 hb6
      go_upto_region 6 with (go_at_call 7; refine (built HB HB6.out hin HG.out).mono ?_; rintro e w7 ⟨pw, ao, cp, rfl, hL⟩)
      have HL : Hid (Laid w (w7.alloc (.cells #[.pointer pw, .int .i64 st, .int .u64 0, .int .i64 0, .pointer none, .slice ao ps.length cp] 34)) w7.heap.size pw st ao cp w6.heap.size hw id mid text ps) := hL _ rfl
      clear hL
      generalize w7.alloc (.cells #[.pointer pw, .int .i64 st, .int .u64 0, .int .i64 0, .pointer none, .slice ao ps.length cp] 34) = ws at HL ⊢
      go_upto_region 7 with (go_at_call 8; refine (cloned2 HL.out HG.out).mono ?_; rintro e w8 ⟨ao2, cp2, rfl, hC⟩)
      have HC : Hid (Laid w (w8.alloc (.cells #[.pointer pw, .int .i64 st, .int .u64 0, .int .i64 0, .pointer none, .slice ao2 ps.length cp2] 34)) w8.heap.size pw st ao2 cp2 ws.heap.size hw id mid text ps ∧ Below ws.heap.size ws (w8.alloc (.cells #[.pointer pw, .int .i64 st, .int .u64 0, .int .i64 0, .pointer none, .slice ao2 ps.length cp2] 34)) ∧ ws.heap.size ≤ w8.heap.size) := hC _ rfl
      clear hC
      generalize w8.alloc (.cells #[.pointer pw, .int .i64 st, .int .u64 0, .int .i64 0, .pointer none, .slice ao2 ps.length cp2] 34) = wc at HC ⊢
      go_upto_region 8 with (go_at_call 11; refine (scribbled HL.out HC.out.2.1 HG.out).mono ?_; rintro e w9 ⟨v, rfl, hS9⟩)
      have hlt9 : w7.heap.size < ws.heap.size := heap_lt HL.out.blk
      have hge9 : ws.heap.size ≤ w8.heap.size := HC.out.2.2
      have HC9 : Hid (Laid w w9 w8.heap.size pw st ao2 cp2 ws.heap.size hw id mid text ps) := HC.out.1.scr hS9.out hlt9 (by omega) HL.out.low HL.out.new
      have c0 := HC9.out.cell 0 _ rfl
      have c1 := HC9.out.cell 1 _ rfl
      have c2 := HC9.out.cell 2 _ rfl
      have c3 := HC9.out.cell 3 _ rfl
      have c4 := HC9.out.cell 4 _ rfl
      have c5 := HC9.out.cell 5 _ rfl
      go_upto_region 10 with (go_at_call 9; refine (status_is PI HC9.out hin HG.out).mono ?_; rintro e w10 ⟨rfl, hb10⟩)
      have HC10 : Hid (Laid w w10 w8.heap.size pw st ao2 cp2 ws.heap.size hw id mid text ps) := HC9.out.below hb10.out
      clear c0 c1 c2 c3 c4 c5
      go_upto_region 11 with (go_at_call 8; refine (cloned2 HC10.out HG.out).mono ?_; rintro e w11 ⟨ao3, cp3, rfl, hD⟩)
      have HD : Hid (Laid w (w11.alloc (.cells #[.pointer pw, .int .i64 st, .int .u64 0, .int .i64 0, .pointer none, .slice ao3 ps.length cp3] 34)) w11.heap.size pw st ao3 cp3 w10.heap.size hw id mid text ps ∧ Below w10.heap.size w10 (w11.alloc (.cells #[.pointer pw, .int .i64 st, .int .u64 0, .int .i64 0, .pointer none, .slice ao3 ps.length cp3] 34)) ∧ w10.heap.size ≤ w11.heap.size) := hD _ rfl
      clear hD
      generalize w11.alloc (.cells #[.pointer pw, .int .i64 st, .int .u64 0, .int .i64 0, .pointer none, .slice ao3 ps.length cp3] 34) = wd at HD ⊢
      go_upto_region 12 with (go_at_call 11; refine (scribbled HC10.out HD.out.2.1 HG.out).mono ?_; rintro e w12 ⟨v', rfl, hS12⟩)
      have hlt10 : w8.heap.size < w10.heap.size := heap_lt HC10.out.blk
      have hge10 : w10.heap.size ≤ w11.heap.size := HD.out.2.2
      have HD12 : Hid (Laid w w12 w11.heap.size pw st ao3 cp3 w10.heap.size hw id mid text ps) := HD.out.1.scr hS12.out hlt10 (by omega) HC10.out.low HC10.out.new
      have c0 := HD12.out.cell 0 _ rfl
      have c1 := HD12.out.cell 1 _ rfl
      have c2 := HD12.out.cell 2 _ rfl
      have c3 := HD12.out.cell 3 _ rfl
      have c4 := HD12.out.cell 4 _ rfl
      have c5 := HD12.out.cell 5 _ rfl
      go_wp2_with (go_at_call 9; refine (status_is PI HD12.out hin HG.out).mono ?_; rintro e w13 ⟨rfl, hb13⟩)
      go_ret
      exact ⟨rfl, HD12.out.bel.trans (hb13.out.mono HD12.out.bel.size)⟩
end Go.Proofs.Qxb6616460a

import Derived.Test.Qxb6616460aLawA
import Derived.LaidEqlPtr
import Derived.Lib.Builder
namespace Go.Proofs.Qxb6616460a
open Go.RowKit
set_option linter.unusedVariables false

theorem neq26 (W : World) (pw : Option Addr) : (binOp .neq 26 (.pointer pw) (.pointer pw)).run Try.prog W = .ok (.bool false) W := by
  cases pw with
  | none => simp [run_neq_pointer_nil (P := Try.prog) W 26 none (by kernel_rfl)]
  | some x =>
    obtain ⟨j, hj⟩ : ∃ j, Try.prog.info? 93 = some j := Option.isSome_iff_exists.1 (by kernel_rfl)
    exact Lib.run_neq_ptr_same W x Try.underlying26 hj

theorem eq29 (W : World) : (Op.equalIn 9999 29 (.pointer none) (.pointer none)).run Try.prog W = .ok true W := by
  have h := run_equalIn_pointer_nil (P := Try.prog) W 9998 29 none (by kernel_rfl)
  simpa using h
/-- Two pointers into arrays of their own. -/
theorem eql_apart {tp te : TypeId} {sz : Nat} (hp : Try.prog.underlying tp = some (.pointer te)) (hi : (Try.prog.info? te).map (·.size) = some (sz + 1)) {W : World} {g1 g2 t k n1 n2 : Nat} {r1 r2 : List (List Value)} (h1 : Arr W g1 t k n1 r1) (h2 : Arr W g2 t k n2 r2) (hne : g1 ≠ g2) : (binOp .eql tp (.pointer (some ⟨g1, 0, none⟩)) (.pointer (some ⟨g2, 0, none⟩))).run Try.prog W = .ok (.bool false) W := by
  obtain ⟨c1, e1, _⟩ := h1.blk
  obtain ⟨c2, e2, _⟩ := h2.blk
  cases hq : Try.prog.info? te with
  | none => rw [hq] at hi; simp at hi
  | some j =>
    rw [hq] at hi
    simp at hi
    exact run_eql_ptr_other W hp hq (by omega) (by intro e; exact hne (congrArg Addr.block e)) e1 e2

theorem PeersOK.arr {w : World} {lo : Nat} {ao : Option Addr} {n cp : Nat} {ps : List ZP} (h : PeersOK w lo (.slice ao n cp) ps) (h0 : ps.length ≠ 0) : ∃ g cap rows, ao = some ⟨g, 0, none⟩ ∧ lo ≤ g ∧ Arr w g 47 14 cap rows := by
  obtain ⟨rows, h1, h2, h3⟩ := h
  rcases h1 with ⟨h4, rfl⟩ | ⟨g, cap, h4, h5, h6, h7, h8⟩
  · exact absurd h2.symm h0
  · injection h4 with e1 e2 e3
    exact ⟨g, cap, rows, e1, h5, h8⟩
theorem PeersOK.cells {w : World} {lo : Nat} {ao : Option Addr} {n cp : Nat} {ps : List ZP} (h : PeersOK w lo (.slice ao n cp) ps) {k : Nat} {p : ZP} (hp : ps[k]? = some p) : ∃ g v2, ao = some ⟨g, 0, none⟩ ∧ w.cell? ⟨g, k * 14 + 2, none⟩ = some v2 ∧ CellsOK w lo v2 p.cells := by
  obtain ⟨ao', c', e, h1⟩ := h.at
  injection e with e1 e2 e3
  subst e1
  obtain ⟨g, r, h2, h3, h4, h5, h6⟩ := h1 k p hp
  obtain ⟨v2, v6, v10, v11, v12, rfl, h7, _⟩ := h6
  exact ⟨g, v2, h2, h5 2 _ rfl, h7⟩
theorem CellsOK.arr {w : World} {lo : Nat} {v : Value} {cells : List ZC} (h : CellsOK w lo v cells) (h0 : cells.length ≠ 0) : ∃ g cap rows, v = .slice (some ⟨g, 0, none⟩) cells.length cap ∧ lo ≤ g ∧ Arr w g 65 7 cap rows := by
  obtain ⟨crow, h1, h2, _⟩ := h
  rcases h1 with ⟨rfl, rfl⟩ | ⟨g, cap, rfl, h5, h6, h7, h8⟩
  · exact absurd h2.symm h0
  · exact ⟨g, cap, crow, by rw [h2], h5, h8⟩
theorem hs' {ps : List ZP} (hg : ps.length ≤ 1048576 ∧ ∀ p ∈ ps, Good p) : ∀ p ∈ ps, Small p := fun p hp => (hg.2 p hp).small
theorem Arr.drewN {w : World} {g t k n m : Nat} {rows : List (List Value)} (h : Arr w g t k n rows) : Arr (w.drewN m) g t k n rows := h.of_blk rfl
theorem Below.drewN {B : Nat} {w w' : World} (h : Below B w w') (m : Nat) : Below B w (w'.drewN m) := h.trans ⟨rfl, rfl, rfl, Nat.le_refl _, fun _ _ => rfl⟩

set_option maxHeartbeats 2000000 in
set_option maxRecDepth 100000 in
theorem law1_any (HB : BuildsPeer) (PI : PeerIs) (B5 : BytesSay 5) (st : Int) (hw : Bool) (id : ByteArray) (mid : Int) (text : ByteArray) (a : Option Addr) (cap : Nat) (ps : List ZP) (w : World) (hin : PIn w a cap ps) (hlen : ps.length ≤ maxLen) :
    Calls Try.prog 3 #[.int .i64 st, .bool hw, .string id, .int .u16 mid, .string text, .slice a ps.length cap] w fun e w' => e = .returned (.bool true) ∧ Below w.heap.size w w' := by
  have q26 := neq26
  have q29 := eq29
  go_enter Try.func3, Try.ntmps3
  go_upto_if 23 with (go_at_call 5; refine (B5 _ _ _ _ _ _ _ _ _ hin hlen).mono ?_; rintro e w' ⟨⟨b, rfl⟩, rfl⟩)
  cases b
  · go_wp2
    go_ret
    exact ⟨rfl, Below.refl _ _⟩
  · go_upto_if 28 with (go_at_call 6; refine (size_any _ _ _ _ _ _ hin hlen).mono ?_; rintro e w6 ⟨m, rfl, hb6, hg6⟩)
    by_cases hm : (1048576 : Int) < (m : Int)
    · go_wp2
      go_ret
      exact ⟨rfl, hb6⟩
    · have HG : Hid (ps.length ≤ 1048576 ∧ ∀ p ∈ ps, Good p) := hg6.out (by omega)
      have HB6 : Hid (Below w.heap.size w w6) := hb6
      clear hg6 hb6
      go_upto_region 6 with (go_at_call 7; refine (built HB HB6.out hin HG.out).mono ?_; rintro e w7 ⟨pw, ao, cp, rfl, hL⟩)
      have HL : Hid (Laid w (w7.alloc (.cells #[.pointer pw, .int .i64 st, .int .u64 0, .int .i64 0, .pointer none, .slice ao ps.length cp] 34)) w7.heap.size pw st ao cp w6.heap.size hw id mid text ps) := hL _ rfl
      clear hL
      generalize w7.alloc (.cells #[.pointer pw, .int .i64 st, .int .u64 0, .int .i64 0, .pointer none, .slice ao ps.length cp] 34) = ws at HL ⊢
      go_upto_region 7 with (go_at_call 8; refine (cloned HL.out HG.out).mono ?_; rintro e w8 ⟨ao2, cp2, rfl, hC⟩)
      have HC : Hid (Laid w (w8.alloc (.cells #[.pointer pw, .int .i64 st, .int .u64 0, .int .i64 0, .pointer none, .slice ao2 ps.length cp2] 34)) w8.heap.size pw st ao2 cp2 ws.heap.size hw id mid text ps ∧ Laid w (w8.alloc (.cells #[.pointer pw, .int .i64 st, .int .u64 0, .int .i64 0, .pointer none, .slice ao2 ps.length cp2] 34)) w7.heap.size pw st ao cp w6.heap.size hw id mid text ps ∧ Below ws.heap.size ws (w8.alloc (.cells #[.pointer pw, .int .i64 st, .int .u64 0, .int .i64 0, .pointer none, .slice ao2 ps.length cp2] 34))) := hC _ rfl
      clear hC
      generalize w8.alloc (.cells #[.pointer pw, .int .i64 st, .int .u64 0, .int .i64 0, .pointer none, .slice ao2 ps.length cp2] 34) = wc at HC ⊢
      have c0 := HC.out.1.cell 0 _ rfl
      have c1 := HC.out.1.cell 1 _ rfl
      have c2 := HC.out.1.cell 2 _ rfl
      have c3 := HC.out.1.cell 3 _ rfl
      have c4 := HC.out.1.cell 4 _ rfl
      have c5 := HC.out.1.cell 5 _ rfl
      go_upto_region 9 with (go_at_call 9; refine (status_is PI HC.out.1 hin HG.out).mono ?_; rintro e w9 ⟨rfl, hb9⟩)
      have HC9 : Hid (Laid w w9 w8.heap.size pw st ao2 cp2 ws.heap.size hw id mid text ps) := HC.out.1.below hb9.out
      have HS9 : Hid (Laid w w9 w7.heap.size pw st ao cp w6.heap.size hw id mid text ps) := HC.out.2.1.below hb9.out
      have hlt9 : w7.heap.size < ws.heap.size := heap_lt HL.out.blk
      clear c0 c1 c2 c3 c4 c5
      have c0 := HC9.out.cell 0 _ rfl
      have c2 := HC9.out.cell 2 _ rfl
      have c3 := HC9.out.cell 3 _ rfl
      have c4 := HC9.out.cell 4 _ rfl
      have c5 := HC9.out.cell 5 _ rfl
      have s0 := HS9.out.cell 0 _ rfl
      have s2 := HS9.out.cell 2 _ rfl
      have s3 := HS9.out.cell 3 _ rfl
      have s4 := HS9.out.cell 4 _ rfl
      have s5 := HS9.out.cell 5 _ rfl
      go_upto_region 11 with fail
      clear c0 c2 c3 c4 s0 s2 s3 s4
      go_cut [69] (fun v w' => v = .bool false ∧ Hid (Below w9.heap.size w9 w'))
      case first =>
        by_cases h0 : ps.length = 0
        · have h0' : (ps.length : Int) = 0 := by omega
          go_quiet (fail)
          go_wp2
          go_meet
          case rel => exact ⟨rfl, Below.drewN (Below.refl _ _) _⟩
        · obtain ⟨g2, k2, r2, e2, l2, A2⟩ := HC9.out.peers.arr h0
          obtain ⟨g1, k1, r1, e1, l1, A1⟩ := HL.out.peers.arr h0
          obtain ⟨g1', k1', r1', e1', l1', A1'⟩ := HS9.out.peers.arr h0
          rw [e1] at e1'
          injection e1' with e1'
          injection e1' with e1' _
          subst e1'
          have hlt1 := A1.lt
          have q39 : ∀ n, (binOp .eql 39 (.pointer (some ⟨g2, 0, none⟩)) (.pointer (some ⟨g1, 0, none⟩))).run Try.prog (w9.drewN n) = .ok (.bool false) (w9.drewN n) := fun n => eql_apart Try.underlying39 (sz := 13) (by kernel_rfl) A2.drewN A1'.drewN (by omega)
          rw [e2] at c5
          rw [e1] at s5
          have h0' : (0 : Int) < (ps.length : Int) := by omega
          have h0a : 0 < ps.length := by omega
          have h0b : ¬ ps = [] := fun h => h0 (by rw [h]; rfl)
          have h0c : decide ((0 : Int) < (ps.length : Int)) = true := decide_eq_true h0'
          clear A2 A1 A1'
          replace e1 := Hid.of e1
          replace e2 := Hid.of e2
          go_quiet (fail)
          go_wp2
          go_meet
          case rel => exact ⟨rfl, Below.drewN (Below.refl _ _) _⟩
      case rest =>
        obtain ⟨rfl, HBx⟩ := hcut
        have HWs : Hid (Below ws.heap.size ws w9) := HC.out.2.2.trans (hb9.out.mono HC.out.2.2.size)
        clear c5 s5
        go_wp2
        go_loopw [15] (fun i w' => ∃ k : Nat, k ≤ ps.length ∧ i = .int .i64 k ∧ Hid (Below w9.heap.size w9 w')) (fun i _ => ps.length - (intOf i).toNat)
        case atStart => exact ⟨0, Nat.zero_le _, rfl, HBx⟩
        case round =>
          obtain ⟨k, hk, rfl, HBr⟩ := hrel
          have hle := HG.out.1
          by_cases hlt : k < ps.length
          · obtain ⟨p, hp⟩ : ∃ p, ps[k]? = some p := ⟨_, List.getElem?_eq_getElem hlt⟩
            obtain ⟨b, o, hb1, hb2, hb3⟩ := hin.isSome hp
            have rb := Below.range (HC9.out.bel.trans (HBr.out.mono HC9.out.bel.size)) hb3 hb2
            have y2 : wr.cell? ⟨b, o + k * 14 + 2, none⟩ = some (.slice p.a2 p.cells.length p.c2) := rb 2 _ rfl
            have HCr := HC9.out.below HBr.out
            have HSr := HS9.out.below HBr.out
            obtain ⟨g2, v2, e2, x2, hc2⟩ := HCr.peers.cells hp
            obtain ⟨g1, v1, e1, x1', hc1⟩ := HL.out.peers.cells hp
            have hWr : Below ws.heap.size ws wr := HWs.out.trans (HBr.out.mono HWs.out.size)
            have x1 := (hWr.cell (p := ⟨g1, k * 14 + 2, none⟩) (cell_lt x1')).trans x1'
            have c5 := HCr.cell 5 _ rfl
            have s5 := HSr.cell 5 _ rfl
            rw [e2] at c5
            rw [e1] at s5
            have hcl := (hs' HG.out p (List.mem_of_getElem? hp)).b2
            have HE : Hid (Below w9.heap.size w9 wr) := HBr.out
            subst hb1
            by_cases hc0 : p.cells.length = 0
            · have hc0' : (p.cells.length : Int) = 0 := by omega
              clear rb hb3 hc2 hc1 hWr x1' HCr HSr e1 e2
              go_wp2
              go_quiet (fail)
              go_wp2
              go_roundw
              case rel =>
                first
                  | exact ⟨k + 1, by omega, by go_num, Below.drewN HE.out _⟩
                  | (repeat apply Exists.intro
                     exact ⟨⟨k + 1, by omega, by go_num, Below.drewN HE.out _⟩, rfl⟩)
              case measure => simp [intOf]; omega
            · obtain ⟨h2, k2, r2, rfl, l2, A2⟩ := hc2.arr hc0
              obtain ⟨h1, k1, r1, rfl, l1, A1⟩ := hc1.arr hc0
              have A1' := A1.of_blk (hWr.block h1 A1.lt)
              have hlt1 := A1.lt
              have q55 : ∀ n, (binOp .eql 55 (.pointer (some ⟨h2, 0, none⟩)) (.pointer (some ⟨h1, 0, none⟩))).run Try.prog (wr.drewN n) = .ok (.bool false) (wr.drewN n) := fun n => eql_apart Try.underlying55 (sz := 6) (by kernel_rfl) A2.drewN A1'.drewN (by omega)
              have hc0' : (0 : Int) < (p.cells.length : Int) := by omega
              have hc0a : 0 < p.cells.length := by omega
              have hc0b : ¬ p.cells = [] := fun h => hc0 (by rw [h]; rfl)
              have hc0c : decide ((0 : Int) < (p.cells.length : Int)) = true := decide_eq_true hc0'
              clear rb hb3 hc2 hc1 hWr x1' HCr HSr e1 e2 A1 A1' A2
              go_wp2
              go_quiet (fail)
              go_wp2
              go_roundw
              case rel =>
                first
                  | exact ⟨k + 1, by omega, by go_num, Below.drewN HE.out _⟩
                  | (repeat apply Exists.intro
                     exact ⟨⟨k + 1, by omega, by go_num, Below.drewN HE.out _⟩, rfl⟩)
              case measure => simp [intOf]; omega
          · have HSr : Hid (Laid w wr w7.heap.size pw st ao cp w6.heap.size hw id mid text ps) := HS9.out.below HBr.out
            have s0 := HSr.out.cell 0 _ rfl
            have s1 := HSr.out.cell 1 _ rfl
            have s2 := HSr.out.cell 2 _ rfl
            have s3 := HSr.out.cell 3 _ rfl
            have s4 := HSr.out.cell 4 _ rfl
            have s5 := HSr.out.cell 5 _ rfl
            go_wp2_with (go_at_call 9; refine (status_is PI HSr.out hin HG.out).mono ?_; rintro e w10 ⟨rfl, hb10⟩)
            go_ret
            exact ⟨rfl, HSr.out.bel.trans (hb10.out.mono HSr.out.bel.size)⟩
end Go.Proofs.Qxb6616460a

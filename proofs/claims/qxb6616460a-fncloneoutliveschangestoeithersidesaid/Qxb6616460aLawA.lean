import Derived.Test.Qxb6616460aSis
import Derived.Test.Qxb6616460aSize
import Derived.Test.Qxb6616460aIs
namespace Go.Proofs.Qxb6616460a
open Go.RowKit
set_option linter.unusedVariables false

def BytesSay (fn : Nat) : Prop := ∀ (st : Int) (hw : Bool) (id : ByteArray) (mid : Int) (text : ByteArray) (a : Option Addr) (cap : Nat) (ps : List ZP) (w : World), PIn w a cap ps → ps.length ≤ maxLen →
    Calls Try.prog fn #[.int .i64 st, .bool hw, .string id, .int .u16 mid, .string text, .slice a ps.length cap] w fun e w' => (∃ b, e = .returned (.bool b)) ∧ w = w'

/-- The status, built and laid into a block of its own. -/
structure Laid (w0 w : World) (blk : Nat) (pw : Option Addr) (st : Int) (ao : Option Addr) (cp lo : Nat) (hw : Bool) (id : ByteArray) (mid : Int) (text : ByteArray) (ps : List ZP) : Prop where
  bel : Below w0.heap.size w0 w
  new : w0.heap.size ≤ blk
  low : w0.heap.size ≤ lo
  blk : w.heap[blk]? = some (.cells (srow (.pointer pw) st (.slice ao ps.length cp)).toArray 34 (0, 0))
  warn : WarnOK w (.pointer pw) hw id mid text
  peers : PeersOK w lo (.slice ao ps.length cp) ps
theorem Laid.below {w0 w w' : World} {blk : Nat} {pw : Option Addr} {st : Int} {ao : Option Addr} {cp lo : Nat} {hw : Bool} {id : ByteArray} {mid : Int} {text : ByteArray} {ps : List ZP} (h : Laid w0 w blk pw st ao cp lo hw id mid text ps) (hb : Below w.heap.size w w') : Laid w0 w' blk pw st ao cp lo hw id mid text ps :=
  ⟨h.bel.trans (hb.mono h.bel.size), h.new, h.low, (hb.block _ (heap_lt h.blk)).trans h.blk, h.warn.kept (T := []) (Kept.of_below hb) (by simp), h.peers.kept (T := []) (Kept.of_below hb) (by unfold Outer; decide) (by decide)⟩
theorem Laid.cell {w0 w : World} {blk : Nat} {pw : Option Addr} {st : Int} {ao : Option Addr} {cp lo : Nat} {hw : Bool} {id : ByteArray} {mid : Int} {text : ByteArray} {ps : List ZP} (h : Laid w0 w blk pw st ao cp lo hw id mid text ps) (k : Nat) (v : Value) (hv : (srow (.pointer pw) st (.slice ao ps.length cp))[k]? = some v) : w.cell? ⟨blk, k, none⟩ = some v := by
  rw [cell_of_row w _ k _ _ _ h.blk]; simpa using hv

/-- A call of zzBuildStatus, its answer written out. -/
theorem built (HB : BuildsPeer) {w0 w : World} {st : Int} {hw : Bool} {id : ByteArray} {mid : Int} {text : ByteArray} {a : Option Addr} {cap : Nat} {ps : List ZP} (hb0 : Below w0.heap.size w0 w) (hin : PIn w0 a cap ps) (hg : ps.length ≤ 1048576 ∧ ∀ p ∈ ps, Good p) :
    Calls Try.prog 7 #[.int .i64 st, .bool hw, .string id, .int .u16 mid, .string text, .slice a ps.length cap] w fun e w' => ∃ pw ao cp, e = .returned (.agg #[.pointer pw, .int .i64 st, .int .u64 0, .int .i64 0, .pointer none, .slice ao ps.length cp]) ∧ ∀ X, X = Obj.cells (srow (.pointer pw) st (.slice ao ps.length cp)).toArray 34 → Hid (Laid w0 (w'.alloc X) w'.heap.size pw st ao cp w.heap.size hw id mid text ps) := by
  refine (buildStatus_any HB st hw id mid text a cap ps w (hin.below hb0 (Nat.le_refl _)) (fun p hp => (hg.2 p hp).small) hg.1).mono ?_
  rintro e w' ⟨vw, vp, rfl, h1, h2, h3⟩
  obtain ⟨pw, rfl⟩ := h1.is
  obtain ⟨ao, cp, rfl, _⟩ := h2.at
  refine ⟨pw, ao, cp, rfl, fun X hX => ?_⟩
  have hb : Below w'.heap.size w' (w'.alloc X) := (Below.refl _ _).alloc (Nat.le_refl _) _
  exact ⟨(hb0.trans (h3.mono hb0.size)).trans (hb.mono (Nat.le_trans hb0.size h3.size)), Nat.le_trans hb0.size h3.size, hb0.size, by rw [← hX]; exact heap_alloc_last w' X, h1.kept (T := []) (Kept.of_below hb) (by simp), h2.kept (T := []) (Kept.of_below hb) (by unfold Outer; decide) (by decide)⟩

/-- A call of ZZclone, its answer written out. -/
theorem cloned {w0 w : World} {blk : Nat} {pw : Option Addr} {st : Int} {ao : Option Addr} {cp lo : Nat} {hw : Bool} {id : ByteArray} {mid : Int} {text : ByteArray} {ps : List ZP} (h : Laid w0 w blk pw st ao cp lo hw id mid text ps) (hg : ps.length ≤ 1048576 ∧ ∀ p ∈ ps, Good p) :
    Calls Try.prog 8 #[.pointer (some ⟨blk, 0, none⟩)] w fun e w' => ∃ ao' cp', e = .returned (.agg #[.pointer pw, .int .i64 st, .int .u64 0, .int .i64 0, .pointer none, .slice ao' ps.length cp']) ∧ ∀ X, X = Obj.cells (srow (.pointer pw) st (.slice ao' ps.length cp')).toArray 34 → Hid (Laid w0 (w'.alloc X) w'.heap.size pw st ao' cp' w.heap.size hw id mid text ps ∧ Laid w0 (w'.alloc X) blk pw st ao cp lo hw id mid text ps ∧ Below w.heap.size w (w'.alloc X)) := by
  refine (zzclone_any _ pw st ps blk lo w h.blk h.peers (fun p hp => (hg.2 p hp).small) hg.1).mono ?_
  rintro e w' ⟨vp, rfl, h2, h3⟩
  obtain ⟨ao', cp', rfl, _⟩ := h2.at
  refine ⟨ao', cp', rfl, fun X hX => ?_⟩
  have hb : Below w'.heap.size w' (w'.alloc X) := (Below.refl _ _).alloc (Nat.le_refl _) _
  have hb2 : Below w.heap.size w (w'.alloc X) := h3.trans (hb.mono h3.size)
  have h4 := h.below hb2
  exact ⟨⟨h4.bel, Nat.le_trans h.bel.size h3.size, h.bel.size, by rw [← hX]; exact heap_alloc_last w' X, h4.warn, h2.kept (T := []) (Kept.of_below hb) (by unfold Outer; decide) (by decide)⟩, h4, hb2⟩

/-- A call of zzStatusIs. -/
theorem status_is (PI : PeerIs) {w0 w : World} {blk : Nat} {pw : Option Addr} {st : Int} {ao : Option Addr} {cp lo : Nat} {hw : Bool} {id : ByteArray} {mid : Int} {text : ByteArray} {a : Option Addr} {cap : Nat} {ps : List ZP} (h : Laid w0 w blk pw st ao cp lo hw id mid text ps) (hin : PIn w0 a cap ps) (hg : ps.length ≤ 1048576 ∧ ∀ p ∈ ps, Good p) :
    Calls Try.prog 9 #[.agg #[.pointer pw, .int .i64 st, .int .u64 0, .int .i64 0, .pointer none, .slice ao ps.length cp], .int .i64 st, .bool hw, .string id, .int .u16 mid, .string text, .slice a ps.length cap] w fun e w' => e = .returned (.bool true) ∧ Hid (Below w.heap.size w w') :=
  statusIs_any PI st hw id mid text a cap ps _ _ lo w h.warn h.peers (hin.below h.bel (Nat.le_refl _)) (fun p hp => (hg.2 p hp).small) hg.1
end Go.Proofs.Qxb6616460a

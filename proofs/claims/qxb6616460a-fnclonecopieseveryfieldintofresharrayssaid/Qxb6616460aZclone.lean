import Derived.Test.Qxb6616460aClone
namespace Go.Proofs.Qxb6616460a
open Go.RowKit
set_option linter.unusedVariables false

theorem Hid.of {p : Prop} (h : p) : Hid p := h
set_option maxHeartbeats 800000 in
theorem zzclone_any (vp : Value) (pw : Option Addr) (st : Int) (ps : List ZP) (xs lo : Nat) (w : World) (hx : w.heap[xs]? = some (.cells (srow (.pointer pw) st vp).toArray 34 (0, 0))) (hp : PeersOK w lo vp ps) (hs : ∀ p ∈ ps, Small p) (hl : ps.length ≤ 1048576) :
    Calls Try.prog 8 #[.pointer (some ⟨xs, 0, none⟩)] w fun e w' => ∃ vp', e = .returned (.agg (srow (.pointer pw) st vp').toArray) ∧ PeersOK w' w.heap.size vp' ps ∧ Below w.heap.size w w' := by
  obtain ⟨X, hX⟩ : ∃ X, X = Obj.cells #[.pointer none, .int .i64 0, .int .u64 0, .int .i64 0, .pointer none, .slice none 0 0] 34 := ⟨_, rfl⟩
  have hb0 : Below w.heap.size w (w.alloc X) := (Below.refl _ _).alloc (Nat.le_refl _) _
  have HC : Hid (Calls Try.prog 14 #[.pointer (some ⟨xs, 0, none⟩)] (w.alloc X) fun e w' => ∃ a n c, e = .returned (.agg #[.pointer pw, .int .i64 st, .int .u64 0, .int .i64 0, .pointer none, .slice a n c]) ∧ (PeersOK w' (w.heap.size + 1) (.slice a n c) ps ∧ Below (w.heap.size + 1) (w.alloc X) w' ∧ w'.heap[w.heap.size]? = some X) ∧ w'.cell? ⟨w.heap.size, 0, none⟩ = some (.pointer none) ∧ w'.frozen? ⟨w.heap.size, 0, none⟩ = false ∧ w'.cell? ⟨w.heap.size, 1, none⟩ = some (.int .i64 0) ∧ w'.frozen? ⟨w.heap.size, 1, none⟩ = false ∧ w'.cell? ⟨w.heap.size, 2, none⟩ = some (.int .u64 0) ∧ w'.frozen? ⟨w.heap.size, 2, none⟩ = false ∧ w'.cell? ⟨w.heap.size, 3, none⟩ = some (.int .i64 0) ∧ w'.frozen? ⟨w.heap.size, 3, none⟩ = false ∧ w'.cell? ⟨w.heap.size, 4, none⟩ = some (.pointer none) ∧ w'.frozen? ⟨w.heap.size, 4, none⟩ = false ∧ w'.cell? ⟨w.heap.size, 5, none⟩ = some (.slice none 0 0) ∧ w'.frozen? ⟨w.heap.size, 5, none⟩ = false) := by
    have h := clone_any vp pw st ps xs lo (w.alloc X) ((hb0.block xs (heap_lt hx)).trans hx) (hp.kept (T := []) (Kept.of_below hb0) (by unfold Outer; decide) (by decide)) hs hl
    rw [show (w.alloc X).heap.size = w.heap.size + 1 by simp] at h
    refine h.mono ?_
    rintro e w' ⟨vp', rfl, h1, h2⟩
    obtain ⟨a, n, c, rfl⟩ := h1.is
    have hX2 : w'.heap[w.heap.size]? = some X := (h2.block _ (by omega)).trans (heap_alloc_last w X)
    have hfz : ∀ q, w'.frozen? ⟨w.heap.size, q, none⟩ = false := fun q => by unfold World.frozen?; rw [show (⟨w.heap.size, q, none⟩ : Addr).block = w.heap.size from rfl, hX2, hX]; simp
    rw [hX] at hX2
    exact ⟨a, n, c, rfl, ⟨h1, h2, by rw [hX]; exact hX2⟩, cell_of_row w' _ 0 _ _ _ hX2, hfz 0, cell_of_row w' _ 1 _ _ _ hX2, hfz 1, cell_of_row w' _ 2 _ _ _ hX2, hfz 2, cell_of_row w' _ 3 _ _ _ hX2, hfz 3, cell_of_row w' _ 4 _ _ _ hX2, hfz 4, cell_of_row w' _ 5 _ _ _ hX2, hfz 5⟩
  have HB0 : Hid (Below w.heap.size w (w.alloc X)) := hb0
  have HX : Hid (X = .cells #[.pointer none, .int .i64 0, .int .u64 0, .int .i64 0, .pointer none, .slice none 0 0] 34) := hX
  subst hX
  clear hb0 hp hx
  go_enter Try.func8, Try.ntmps8
  go_wp2_with (go_at_call 14; refine HC.out.mono ?_; rintro e w' ⟨a, n, c, rfl, HW, k0, f0, k1, f1, k2, f2, k3, f3, k4, f4, k5, f5⟩; replace HW := Hid.of HW)
  have hW := HW.out
  obtain ⟨h1, h2, h3⟩ := hW
  have hr := setCells_whole w.heap.size 34 (0, 0) [.pointer pw, .int .i64 st, .int .u64 0, .int .i64 0, .pointer none, .slice a n c] [] _ w' h3 rfl
  have hK := Kept.setCells (T := [34]) h3 (by decide) 0 [.pointer pw, .int .i64 st, .int .u64 0, .int .i64 0, .pointer none, .slice a n c]
  have hB := setCells_below w.heap.size [.pointer pw, .int .i64 st, .int .u64 0, .int .i64 0, .pointer none, .slice a n c] 0 w'
  simp only [World.setCells, List.length_nil, Nat.zero_add, Nat.reduceAdd, List.nil_append] at hr hK hB
  refine bodyPost_ret (v := .agg #[.pointer pw, .int .i64 st, .int .u64 0, .int .i64 0, .pointer none, .slice a n c]) (results_cell_row Try.results8 _ _ w.heap.size 34 _ (0, 0) _ rfl hr Try.underlying34 rfl (by kernel_rfl)) rfl ?_
  exact ⟨_, rfl, (h1.kept hK (by unfold Outer; decide) (by decide)).mono (by omega), (HB0.out.trans (h2.mono (by omega))).trans hB⟩
end Go.Proofs.Qxb6616460a

import Derived.Test.Qxb6616460aData
import Derived.Maps.AppendAt
namespace Go.Proofs.Qxb6616460a
open Go.RowKit
set_option linter.unusedVariables false

/-- An append at a step of a region that draws, from the run's own equation. -/
theorem step_append_run {P : Program} {ops : Array Oper} {o : Oper} {a : Act} {w : World} {K : Act → World → Prop} {Q : Exit → Act → World → Prop} {E : Prop} (hgd : o.guard = none) (s x : Operand) (t : TypeId)
    (ho : o.op = .call { callee := .builtin .append, args := #[s, x], argTypes := #[t, t] }) (u v : Value) (hs : a.eval s = u) (hx : a.eval x = v) (v' : Value) (w' : World)
    (hr : (Builtin.append_ #[t, t] o.type #[u, v]).run P w = .ok v' w') (h : K (a.put o.dst v') w') : if Region.wanted o (yielded ops a.tmps) = true then Oper.wp P o a w K Q else E := by
  have hw : Region.wanted o (yielded ops a.tmps) = true := by simp [Region.wanted, hgd]
  rw [if_pos hw]
  unfold Oper.wp execOp
  simp only [ho, resolve, invoke, builtin, Sem.run_bind, Sem.run_pure, Result.andThen_ok, List.map_toArray, List.map_cons, List.map_nil, hs, hx, hr]
  exact h

theorem below_grown {w w' : World} (h : w.grownBy w' none) : Below w.heap.size w w' := ⟨h.os, h.tape, h.output, h.size, fun k hk => h.block k hk (by simp)⟩

theorem flatten_one : ∀ (rows : List (List Value)), (∀ r ∈ rows, ∀ v ∈ r, v.oneCell' = true) → ∀ v ∈ rows.flatten, v.oneCell' = true := fun rows h v hv => by
  obtain ⟨r, hr, hv⟩ := List.mem_flatten.1 hv
  exact h r hr v hv

/-- 'append(nil, v...)' of a slice of cells. -/
theorem append41 (W : World) (lo : Nat) (v : Value) (crow : List (List Value)) (hs : SliceOK W lo 65 7 v crow) (h1 : ∀ r ∈ crow, r.length = 7 ∧ ∀ u ∈ r, u.oneCell' = true) (hl : crow.length ≤ 1048576) :
    ∃ v' W', (Builtin.append_ #[41, 41] 41 #[.slice none 0 0, v]).run Try.prog W = .ok v' W' ∧ SliceOK W' W.heap.size 65 7 v' crow ∧ Below W.heap.size W W' := by
  obtain ⟨i, hi, hz0, hz1, hz2⟩ := info_parts (P := Try.prog) (e := 65) (z := .agg #[.string ⟨#[]⟩, .string ⟨#[]⟩, .int .u16 0, .int .u16 0, .int .i64 0, .string ⟨#[]⟩, .pointer none]) (size := 7) (bytes := 72) (by kernel_rfl)
  have hown : W.ownsRow W.heap.size 65 7 (.slice none 0 0) 0 [] := ⟨rfl, .inl ⟨rfl, rfl⟩⟩
  rcases hs with ⟨rfl, rfl⟩ | ⟨g, cap, rfl, h2, h3, h4, ha⟩
  · exact ⟨_, _, run_append_owned_none (P := Try.prog) W W.heap.size 41 41 65 i 7 Try.underlying41 hi _ 0 [] hown, .inl ⟨rfl, rfl⟩, Below.refl _ _⟩
  · have hlen := flatten_len 7 crow (fun r hr => (h1 r hr).1)
    obtain ⟨v', w', hr, ho, hgr, _, _⟩ := run_append_own_at (P := Try.prog) W W.heap.size 41 41 65 i _ 7 72 Try.underlying41 hi hz0 hz1 hz2 (by rfl) (by decide) (.slice none 0 0) 0 [] hown ⟨g, 0, none⟩ crow.length cap crow.flatten hlen
      (fun j u hu => by
        have hj : j < crow.length * 7 := by rw [← hlen]; exact (List.getElem?_eq_some_iff.1 hu).1
        have hq : j / 7 < crow.length := by omega
        have e : j / 7 * 7 + j % 7 = j := by omega
        have h5 := flatten_at 7 crow (fun r hr => (h1 r hr).1) (j / 7) _ (List.getElem?_eq_getElem hq) (j % 7) (Nat.mod_lt _ (by decide))
        rw [e, hu] at h5
        have h6 := ha.val (j / 7) _ (List.getElem?_eq_getElem hq) (j % 7) u h5.symm
        rw [e] at h6
        rw [Addr.add_mid, Nat.zero_add]
        exact h6) (flatten_one crow (fun r hr => (h1 r hr).2)) (by unfold maxLen; omega) (by omega) (Nat.le_refl _)
    refine ⟨v', w', hr, ?_, below_grown hgr⟩
    rw [Nat.zero_add, List.nil_append] at ho
    rcases ho.2 with ⟨h5, h6⟩ | ⟨g', cap', cur, h5, h6, h7, h8, h9, h10, h11⟩
    · exact .inl ⟨h5, List.eq_nil_of_length_eq_zero h6⟩
    · refine .inr ⟨g', cap', h5, h6, h8, h9, ⟨cur, h7, h10⟩, fun j r hr => (h1 r (List.mem_of_getElem? hr)).1, fun j r hr q u hu => ?_⟩
      have hq : q < 7 := by have := (List.getElem?_eq_some_iff.1 hu).1; rw [(h1 r (List.mem_of_getElem? hr)).1] at this; exact this
      have hj := (List.getElem?_eq_some_iff.1 hr).1
      have h12 := flatten_at 7 crow (fun r hr => (h1 r hr).1) j r hr q hq
      rw [hu, ← h11, List.getElem?_take] at h12
      rw [if_pos (by omega)] at h12
      rw [cell_of_row w' g' _ cur 65 _ h7]
      simpa using h12

/-- One cell of the last row anew. -/
theorem Arr.fix {w : World} {g t k n : Nat} {rows : List (List Value)} {r : List Value} (h : Arr w g t k n (rows ++ [r])) (i : Nat) (v : Value) (hi : i < k) (hn : rows.length < n) : Arr (w.setCell ⟨g, rows.length * k + i, none⟩ v) g t k n (rows ++ [r.set i v]) := by
  obtain ⟨cur, hc, hs⟩ := h.blk
  have hlast : (rows ++ [r])[rows.length]? = some r := by simp
  refine ⟨⟨_, setCell_blk hc _ v, by simpa using hs⟩, fun j q hq => ?_, fun j q hq m u hu => ?_⟩
  · by_cases hj : j < rows.length
    · rw [List.getElem?_append_left hj] at hq
      exact h.len j q (by rw [List.getElem?_append_left hj]; exact hq)
    · rw [List.getElem?_append_right (by omega)] at hq
      have := List.mem_of_getElem? hq
      simp at this
      rw [this, List.length_set]; exact h.len _ r hlast
  · by_cases hj : j < rows.length
    · rw [List.getElem?_append_left hj] at hq
      have hq' : (rows ++ [r])[j]? = some q := by rw [List.getElem?_append_left hj]; exact hq
      have hm : m < k := by
        have := (List.getElem?_eq_some_iff.1 hu).1
        rw [h.len j q hq'] at this; exact this
      have hlt : j * k + m < rows.length * k + i := by
        have : (j + 1) * k ≤ rows.length * k := Nat.mul_le_mul_right _ (by omega)
        rw [Nat.add_mul] at this
        omega
      rw [World.cell?_setCell_other _ _ _ _ (by intro e; simp at e <;> omega)]
      exact h.val j q hq' m u hu
    · have hj' : j = rows.length := by
        have := (List.getElem?_eq_some_iff.1 hq).1
        simp at this; omega
      subst hj'
      rw [List.getElem?_append_right (Nat.le_refl _)] at hq
      simp at hq
      subst hq
      have hlr := h.len _ r hlast
      by_cases hm : m = i
      · subst hm
        rw [List.getElem?_set_self (by omega)] at hu
        obtain ⟨⟨y, hy⟩, _⟩ := h.there rows.length m hn hi
        rw [World.cell?_setCell_same _ _ _ hy]
        exact hu
      · rw [List.getElem?_set_ne (fun e => hm e.symm)] at hu
        rw [World.cell?_setCell_other _ _ _ _ (by intro e; simp at e <;> omega)]
        exact h.val _ r hlast m u hu

end Go.Proofs.Qxb6616460a

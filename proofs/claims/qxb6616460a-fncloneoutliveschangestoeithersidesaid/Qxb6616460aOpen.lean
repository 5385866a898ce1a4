import Derived.Test.Qxb6616460aData
import Derived.Deep.Slices
import Derived.OpenShut
import Derived.ShutString
import Derived.ChangeOld
namespace Go.Proofs.Qxb6616460a
open Go.RowKit Go.ChangeShapes Go.WideShapes Go.Deep
set_option linter.unusedVariables false

section
variable {H : Type} {enc : TypeId × Value → H} {w : World} {base : Nat} {spare : Nat → Bool} {held : Bool}

theorem cells3 : Try.prog.cellsOf 3 = 1 := by kernel_rfl
theorem cells4 : Try.prog.cellsOf 4 = 1 := by kernel_rfl
theorem cells5 : Try.prog.cellsOf 5 = 1 := by kernel_rfl
theorem cells9 : Try.prog.cellsOf 9 = 1 := by kernel_rfl
theorem cells22 : Try.prog.cellsOf 22 = 1 := by kernel_rfl
theorem cells71 : Try.prog.cellsOf 71 = 1 := by kernel_rfl
theorem cells48 : Try.prog.cellsOf 48 = 1 := by kernel_rfl
theorem cells49 : Try.prog.cellsOf 49 = 1 := by kernel_rfl
theorem cells50 : Try.prog.cellsOf 50 = 1 := by kernel_rfl
theorem cells51 : Try.prog.cellsOf 51 = 1 := by kernel_rfl
theorem cells52 : Try.prog.cellsOf 52 = 1 := by kernel_rfl
theorem cells54 : Try.prog.cellsOf 54 = 14 := by kernel_rfl
theorem cells68 : Try.prog.cellsOf 68 = 9 := by kernel_rfl
theorem cells70 : Try.prog.cellsOf 70 = 3 := by kernel_rfl
theorem cells73 : Try.prog.cellsOf 73 = 3 := by kernel_rfl
theorem cells75 : Try.prog.cellsOf 75 = 4 := by kernel_rfl
theorem cells77 : Try.prog.cellsOf 77 = 4 := by kernel_rfl

/-- A slice that came in, as rows of K cells. -/
theorem open_rows {t e : TypeId} {K fuel : Nat} {cs : List Value} {x : DataW H × List MemPlace} (ht : Try.prog.underlying t = some (.slice e)) (hK : Try.prog.cellsOf e = K) (hK0 : 0 < K) (h : DataW.trod enc Try.prog w base spare held fuel t cs = some x) :
    ∃ (ao : Option Addr) (cap : Nat) (rows : List (List Value)), cs = [.slice ao rows.length cap] ∧ (ao = none → rows = [] ∧ cap = 0) ∧ rows.length ≤ maxLen ∧ InArr w ao K rows ∧ ∀ r ∈ rows, r.length = K ∧ ∃ n y, DataW.trod enc Try.prog w base spare held n e r = some y := by
  rcases open_slice ht h with ⟨rfl, _⟩ | ⟨a, len, cap, m, n, D, Pl, rfl, hb, hl, hm, hmm, _, hx⟩
  · exact ⟨none, 0, [], rfl, fun _ => ⟨rfl, rfl⟩, Nat.zero_le _, .inl rfl, fun r hr => by simp at hr⟩
  · have hlm : len ≤ m := by rw [hmm]; split <;> omega
    rw [hK] at hx
    obtain ⟨R, hR⟩ := choose_lt (α := List Value) (p := fun i cs' => w.cells? base (a.add (i * K)) K = some cs' ∧ DataW.trod enc Try.prog w base spare held n e cs' = some (D i, Pl i)) (n := len) (fun i hi => hx i (by omega))
    refine ⟨some a, cap, (List.range len).map R, by simp, by simp, by simp; omega, ?_, fun r hr => ?_⟩
    · rcases Nat.eq_zero_or_pos len with rfl | hpos
      · exact .inl rfl
      · obtain ⟨b, o, sp⟩ := a
        have h0 := (hR 0 hpos).1
        obtain ⟨_, hlen0, hc0⟩ := World.cells?_some h0
        have h00 := hc0 0 hK0
        rw [Nat.zero_mul] at h00
        have hs0 : w.cell? (((⟨b, o, sp⟩ : Addr).add 0).add 0) = some ((R 0)[0]'(by omega)) := by rw [h00]; exact List.getElem?_eq_getElem _
        have hadd : ((⟨b, o, sp⟩ : Addr).add 0).add 0 = ⟨b, o, sp⟩ := by simp [Addr.add]
        rw [hadd] at hs0
        have hsp : sp = none := by
          cases sp with
          | none => rfl
          | some q =>
            simp only [World.cell?] at hs0
            split at hs0 <;> simp at hs0
        subst hsp
        refine .inr ⟨b, o, rfl, cell_lt hs0, fun j r hr i v hv => ?_⟩
        have hj : j < len := by
          have := (List.getElem?_eq_some_iff.1 hr).1
          simpa using this
        have hrj : R j = r := by
          rw [List.getElem?_map, List.getElem?_range hj] at hr
          simpa using hr
        obtain ⟨_, hlenj, hcj⟩ := World.cells?_some (hR j hj).1
        have hi : i < K := by
          have := (List.getElem?_eq_some_iff.1 hv).1
          rw [← hrj, hlenj] at this
          exact this
        have h1 := hcj i hi
        rw [hrj, hv, Addr.add_mid, Addr.add_mid] at h1
        exact h1
    · obtain ⟨j, hj, rfl⟩ := List.mem_map.1 hr
      have hj' : j < len := by simpa using hj
      obtain ⟨h1, h2⟩ := hR j hj'
      exact ⟨(World.cells?_some h1).2.1, n, _, h2⟩

/-- One field of a struct. -/
theorem field_at {t : TypeId} {fs : Array Field} {fuel : Nat} {cs : List Value} {x : DataW H × List MemPlace} (ht : Try.prog.underlying t = some (.struct fs)) (h : DataW.trod enc Try.prog w base spare held fuel t cs = some x) (i : Nat) (f : Field) (hf : fs[i]? = some f) :
    ∃ n y, DataW.trod enc Try.prog w base spare held n f.type ((cs.drop f.offset).take (Try.prog.cellsOf f.type)) = some y := by
  obtain ⟨xs, n, _, _, _, hlen, hfs⟩ := DataW.trod_struct ht h
  have hi : i < xs.length := by rw [hlen]; exact (Array.getElem?_eq_some_iff.1 hf).1
  exact ⟨n, xs[i], by rw [hfs i f hf]; exact List.getElem?_eq_getElem hi⟩

theorem str_at {t : TypeId} {fs : Array Field} {fuel : Nat} {cs : List Value} {x : DataW H × List MemPlace} (ht : Try.prog.underlying t = some (.struct fs)) (h : DataW.trod enc Try.prog w base spare held fuel t cs = some x) (i : Nat) (f : Field) (hf : fs[i]? = some f) (hu : Try.prog.underlying f.type = some .string) (hc : Try.prog.cellsOf f.type = 1) (v : Value) (hv : (cs.drop f.offset).take 1 = [v]) : ∃ s, v = .string s := by
  obtain ⟨n, y, hy⟩ := field_at ht h i f hf
  rw [hc, hv] at hy
  obtain ⟨s, e, _⟩ := DataW.trod_string hu hy
  exact ⟨s, by simpa using e⟩
theorem int_at {t : TypeId} {fs : Array Field} {fuel : Nat} {cs : List Value} {x : DataW H × List MemPlace} {k : IntKind} (ht : Try.prog.underlying t = some (.struct fs)) (h : DataW.trod enc Try.prog w base spare held fuel t cs = some x) (i : Nat) (f : Field) (hf : fs[i]? = some f) (hu : Try.prog.underlying f.type = some (.int k)) (hc : Try.prog.cellsOf f.type = 1) (v : Value) (hv : (cs.drop f.offset).take 1 = [v]) : ∃ n, v = .int k n := by
  obtain ⟨n, y, hy⟩ := field_at ht h i f hf
  rw [hc, hv] at hy
  obtain ⟨s, e, _⟩ := DataW.trod_int hu hy
  exact ⟨s, by simpa using e⟩
theorem bool_at {t : TypeId} {fs : Array Field} {fuel : Nat} {cs : List Value} {x : DataW H × List MemPlace} (ht : Try.prog.underlying t = some (.struct fs)) (h : DataW.trod enc Try.prog w base spare held fuel t cs = some x) (i : Nat) (f : Field) (hf : fs[i]? = some f) (hu : Try.prog.underlying f.type = some .bool) (hc : Try.prog.cellsOf f.type = 1) (v : Value) (hv : (cs.drop f.offset).take 1 = [v]) : ∃ b, v = .bool b := by
  obtain ⟨n, y, hy⟩ := field_at ht h i f hf
  rw [hc, hv] at hy
  obtain ⟨s, e, _⟩ := DataW.trod_bool hu hy
  exact ⟨s, by simpa using e⟩
theorem rows_at {t e : TypeId} {fs : Array Field} {K fuel : Nat} {cs : List Value} {x : DataW H × List MemPlace} (ht : Try.prog.underlying t = some (.struct fs)) (h : DataW.trod enc Try.prog w base spare held fuel t cs = some x) (i : Nat) (f : Field) (hf : fs[i]? = some f) (hu : Try.prog.underlying f.type = some (.slice e)) (hc : Try.prog.cellsOf f.type = 1) (hK : Try.prog.cellsOf e = K) (hK0 : 0 < K) (v : Value) (hv : (cs.drop f.offset).take 1 = [v]) :
    ∃ (ao : Option Addr) (cap : Nat) (rows : List (List Value)), v = .slice ao rows.length cap ∧ (ao = none → rows = [] ∧ cap = 0) ∧ rows.length ≤ maxLen ∧ InArr w ao K rows ∧ ∀ r ∈ rows, r.length = K ∧ ∃ n y, DataW.trod enc Try.prog w base spare held n e r = some y := by
  obtain ⟨n, y, hy⟩ := field_at ht h i f hf
  rw [hc, hv] at hy
  obtain ⟨ao, cap, rows, e1, e2⟩ := open_rows hu hK hK0 hy
  exact ⟨ao, cap, rows, by simpa using e1, e2⟩

theorem map_of {α β : Type} {f : α → β} {p : α → Prop} : ∀ (l : List β), (∀ b ∈ l, ∃ a, f a = b ∧ p a) → ∃ qs : List α, qs.map f = l ∧ ∀ a ∈ qs, p a
  | [], _ => ⟨[], rfl, fun a h => by simp at h⟩
  | b :: l, h => by
    obtain ⟨a, h1, h2⟩ := h b (by simp)
    obtain ⟨qs, h3, h4⟩ := map_of l (fun b hb => h b (by simp [hb]))
    exact ⟨a :: qs, by simp [h1, h3], fun x hx => by
      rcases List.mem_cons.1 hx with rfl | hx
      · exact h2
      · exact h4 x hx⟩

theorem open_tai {fuel : Nat} {r : List Value} {x : DataW H × List MemPlace} (hl : r.length = 3) (h : DataW.trod enc Try.prog w base spare held fuel 70 r = some x) : IsTai r := by
  match r, hl with
  | [v0, v1, v2], _ =>
    obtain ⟨a, rfl⟩ := str_at Try.underlying70 h 0 _ rfl Try.underlying9 cells9 v0 rfl
    obtain ⟨b, rfl⟩ := str_at Try.underlying70 h 1 _ rfl Try.underlying9 cells9 v1 rfl
    obtain ⟨c, rfl⟩ := int_at Try.underlying70 h 2 _ rfl Try.underlying22 cells22 v2 rfl
    exact ⟨a, b, c, rfl⟩
theorem open_sch {fuel : Nat} {r : List Value} {x : DataW H × List MemPlace} (hl : r.length = 3) (h : DataW.trod enc Try.prog w base spare held fuel 73 r = some x) : IsSch r := by
  match r, hl with
  | [v0, v1, v2], _ =>
    obtain ⟨a, rfl⟩ := str_at Try.underlying73 h 0 _ rfl Try.underlying9 cells9 v0 rfl
    obtain ⟨b, rfl⟩ := str_at Try.underlying73 h 1 _ rfl Try.underlying9 cells9 v1 rfl
    obtain ⟨c, rfl⟩ := int_at Try.underlying73 h 2 _ rfl Try.underlying71 cells71 v2 rfl
    exact ⟨a, b, c, rfl⟩
theorem open_can {fuel : Nat} {r : List Value} {x : DataW H × List MemPlace} (hl : r.length = 4) (h : DataW.trod enc Try.prog w base spare held fuel 75 r = some x) : IsCan r := by
  match r, hl with
  | [v0, v1, v2, v3], _ =>
    obtain ⟨a, rfl⟩ := str_at Try.underlying75 h 0 _ rfl Try.underlying9 cells9 v0 rfl
    obtain ⟨b, rfl⟩ := str_at Try.underlying75 h 1 _ rfl Try.underlying9 cells9 v1 rfl
    obtain ⟨c, rfl⟩ := int_at Try.underlying75 h 2 _ rfl Try.underlying71 cells71 v2 rfl
    obtain ⟨d, rfl⟩ := int_at Try.underlying75 h 3 _ rfl Try.underlying22 cells22 v3 rfl
    exact ⟨a, b, c, d, rfl⟩
theorem open_enb {fuel : Nat} {r : List Value} {x : DataW H × List MemPlace} (hl : r.length = 4) (h : DataW.trod enc Try.prog w base spare held fuel 77 r = some x) : IsEnb r := by
  match r, hl with
  | [v0, v1, v2, v3], _ =>
    obtain ⟨a, rfl⟩ := str_at Try.underlying77 h 0 _ rfl Try.underlying9 cells9 v0 rfl
    obtain ⟨b, rfl⟩ := str_at Try.underlying77 h 1 _ rfl Try.underlying9 cells9 v1 rfl
    obtain ⟨c, rfl⟩ := int_at Try.underlying77 h 2 _ rfl Try.underlying5 cells5 v2 rfl
    obtain ⟨d, rfl⟩ := int_at Try.underlying77 h 3 _ rfl Try.underlying71 cells71 v3 rfl
    exact ⟨a, b, c, d, rfl⟩
theorem open_cell {fuel : Nat} {r : List Value} {x : DataW H × List MemPlace} (hl : r.length = 9) (h : DataW.trod enc Try.prog w base spare held fuel 68 r = some x) : ∃ c : ZC, c.row = r ∧ True := by
  match r, hl with
  | [v0, v1, v2, v3, v4, v5, v6, v7, v8], _ =>
    obtain ⟨a0, rfl⟩ := str_at Try.underlying68 h 0 _ rfl Try.underlying9 cells9 v0 rfl
    obtain ⟨a1, rfl⟩ := str_at Try.underlying68 h 1 _ rfl Try.underlying9 cells9 v1 rfl
    obtain ⟨a2, rfl⟩ := int_at Try.underlying68 h 2 _ rfl Try.underlying22 cells22 v2 rfl
    obtain ⟨a3, rfl⟩ := int_at Try.underlying68 h 3 _ rfl Try.underlying22 cells22 v3 rfl
    obtain ⟨a4, rfl⟩ := int_at Try.underlying68 h 4 _ rfl Try.underlying3 cells3 v4 rfl
    obtain ⟨a5, rfl⟩ := str_at Try.underlying68 h 5 _ rfl Try.underlying9 cells9 v5 rfl
    obtain ⟨a6, rfl⟩ := bool_at Try.underlying68 h 6 _ rfl Try.underlying4 cells4 v6 rfl
    obtain ⟨a7, rfl⟩ := int_at Try.underlying68 h 7 _ rfl Try.underlying22 cells22 v7 rfl
    obtain ⟨a8, rfl⟩ := int_at Try.underlying68 h 8 _ rfl Try.underlying3 cells3 v8 rfl
    exact ⟨⟨a0, a1, a2, a3, a4, a5, a6, a7, a8⟩, rfl, trivial⟩

theorem open_peer {fuel : Nat} {r : List Value} {x : DataW H × List MemPlace} (hl : r.length = 14) (h : DataW.trod enc Try.prog w base spare held fuel 54 r = some x) : ∃ p : ZP, zrow p = r ∧ InOK w p := by
  match r, hl with
  | [v0, v1, v2, v3, v4, v5, v6, v7, v8, v9, v10, v11, v12, v13], _ =>
    obtain ⟨a0, rfl⟩ := str_at Try.underlying54 h 0 _ rfl Try.underlying9 cells9 v0 rfl
    obtain ⟨a1, rfl⟩ := int_at Try.underlying54 h 1 _ rfl Try.underlying3 cells3 v1 rfl
    obtain ⟨b2, c2, R2, rfl, n2, m2, i2, k2⟩ := rows_at Try.underlying54 h 2 _ rfl Try.underlying48 cells48 cells68 (by decide) v2 rfl
    obtain ⟨a3, rfl⟩ := bool_at Try.underlying54 h 3 _ rfl Try.underlying4 cells4 v3 rfl
    obtain ⟨a4, rfl⟩ := bool_at Try.underlying54 h 4 _ rfl Try.underlying4 cells4 v4 rfl
    obtain ⟨a5, rfl⟩ := str_at Try.underlying54 h 5 _ rfl Try.underlying9 cells9 v5 rfl
    obtain ⟨b6, c6, R6, rfl, n6, m6, i6, k6⟩ := rows_at Try.underlying54 h 6 _ rfl Try.underlying49 cells49 cells70 (by decide) v6 rfl
    obtain ⟨a7, rfl⟩ := bool_at Try.underlying54 h 7 _ rfl Try.underlying4 cells4 v7 rfl
    obtain ⟨a8, rfl⟩ := int_at Try.underlying54 h 8 _ rfl Try.underlying3 cells3 v8 rfl
    obtain ⟨a9, rfl⟩ := str_at Try.underlying54 h 9 _ rfl Try.underlying9 cells9 v9 rfl
    obtain ⟨b10, c10, R10, rfl, n10, m10, i10, k10⟩ := rows_at Try.underlying54 h 10 _ rfl Try.underlying50 cells50 cells73 (by decide) v10 rfl
    obtain ⟨b11, c11, R11, rfl, n11, m11, i11, k11⟩ := rows_at Try.underlying54 h 11 _ rfl Try.underlying51 cells51 cells75 (by decide) v11 rfl
    obtain ⟨b12, c12, R12, rfl, n12, m12, i12, k12⟩ := rows_at Try.underlying54 h 12 _ rfl Try.underlying52 cells52 cells77 (by decide) v12 rfl
    obtain ⟨a13, rfl⟩ := int_at Try.underlying54 h 13 _ rfl Try.underlying3 cells3 v13 rfl
    obtain ⟨L2, hL2, _⟩ := map_of (f := ZC.row) (p := fun _ => True) R2 (fun r hr => by obtain ⟨h1, n, y, h2⟩ := k2 r hr; exact open_cell h1 h2)
    have e2 : L2.length = R2.length := by rw [← hL2]; simp
    refine ⟨⟨a0, a1, b2, c2, L2, a3, a4, a5, b6, c6, R6, a7, a8, a9, b10, c10, R10, b11, c11, R11, b12, c12, R12, a13⟩, by simp [zrow, prow, e2], ?_⟩
    exact {
      i2 := by rw [hL2]; exact i2
      i6 := i6
      i10 := i10
      i11 := i11
      i12 := i12
      n2 := fun hb => by
        obtain ⟨h1, h2⟩ := n2 hb
        rw [h1] at e2
        exact ⟨List.eq_nil_of_length_eq_zero e2, h2⟩
      n6 := n6
      n10 := n10
      n11 := n11
      n12 := n12
      k6 := fun r hr => by obtain ⟨h1, n, y, h2⟩ := k6 r hr; exact open_tai h1 h2
      k10 := fun r hr => by obtain ⟨h1, n, y, h2⟩ := k10 r hr; exact open_sch h1 h2
      k11 := fun r hr => by obtain ⟨h1, n, y, h2⟩ := k11 r hr; exact open_can h1 h2
      k12 := fun r hr => by obtain ⟨h1, n, y, h2⟩ := k12 r hr; exact open_enb h1 h2 }

/-- THE PEERS, OPENED. -/
theorem open_peers {v : Value} {fuel : Nat} {x : DataW H × List MemPlace} (h : DataW.trod enc Try.prog w base spare held fuel 23 [v] = some x) :
    ∃ (a : Option Addr) (cap : Nat) (ps : List ZP), v = .slice a ps.length cap ∧ ps.length ≤ maxLen ∧ PIn w a cap ps := by
  obtain ⟨a, cap, rows, e, hn, hm, hi, hk⟩ := open_rows Try.underlying23 cells54 (by decide) h
  obtain ⟨ps, hps, hok⟩ := map_of (f := zrow) (p := fun p => InOK w p) rows (fun r hr => by obtain ⟨h1, n, y, h2⟩ := hk r hr; exact open_peer h1 h2)
  have el : ps.length = rows.length := by rw [← hps]; simp
  refine ⟨a, cap, ps, by rw [el]; simpa using e, by omega, ⟨by rw [hps]; exact hi, fun h => ?_, hok⟩⟩
  obtain ⟨h1, h2⟩ := hn h
  rw [h1] at el
  exact ⟨List.eq_nil_of_length_eq_zero el, h2⟩
end
end Go.Proofs.Qxb6616460a

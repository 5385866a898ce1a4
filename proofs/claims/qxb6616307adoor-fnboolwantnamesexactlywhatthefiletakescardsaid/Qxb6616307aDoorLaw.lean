import Derived.Test.Qxb6616307aDoorWalks
namespace Go.Proofs.Qxb6616307aDoor
open Go.RowKit
set_option linter.unusedVariables false
theorem toList_false (s : ByteArray) (l : List UInt8) (h : s ≠ ⟨l.toArray⟩) : (s.toList == l) = false := by
  rw [ByteArray.toList_eq, beq_eq_false_iff_ne]
  intro e
  exact h (by cases s; subst e; rfl)

theorem conv_back (s : ByteArray) (B cap : Nat) (w : World) (hs : ∀ j, j < s.size → w.cell? ⟨B, j, none⟩ = some (.int .u8 (s.data.toList.getD j 0).toNat)) :
    (convert 33 9 (.slice (some ⟨B, 0, none⟩) s.size cap)).run Tryd.prog w = .ok (.string s) w := by
  have h := run_convert_bytes_back (P := Tryd.prog) w 33 9 5 ⟨B, 0, none⟩ cap s.data.toList Tryd.underlying33 Tryd.underlying5 Tryd.underlying9 (fun j hj => by
    have hj' : j < s.size := by simpa using hj
    have e : (⟨B, 0, none⟩ : Addr).add j = ⟨B, j, none⟩ := by unfold Addr.add; split <;> simp_all
    rw [e, hs j hj']
    simp [List.getD, List.getElem?_eq_getElem hj])
  simpa using h

theorem json_t (s : ByteArray) (b B cap : Nat) (x : Value) (w : World) (hs : s = ⟨#[116, 114, 117, 101]⟩) (hb : b < w.heap.size) (hB : B < w.heap.size) (hc : w.cell? ⟨b, 0, none⟩ = some x) (hf : w.frozen? ⟨b, 0, none⟩ = false)
    (hcs : ∀ j, j < s.size → w.cell? ⟨B, j, none⟩ = some (.int .u8 (s.data.toList.getD j 0).toNat)) :
    Calls Tryd.prog 10 #[.agg #[.pointer (some ⟨b, 0, none⟩)], .slice (some ⟨B, 0, none⟩) s.size cap] w fun e w' => e = .returned (.bool true) ∧ w'.cell? ⟨b, 0, none⟩ = some (.bool true) ∧ Below b w w' := by
  have hcv : ∀ o, (convert 33 9 (.slice (some ⟨B, 0, none⟩) s.size cap)).run Tryd.prog (w.alloc o) = .ok (.string s) (w.alloc o) := fun o => conv_back s B cap _ (fun j hj => by
    rw [← hcs j hj]; exact ((Below.refl w.heap.size w).alloc (Nat.le_refl _) o).cell (p := ⟨B, j, none⟩) hB)
  clear hcs
  have bel := (Below.refl w.heap.size w).alloc (Nat.le_refl _) (.cells #[.pointer (some ⟨b, 0, none⟩)] 30)
  have HC : Hid ((w.alloc (.cells #[.pointer (some ⟨b, 0, none⟩)] 30)).cell? ⟨b, 0, none⟩ = some x) := (bel.cell (p := ⟨b, 0, none⟩) hb).trans hc
  have HF : Hid ((w.alloc (.cells #[.pointer (some ⟨b, 0, none⟩)] 30)).frozen? ⟨b, 0, none⟩ = false) := (bel.frozen (p := ⟨b, 0, none⟩) hb).trans hf
  have HB : Hid (Below w.heap.size w (w.alloc (.cells #[.pointer (some ⟨b, 0, none⟩)] 30))) := bel
  clear bel hc hf
  generalize s.size = n at hcv
  subst hs
  go_enter Tryd.func10, Tryd.ntmps10
  go_wp2_with fail
  refine (text_t b x _ (by simp; omega) HC.out HF.out).mono ?_
  rintro e w' ⟨rfl, h1, h2⟩
  have H1 : Hid (w'.cell? ⟨b, 0, none⟩ = some (.bool true)) := h1
  have H2 : Hid (Below b (w.alloc (.cells #[.pointer (some ⟨b, 0, none⟩)] 30)) w') := h2
  clear h1 h2
  go_wp2
  go_ret
  exact ⟨rfl, H1.out, (HB.out.mono (by omega)).trans H2.out⟩

theorem json_f (s : ByteArray) (b B cap : Nat) (x : Value) (w : World) (hs : s = ⟨#[102, 97, 108, 115, 101]⟩) (hb : b < w.heap.size) (hB : B < w.heap.size) (hc : w.cell? ⟨b, 0, none⟩ = some x) (hf : w.frozen? ⟨b, 0, none⟩ = false)
    (hcs : ∀ j, j < s.size → w.cell? ⟨B, j, none⟩ = some (.int .u8 (s.data.toList.getD j 0).toNat)) :
    Calls Tryd.prog 10 #[.agg #[.pointer (some ⟨b, 0, none⟩)], .slice (some ⟨B, 0, none⟩) s.size cap] w fun e w' => e = .returned (.bool true) ∧ w'.cell? ⟨b, 0, none⟩ = some (.bool false) ∧ Below b w w' := by
  have hcv : ∀ o, (convert 33 9 (.slice (some ⟨B, 0, none⟩) s.size cap)).run Tryd.prog (w.alloc o) = .ok (.string s) (w.alloc o) := fun o => conv_back s B cap _ (fun j hj => by
    rw [← hcs j hj]; exact ((Below.refl w.heap.size w).alloc (Nat.le_refl _) o).cell (p := ⟨B, j, none⟩) hB)
  clear hcs
  have bel := (Below.refl w.heap.size w).alloc (Nat.le_refl _) (.cells #[.pointer (some ⟨b, 0, none⟩)] 30)
  have HC : Hid ((w.alloc (.cells #[.pointer (some ⟨b, 0, none⟩)] 30)).cell? ⟨b, 0, none⟩ = some x) := (bel.cell (p := ⟨b, 0, none⟩) hb).trans hc
  have HF : Hid ((w.alloc (.cells #[.pointer (some ⟨b, 0, none⟩)] 30)).frozen? ⟨b, 0, none⟩ = false) := (bel.frozen (p := ⟨b, 0, none⟩) hb).trans hf
  have HB : Hid (Below w.heap.size w (w.alloc (.cells #[.pointer (some ⟨b, 0, none⟩)] 30))) := bel
  clear bel hc hf
  generalize s.size = n at hcv
  subst hs
  go_enter Tryd.func10, Tryd.ntmps10
  go_wp2_with fail
  refine (text_f b x _ (by simp; omega) HC.out HF.out).mono ?_
  rintro e w' ⟨rfl, h1, h2⟩
  have H1 : Hid (w'.cell? ⟨b, 0, none⟩ = some (.bool false)) := h1
  have H2 : Hid (Below b (w.alloc (.cells #[.pointer (some ⟨b, 0, none⟩)] 30)) w') := h2
  clear h1 h2
  go_wp2
  go_ret
  exact ⟨rfl, H1.out, (HB.out.mono (by omega)).trans H2.out⟩

theorem json_o (s : ByteArray) (b B cap : Nat) (w : World) (h1 : s ≠ ⟨#[116, 114, 117, 101]⟩) (h2 : s ≠ ⟨#[102, 97, 108, 115, 101]⟩) (hB : B < w.heap.size)
    (hcs : ∀ j, j < s.size → w.cell? ⟨B, j, none⟩ = some (.int .u8 (s.data.toList.getD j 0).toNat)) :
    Calls Tryd.prog 10 #[.agg #[.pointer (some ⟨b, 0, none⟩)], .slice (some ⟨B, 0, none⟩) s.size cap] w fun e w' => e = .returned (.bool false) ∧ Below w.heap.size w w' := by
  have hcv : ∀ o, (convert 33 9 (.slice (some ⟨B, 0, none⟩) s.size cap)).run Tryd.prog (w.alloc o) = .ok (.string s) (w.alloc o) := fun o => conv_back s B cap _ (fun j hj => by
    rw [← hcs j hj]; exact ((Below.refl w.heap.size w).alloc (Nat.le_refl _) o).cell (p := ⟨B, j, none⟩) hB)
  clear hcs
  have g1 := toList_false s [116, 114, 117, 101] h1
  have g2 := toList_false s [102, 97, 108, 115, 101] h2
  clear h1 h2
  go_enter Tryd.func10, Tryd.ntmps10
  go_wp2
  go_ret
  exact ⟨rfl, (Below.refl _ _).alloc (Nat.le_refl _) _⟩

/-- What the conversion to bytes leaves. -/
theorem conv_to (s : ByteArray) (w : World) : ∃ cap W1, (convert 9 33 (.string s)).run Tryd.prog w = .ok (.slice (some ⟨w.heap.size, 0, none⟩) s.size cap) W1 ∧ Below w.heap.size w W1 ∧ w.heap.size < W1.heap.size ∧
    ∀ j, j < s.size → W1.cell? ⟨w.heap.size, j, none⟩ = some (.int .u8 (s.data.toList.getD j 0).toNat) :=
  ⟨_, Lib.bytesWorld w 5 s, Lib.run_convert_string_bytes (P := Tryd.prog) w 9 33 5 s (u := .string) Tryd.underlying9 Tryd.underlying33 Tryd.underlying5,
    ⟨rfl, rfl, rfl, by rw [Lib.bytesWorld_size]; omega, fun k hk => Lib.bytesWorld_at_old w 5 s k hk⟩,
    by rw [Lib.bytesWorld_size]; omega, Lib.bytesWorld_cell w 5 s⟩

theorem set_t (s : ByteArray) (b : Nat) (x : Value) (w : World) (hs : s = ⟨#[116, 114, 117, 101]⟩) (hb : b < w.heap.size) (hc : w.cell? ⟨b, 0, none⟩ = some x) (hf : w.frozen? ⟨b, 0, none⟩ = false) :
    Calls Tryd.prog 6 #[.pointer (some ⟨b, 0, none⟩), .string s] w fun e w' => e = .returned (.bool true) ∧ w'.cell? ⟨b, 0, none⟩ = some (.bool true) ∧ Below b w w' := by
  have HS0 : Hid (s = ⟨#[116, 114, 117, 101]⟩) := hs
  clear hs
  obtain ⟨cap, W1, hcv, hW, hN, hS⟩ := conv_to s w
  have HC : Hid (W1.cell? ⟨b, 0, none⟩ = some x) := (hW.cell (p := ⟨b, 0, none⟩) hb).trans hc
  have HF : Hid (W1.frozen? ⟨b, 0, none⟩ = false) := (hW.frozen (p := ⟨b, 0, none⟩) hb).trans hf
  have HW : Hid (Below w.heap.size w W1) := hW
  have HN : Hid (w.heap.size < W1.heap.size) := hN
  have HS : Hid (∀ j, j < s.size → W1.cell? ⟨w.heap.size, j, none⟩ = some (.int .u8 (s.data.toList.getD j 0).toNat)) := hS
  clear hW hN hS hc hf
  go_enter Tryd.func6, Tryd.ntmps6
  go_wp2_with fail
  refine (json_t s b w.heap.size cap x W1 HS0.out (Nat.lt_trans hb HN.out) HN.out HC.out HF.out HS.out).mono ?_
  rintro e w' ⟨rfl, h1, h2⟩
  have H1 : Hid (w'.cell? ⟨b, 0, none⟩ = some (.bool true)) := h1
  have H2 : Hid (Below b W1 w') := h2
  clear h1 h2
  go_wp2
  go_ret
  exact ⟨rfl, H1.out, (HW.out.mono (by omega)).trans H2.out⟩

theorem set_f (s : ByteArray) (b : Nat) (x : Value) (w : World) (hs : s = ⟨#[102, 97, 108, 115, 101]⟩) (hb : b < w.heap.size) (hc : w.cell? ⟨b, 0, none⟩ = some x) (hf : w.frozen? ⟨b, 0, none⟩ = false) :
    Calls Tryd.prog 6 #[.pointer (some ⟨b, 0, none⟩), .string s] w fun e w' => e = .returned (.bool true) ∧ w'.cell? ⟨b, 0, none⟩ = some (.bool false) ∧ Below b w w' := by
  have HS0 : Hid (s = ⟨#[102, 97, 108, 115, 101]⟩) := hs
  clear hs
  obtain ⟨cap, W1, hcv, hW, hN, hS⟩ := conv_to s w
  have HC : Hid (W1.cell? ⟨b, 0, none⟩ = some x) := (hW.cell (p := ⟨b, 0, none⟩) hb).trans hc
  have HF : Hid (W1.frozen? ⟨b, 0, none⟩ = false) := (hW.frozen (p := ⟨b, 0, none⟩) hb).trans hf
  have HW : Hid (Below w.heap.size w W1) := hW
  have HN : Hid (w.heap.size < W1.heap.size) := hN
  have HS : Hid (∀ j, j < s.size → W1.cell? ⟨w.heap.size, j, none⟩ = some (.int .u8 (s.data.toList.getD j 0).toNat)) := hS
  clear hW hN hS hc hf
  go_enter Tryd.func6, Tryd.ntmps6
  go_wp2_with fail
  refine (json_f s b w.heap.size cap x W1 HS0.out (Nat.lt_trans hb HN.out) HN.out HC.out HF.out HS.out).mono ?_
  rintro e w' ⟨rfl, h1, h2⟩
  have H1 : Hid (w'.cell? ⟨b, 0, none⟩ = some (.bool false)) := h1
  have H2 : Hid (Below b W1 w') := h2
  clear h1 h2
  go_wp2
  go_ret
  exact ⟨rfl, H1.out, (HW.out.mono (by omega)).trans H2.out⟩

theorem set_o (s : ByteArray) (b : Nat) (w : World) (h1 : s ≠ ⟨#[116, 114, 117, 101]⟩) (h2 : s ≠ ⟨#[102, 97, 108, 115, 101]⟩) :
    Calls Tryd.prog 6 #[.pointer (some ⟨b, 0, none⟩), .string s] w fun e w' => e = .returned (.bool false) ∧ Below w.heap.size w w' := by
  obtain ⟨cap, W1, hcv, hW, hN, hS⟩ := conv_to s w
  have HW : Hid (Below w.heap.size w W1) := hW
  have HN : Hid (w.heap.size < W1.heap.size) := hN
  have HS : Hid (∀ j, j < s.size → W1.cell? ⟨w.heap.size, j, none⟩ = some (.int .u8 (s.data.toList.getD j 0).toNat)) := hS
  clear hW hN hS
  go_enter Tryd.func6, Tryd.ntmps6
  go_wp2_with fail
  refine (json_o s b w.heap.size cap W1 h1 h2 HN.out HS.out).mono ?_
  rintro e w' ⟨rfl, h2⟩
  have H2 : Hid (Below W1.heap.size W1 w') := h2
  clear h2
  go_wp2
  go_ret
  exact ⟨rfl, HW.out.trans (H2.out.mono (by have := HW.out.size; omega))⟩


theorem bcell {W w1 : World} {B : Nat} (hb : Below B W w1) : (∀ b o, b < B → w1.cell? ⟨b, o, none⟩ = W.cell? ⟨b, o, none⟩) ∧ (∀ b o, b < B → w1.frozen? ⟨b, o, none⟩ = W.frozen? ⟨b, o, none⟩) :=
  ⟨fun b o h => hb.cell (p := ⟨b, o, none⟩) h, fun b o h => hb.frozen (p := ⟨b, o, none⟩) h⟩

set_option maxHeartbeats 1000000 in
theorem law_t (s : ByteArray) (st : Bool) (w : World) (hs : s = ⟨#[116, 114, 117, 101]⟩) :
    Calls Tryd.prog 3 #[.string s, .bool st] w fun e w' => e = .returned (.bool true) ∧ Below w.heap.size w w' := by
  have hm : s.size ≤ maxLen := by subst hs; decide
  have HZ : Hid (∀ w : World, Calls Tryd.prog 5 #[.string s, .bool st] w fun e w' => (∃ r, e = .returned (.bool r)) ∧ w' = w) := fun w => bytes_any s st w hm
  clear hm
  subst hs
  go_enter Tryd.func3, Tryd.ntmps3
  go_wp2_with fail
  refine (HZ.out _).mono ?_
  clear HZ
  rintro e w1 ⟨⟨r, rfl⟩, rfl⟩
  cases r
  · go_wp2
    go_ret
    exact ⟨rfl, Below.refl _ _⟩
  go_wp2_with fail
  all_goals try (go_ret; exact ⟨rfl, Below.refl _ _⟩)
  have hc0 : ∀ c : Value, (w1.alloc (.cells #[c] 4)).cell? ⟨w1.heap.size, 0, none⟩ = some c := fun c => by simp [go_sem]
  have hf0 : ∀ c : Value, (w1.alloc (.cells #[c] 4)).frozen? ⟨w1.heap.size, 0, none⟩ = false := fun c => by simp [go_sem]
  refine (set_t _ w1.heap.size (.bool st) _ rfl (by simp) (hc0 _) (hf0 _)).mono ?_
  clear hc0 hf0
  rintro e w2 ⟨rfl, hc, hb⟩
  have hsz : w1.heap.size < w2.heap.size := by have := hb.size; simp at this; omega
  have HB : Hid (Below w1.heap.size w1 w2) := ((Below.refl w1.heap.size w1).alloc (Nat.le_refl _) (.cells #[.bool st] 4)).trans hb
  clear hb
  have HC : Hid (w2.cell? ⟨w1.heap.size, 0, none⟩ = some (.bool true)) := hc
  clear hc
  go_wp2_with fail
  refine (want_any _ _).mono ?_
  rintro e w3 ⟨rfl, hb3⟩
  have hq : w3.cell? ⟨w2.heap.size, 0, none⟩ = some (.bool st) := by
    rw [hb3.cell (p := ⟨w2.heap.size, 0, none⟩) (by simp)]; simp [go_sem]
  have hp : w3.cell? ⟨w1.heap.size, 0, none⟩ = some (.bool true) := by
    rw [hb3.cell (p := ⟨w1.heap.size, 0, none⟩) (by simp; omega), ((Below.refl w2.heap.size w2).alloc (Nat.le_refl _) _).cell (p := ⟨w1.heap.size, 0, none⟩) hsz]; exact HC.out
  have HE : Hid (Below w1.heap.size w1 w3) := HB.out.trans ((((Below.refl w2.heap.size w2).alloc (Nat.le_refl _) (.cells #[.bool st] 4)).trans (hb3.mono (by simp))).mono (by omega))
  clear hb3
  go_wp2_with fail
  refine (split_any _).mono ?_
  rintro e w4 ⟨rfl, n, rfl⟩
  go_wp2
  go_ret
  exact ⟨rfl, HE.out.trans ⟨rfl, rfl, rfl, Nat.le_refl _, fun _ _ => rfl⟩⟩

set_option maxHeartbeats 1000000 in
theorem law_f (s : ByteArray) (st : Bool) (w : World) (hs : s = ⟨#[102, 97, 108, 115, 101]⟩) :
    Calls Tryd.prog 3 #[.string s, .bool st] w fun e w' => e = .returned (.bool true) ∧ Below w.heap.size w w' := by
  have hm : s.size ≤ maxLen := by subst hs; decide
  have HZ : Hid (∀ w : World, Calls Tryd.prog 5 #[.string s, .bool st] w fun e w' => (∃ r, e = .returned (.bool r)) ∧ w' = w) := fun w => bytes_any s st w hm
  clear hm
  subst hs
  go_enter Tryd.func3, Tryd.ntmps3
  go_wp2_with fail
  refine (HZ.out _).mono ?_
  clear HZ
  rintro e w1 ⟨⟨r, rfl⟩, rfl⟩
  cases r
  · go_wp2
    go_ret
    exact ⟨rfl, Below.refl _ _⟩
  go_wp2_with fail
  all_goals try (go_ret; exact ⟨rfl, Below.refl _ _⟩)
  have hc0 : ∀ c : Value, (w1.alloc (.cells #[c] 4)).cell? ⟨w1.heap.size, 0, none⟩ = some c := fun c => by simp [go_sem]
  have hf0 : ∀ c : Value, (w1.alloc (.cells #[c] 4)).frozen? ⟨w1.heap.size, 0, none⟩ = false := fun c => by simp [go_sem]
  refine (set_f _ w1.heap.size (.bool st) _ rfl (by simp) (hc0 _) (hf0 _)).mono ?_
  clear hc0 hf0
  rintro e w2 ⟨rfl, hc, hb⟩
  have hsz : w1.heap.size < w2.heap.size := by have := hb.size; simp at this; omega
  have HB : Hid (Below w1.heap.size w1 w2) := ((Below.refl w1.heap.size w1).alloc (Nat.le_refl _) (.cells #[.bool st] 4)).trans hb
  clear hb
  have HC : Hid (w2.cell? ⟨w1.heap.size, 0, none⟩ = some (.bool false)) := hc
  clear hc
  go_wp2_with fail
  refine (want_any _ _).mono ?_
  rintro e w3 ⟨rfl, hb3⟩
  have hq : w3.cell? ⟨w2.heap.size, 0, none⟩ = some (.bool st) := by
    rw [hb3.cell (p := ⟨w2.heap.size, 0, none⟩) (by simp)]; simp [go_sem]
  have hp : w3.cell? ⟨w1.heap.size, 0, none⟩ = some (.bool false) := by
    rw [hb3.cell (p := ⟨w1.heap.size, 0, none⟩) (by simp; omega), ((Below.refl w2.heap.size w2).alloc (Nat.le_refl _) _).cell (p := ⟨w1.heap.size, 0, none⟩) hsz]; exact HC.out
  have HE : Hid (Below w1.heap.size w1 w3) := HB.out.trans ((((Below.refl w2.heap.size w2).alloc (Nat.le_refl _) (.cells #[.bool st] 4)).trans (hb3.mono (by simp))).mono (by omega))
  clear hb3
  go_wp2_with fail
  refine (split_any _).mono ?_
  rintro e w4 ⟨rfl, n, rfl⟩
  go_wp2
  go_ret
  exact ⟨rfl, HE.out.trans ⟨rfl, rfl, rfl, Nat.le_refl _, fun _ _ => rfl⟩⟩

set_option maxHeartbeats 1000000 in
theorem law_o (s : ByteArray) (st : Bool) (w : World) (hm : s.size ≤ maxLen) (h1 : s ≠ ⟨#[116, 114, 117, 101]⟩) (h2 : s ≠ ⟨#[102, 97, 108, 115, 101]⟩) :
    Calls Tryd.prog 3 #[.string s, .bool st] w fun e w' => e = .returned (.bool true) ∧ Below w.heap.size w w' := by
  have HZ : Hid (∀ w : World, Calls Tryd.prog 5 #[.string s, .bool st] w fun e w' => (∃ r, e = .returned (.bool r)) ∧ w' = w) := fun w => bytes_any s st w hm
  unfold maxLen at hm
  have g1 := toList_false s [116, 114, 117, 101] h1
  have g2 := toList_false s [102, 97, 108, 115, 101] h2
  have HS : Hid (∀ (b : Nat) (w : World), Calls Tryd.prog 6 #[.pointer (some ⟨b, 0, none⟩), .string s] w fun e w' => e = .returned (.bool false) ∧ Below w.heap.size w w') := fun b w => set_o s b w h1 h2
  clear h1 h2
  go_enter Tryd.func3, Tryd.ntmps3
  go_wp2_with fail
  refine (HZ.out _).mono ?_
  clear HZ
  rintro e w1 ⟨⟨r, rfl⟩, rfl⟩
  cases r
  · go_wp2
    go_ret
    exact ⟨rfl, Below.refl _ _⟩
  go_wp2_with fail
  all_goals try (go_ret; exact ⟨rfl, Below.refl _ _⟩)
  have hc0 : ∀ c : Value, (w1.alloc (.cells #[c] 4)).cell? ⟨w1.heap.size, 0, none⟩ = some c := fun c => by simp [go_sem]
  refine (HS.out w1.heap.size _).mono ?_
  rintro e w2 ⟨rfl, hb⟩
  have hc : w2.cell? ⟨w1.heap.size, 0, none⟩ = some (.bool st) := (hb.cell (p := ⟨w1.heap.size, 0, none⟩) (by simp)).trans (hc0 _)
  have hsz : w1.heap.size < w2.heap.size := by have := hb.size; simp at this; omega
  have HB : Hid (Below w1.heap.size w1 w2) := ((Below.refl w1.heap.size w1).alloc (Nat.le_refl _) (.cells #[.bool st] 4)).trans (hb.mono (by simp))
  clear hb hc0 HS
  have HC : Hid (w2.cell? ⟨w1.heap.size, 0, none⟩ = some (.bool st)) := hc
  clear hc
  go_wp2_with fail
  refine (want_any _ _).mono ?_
  rintro e w3 ⟨rfl, hb3⟩
  have hq : w3.cell? ⟨w2.heap.size, 0, none⟩ = some (.bool st) := by
    rw [hb3.cell (p := ⟨w2.heap.size, 0, none⟩) (by simp)]; simp [go_sem]
  have hp : w3.cell? ⟨w1.heap.size, 0, none⟩ = some (.bool st) := by
    rw [hb3.cell (p := ⟨w1.heap.size, 0, none⟩) (by simp; omega), ((Below.refl w2.heap.size w2).alloc (Nat.le_refl _) _).cell (p := ⟨w1.heap.size, 0, none⟩) hsz]; exact HC.out
  have HE : Hid (Below w1.heap.size w1 w3) := HB.out.trans ((((Below.refl w2.heap.size w2).alloc (Nat.le_refl _) (.cells #[.bool st] 4)).trans (hb3.mono (by simp))).mono (by omega))
  clear hb3
  go_wp2_with fail
  refine (split_any _).mono ?_
  rintro e w4 ⟨rfl, n, rfl⟩
  go_wp2
  go_ret
  exact ⟨rfl, HE.out.trans ⟨rfl, rfl, rfl, Nat.le_refl _, fun _ _ => rfl⟩⟩

/-- THE WALK OF THE LAW. -/
theorem law_any (s : ByteArray) (st : Bool) (w : World) (hm : s.size ≤ maxLen) :
    Calls Tryd.prog 3 #[.string s, .bool st] w fun e w' => e = .returned (.bool true) ∧ Below w.heap.size w w' := by
  by_cases h1 : s = ⟨#[116, 114, 117, 101]⟩
  · exact law_t s st w h1
  · by_cases h2 : s = ⟨#[102, 97, 108, 115, 101]⟩
    · exact law_f s st w h2
    · exact law_o s st w hm h1 h2
end Go.Proofs.Qxb6616307aDoor

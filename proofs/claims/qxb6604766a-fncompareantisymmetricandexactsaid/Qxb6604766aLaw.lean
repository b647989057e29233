import Derived.Test.Qxb6604766aWalks
namespace Go.Proofs.Qxb6604766a
open Go.RowKit

theorem or5_neg (a b c d e : Int) : or5 (-a) (-b) (-c) (-d) (-e) = - or5 a b c d e := by
  unfold or5
  by_cases h0 : a = 0 <;> by_cases h1 : b = 0 <;> by_cases h2 : c = 0 <;> by_cases h3 : d = 0 <;> simp [h0, h1, h2, h3]
theorem or5_zero (a b c d e : Int) : or5 a b c d e = 0 ↔ a = 0 ∧ b = 0 ∧ c = 0 ∧ d = 0 ∧ e = 0 := by
  unfold or5
  by_cases h0 : a = 0 <;> by_cases h1 : b = 0 <;> by_cases h2 : c = 0 <;> by_cases h3 : d = 0 <;> simp [h0, h1, h2, h3]
theorem or5_bd (a b c d e : Int) (ha : -1 ≤ a ∧ a ≤ 1) (hb : -1 ≤ b ∧ b ≤ 1) (hc : -1 ≤ c ∧ c ≤ 1) (hd : -1 ≤ d ∧ d ≤ 1) (he : -1 ≤ e ∧ e ≤ 1) : -1 ≤ or5 a b c d e ∧ or5 a b c d e ≤ 1 := by
  unfold or5; split; exact ha; split; exact hb; split; exact hc; split; exact hd; exact he

theorem grown_trans {a b c : World} (h : Grown a b) (k : Grown b c) : Grown a c :=
  ⟨World.keptBut_trans h.1 k.1, fun p => (k.2.1 p).trans (h.2.1 p), Nat.le_trans h.2.2 k.2.2⟩

theorem ret_bool {a b : Bool} (h : a = b) : Ending.returned (.bool a) = .returned (.bool b) := by rw [h]
theorem zero_yes {c : Int} (h : c = 0) : (c == 0) = true := by simp [h]
theorem zero_no {c : Int} (h : ¬ c = 0) : (!c == 0) = true := by simp [h]
theorem laid2 {w w1 : World} (A B : Array Value) (t : TypeId) (hb : Below ((w.alloc (.cells A t)).alloc (.cells B t)).heap.size ((w.alloc (.cells A t)).alloc (.cells B t)) w1) (j : Nat) :
    w1.cell? ⟨w.heap.size, j, none⟩ = A[j]? ∧ w1.cell? ⟨w.heap.size + 1, j, none⟩ = B[j]? := by
  constructor
  · rw [hb.cell (p := ⟨w.heap.size, j, none⟩) (by simp; omega)]
    rw [World.cell?_alloc_lt _ _ _ (by simp)]
    exact cell_of_row _ _ _ _ t (0, 0) (heap_alloc_new _ _)
  · rw [hb.cell (p := ⟨w.heap.size + 1, j, none⟩) (by simp)]
    simp

set_option maxRecDepth 100000 in
set_option maxHeartbeats 1000000 in
theorem law_core (a0 : ByteArray) (a1 : Int) (a2 : Int) (a3 : ByteArray) (a4 : ByteArray) (a5 : ByteArray) (a6 : Int) (a7 : Int) (a8 : ByteArray) (a9 : ByteArray) (w : World)
    (w0 : a0.size ≤ 131072) (w3 : a3.size ≤ 131072) (w4 : a4.size ≤ 131072) (w5 : a5.size ≤ 131072) (w8 : a8.size ≤ 131072) (w9 : a9.size ≤ 131072) :
    Calls Try.prog 5 #[.string a0, .int .i64 a1, .int .i64 a2, .string a3, .string a4, .string a5, .int .i64 a6, .int .i64 a7, .string a8, .string a9] w fun e w' => e = .returned (.bool true) ∧ Grown w w' := by
  have hz : (cS a0 a5 = 0 ∧ cI a1 a6 = 0 ∧ cI a2 a7 = 0 ∧ cS a3 a8 = 0 ∧ cS a4 a9 = 0) ↔ _ := Iff.rfl
  have hsw := or5_neg (cS a0 a5) (cI a1 a6) (cI a2 a7) (cS a3 a8) (cS a4 a9)
  rw [← cS_swap, ← cI_swap, ← cI_swap, ← cS_swap, ← cS_swap] at hsw
  have hbd := or5_bd _ _ _ _ _ (cS_bd a0 a5) (cI_bd a1 a6) (cI_bd a2 a7) (cS_bd a3 a8) (cS_bd a4 a9)
  have H1 := compare_any a0 a1 a2 a3 a4 a5 a6 a7 a8 a9
  have H2 := compare_any a5 a6 a7 a8 a9 a0 a1 a2 a3 a4
  rw [hsw] at H2
  have hzero := or5_zero (cS a0 a5) (cI a1 a6) (cI a2 a7) (cS a3 a8) (cS a4 a9)
  rw [cS_zero, cI_zero, cI_zero, cS_zero, cS_zero] at hzero
  generalize or5 (cS a0 a5) (cI a1 a6) (cI a2 a7) (cS a3 a8) (cS a4 a9) = c at *
  simp only [beq_iff_eq] at hzero
  have HZ : Hid (c = 0 ↔ a0.toList = a5.toList ∧ a1 = a6 ∧ a2 = a7 ∧ a3.toList = a8.toList ∧ a4.toList = a9.toList) := hzero
  have K1 : Hid (∀ w, Calls Try.prog 14 #[.agg #[.string a0, .int .i64 a1, .int .i64 a2, .string a3, .string a4], .agg #[.string a5, .int .i64 a6, .int .i64 a7, .string a8, .string a9]] w fun e w' => e = .returned (.int .i64 c) ∧ Grown w w' ∧ Below w.heap.size w w') := H1
  have K2 : Hid (∀ w, Calls Try.prog 14 #[.agg #[.string a5, .int .i64 a6, .int .i64 a7, .string a8, .string a9], .agg #[.string a0, .int .i64 a1, .int .i64 a2, .string a3, .string a4]] w fun e w' => e = .returned (.int .i64 (-c)) ∧ Grown w w' ∧ Below w.heap.size w w') := H2
  obtain ⟨hb1, hb2⟩ := hbd
  clear hz hsw H1 H2 hzero
  go_enter Try.func5, Try.ntmps5
  go_wp2_with (first | (go_at_call 14; refine (K1.out _).mono ?_) | go_in)
  rintro e w1 ⟨rfl, hg1, hB1⟩
  have hl1 := laid2 _ _ _ hB1
  have hG1 : Grown w w1 := grown_trans (((Grown.refl _).alloc _ _).alloc _ _) hg1
  have hlt : w.heap.size + 1 < w1.heap.size := by have := hB1.size; simp at this; omega
  clear hg1 hB1
  have x0 := (hl1 0).1; have x1 := (hl1 1).1; have x2 := (hl1 2).1; have x3 := (hl1 3).1; have x4 := (hl1 4).1
  have y0 := (hl1 0).2; have y1 := (hl1 1).2; have y2 := (hl1 2).2; have y3 := (hl1 3).2; have y4 := (hl1 4).2
  simp at x0 x1 x2 x3 x4 y0 y1 y2 y3 y4
  go_wp2_with (go_at_call 14; refine (K2.out _).mono ?_)
  rintro e w2 ⟨rfl, hg2, hB2⟩
  have hG2 : Grown w w2 := grown_trans hG1 hg2
  have hl2 : ∀ j, w2.cell? ⟨w.heap.size, j, none⟩ = _ ∧ w2.cell? ⟨w.heap.size + 1, j, none⟩ = _ := fun j => ⟨(hB2.cell (p := ⟨w.heap.size, j, none⟩) (by show w.heap.size < _; omega)).trans (hl1 j).1, (hB2.cell (p := ⟨w.heap.size + 1, j, none⟩) hlt).trans (hl1 j).2⟩
  clear hg2 hB2 hG1 hlt hl1 x0 x1 x2 x3 x4 y0 y1 y2 y3 y4
  have x0 := (hl2 0).1; have x1 := (hl2 1).1; have x2 := (hl2 2).1; have x3 := (hl2 3).1; have x4 := (hl2 4).1
  have y0 := (hl2 0).2; have y1 := (hl2 1).2; have y2 := (hl2 2).2; have y3 := (hl2 3).2; have y4 := (hl2 4).2
  simp at x0 x1 x2 x3 x4 y0 y1 y2 y3 y4
  clear hl2
  clear K1 K2
  go_wp2
  all_goals (go_ret; refine ⟨ret_bool ?_, hG2⟩)
  · exact zero_yes (HZ.out.2 ⟨‹_›, ‹_›, ‹_›, ‹_›, ‹_›⟩)
  · exact zero_no fun h => absurd (HZ.out.1 h).2.2.2.2 ‹_›
  · exact zero_no fun h => absurd (HZ.out.1 h).2.2.2.1 ‹_›
  · exact zero_no fun h => absurd (HZ.out.1 h).2.2.1 ‹_›
  · exact zero_no fun h => absurd (HZ.out.1 h).2.1 ‹_›
  · exact zero_no fun h => absurd (HZ.out.1 h).1 ‹_›

set_option maxRecDepth 100000 in
set_option maxHeartbeats 1000000 in
theorem law_any (a0 : ByteArray) (a1 : Int) (a2 : Int) (a3 : ByteArray) (a4 : ByteArray) (a5 : ByteArray) (a6 : Int) (a7 : Int) (a8 : ByteArray) (a9 : ByteArray) (w : World)
    (w0 : a0.size ≤ maxLen) (w3 : a3.size ≤ maxLen) (w4 : a4.size ≤ maxLen) (w5 : a5.size ≤ maxLen) (w8 : a8.size ≤ maxLen) (w9 : a9.size ≤ maxLen) :
    Calls Try.prog 5 #[.string a0, .int .i64 a1, .int .i64 a2, .string a3, .string a4, .string a5, .int .i64 a6, .int .i64 a7, .string a8, .string a9] w fun e w' => e = .returned (.bool true) ∧ Grown w w' := by
  unfold maxLen at w0 w3 w4 w5 w8 w9
  by_cases h0 : a0.size ≤ 131072
  rotate_left
  · go_enter Try.func5, Try.ntmps5
    go_wp2
    all_goals (go_ret; exact ⟨rfl, Grown.refl _⟩)
  by_cases h3 : a3.size ≤ 131072
  rotate_left
  · go_enter Try.func5, Try.ntmps5
    go_wp2
    all_goals (go_ret; exact ⟨rfl, Grown.refl _⟩)
  by_cases h4 : a4.size ≤ 131072
  rotate_left
  · go_enter Try.func5, Try.ntmps5
    go_wp2
    all_goals (go_ret; exact ⟨rfl, Grown.refl _⟩)
  by_cases h5 : a5.size ≤ 131072
  rotate_left
  · go_enter Try.func5, Try.ntmps5
    go_wp2
    all_goals (go_ret; exact ⟨rfl, Grown.refl _⟩)
  by_cases h8 : a8.size ≤ 131072
  rotate_left
  · go_enter Try.func5, Try.ntmps5
    go_wp2
    all_goals (go_ret; exact ⟨rfl, Grown.refl _⟩)
  by_cases h9 : a9.size ≤ 131072
  rotate_left
  · go_enter Try.func5, Try.ntmps5
    go_wp2
    all_goals (go_ret; exact ⟨rfl, Grown.refl _⟩)
  exact law_core a0 a1 a2 a3 a4 a5 a6 a7 a8 a9 w h0 h3 h4 h5 h8 h9
end Go.Proofs.Qxb6604766a

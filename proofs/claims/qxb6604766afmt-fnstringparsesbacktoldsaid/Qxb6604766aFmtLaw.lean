import Derived.Test.Qxb6604766aFmtString
import Derived.OpenShut
namespace Go.Proofs.Qxb6604766aFmt
open Go.RowKit Go.Kit Go.Extern.Stop Go.Stop Go.Extern

theorem read_any (s : ByteArray) (start : Nat) (n : Int) (l : List UInt8) (w : World) (hs : s.size ≤ 1048576) (h0 : -9223372036854775808 ≤ n) (h1 : n ≤ 9223372036854775807) (h : At s start (Lib.itoa n ++ (58 :: l))) :
    Calls Tryf.prog 13 #[.string s, .int .i64 start] w fun e w' => e = .returned (.tuple #[.bool (decide (n < 0)), .int .u64 n.natAbs, .int .i64 (start + (Lib.itoa n).length : Nat), .bool true]) ∧ w' = w := by
  unfold Lib.itoa at h ⊢
  by_cases hn : n < 0
  · rw [if_pos hn] at h ⊢
    have := readNeg_any s start n.natAbs l w hs (by omega) (by omega) h
    rw [decide_eq_true hn, List.length_cons, Nat.add_comm (Lib.decDigits n.natAbs).length 1, ← Nat.add_assoc]
    exact this
  · rw [if_neg hn] at h ⊢
    have e : n.toNat = n.natAbs := by omega
    rw [e] at h ⊢
    have := readPos_any s start n.natAbs l w hs (by omega) h
    rw [decide_eq_false hn]
    exact this

theorem at_sub {s t : ByteArray} {p : Nat} {l : List UInt8} (h : At s p l) (e : s.extract p s.size = t) : At t 0 l := by
  subst e
  refine ⟨Nat.zero_le _, ?_⟩
  rw [extract_list, List.drop_zero, List.take_of_length_le (by simp)]
  exact h.2

theorem grown_trans {a b c : World} (h : Grown a b) (k : Grown b c) : Grown a c :=
  ⟨World.keptBut_trans h.1 k.1, fun p => (k.2.1 p).trans (h.2.1 p), Nat.le_trans h.2.2 k.2.2⟩

theorem grown_drew {a b c : World} (hd : ∃ n, c = b.drewN n) (h : Grown a b) : Grown a c := by
  obtain ⟨n, rfl⟩ := hd
  induction n generalizing b with
  | zero => exact h
  | succ n ih => exact ih (b := b.drew) h

/-- The line, cut at its places. -/
structure Cuts (s f r m : ByteArray) (l c : Int) (A C : Nat) : Prop where
  size : s.size = f.size + 1 + A + 1 + C + 2 + r.size + 2 + m.size
  low : ∀ k (h : k < f.size) (h' : k < s.size), s[k] = f[k]
  colon : ∀ h : f.size < s.size, s[f.size] = 58
  head : s.extract 0 f.size = f
  one : ∃ z, At s (f.size + 1) (Lib.itoa l ++ (58 :: z))
  two : ∃ z, At s (f.size + 1 + A + 1) (Lib.itoa c ++ (58 :: z))
  blank : ∀ h : f.size + 1 + A + 1 + C + 1 < s.size, s[f.size + 1 + A + 1 + C + 1] = 32
  rest : At s (f.size + 1 + A + 1 + C + 2) (r.data.toList ++ (58 :: 32 :: m.data.toList))

theorem cuts {s f r m : ByteArray} {l c : Int} (hs : s.data.toList = line f.data.toList l c r.data.toList m.data.toList) : Cuts s f r m l c (Lib.itoa l).length (Lib.itoa c).length := by
  have h0 : At s 0 (f.data.toList ++ (58 :: (Lib.itoa l ++ (58 :: (Lib.itoa c ++ (58 :: 32 :: (r.data.toList ++ (58 :: 32 :: m.data.toList)))))))) := ⟨Nat.zero_le _, by rw [List.drop_zero]; exact hs⟩
  have ef : f.data.toList.length = f.size := by simp
  have er : r.data.toList.length = r.size := by simp
  have em : m.data.toList.length = m.size := by simp
  have hsz := at_size h0
  simp only [List.length_append, List.length_cons, ef, er, em] at hsz
  have h1 := at_app h0
  rw [ef, Nat.zero_add] at h1
  obtain ⟨_, hcol, h2⟩ := at_cons h1
  have h3 := at_app h2
  obtain ⟨_, _, h4⟩ := at_cons h3
  have h5 := at_app h4
  obtain ⟨_, _, h6⟩ := at_cons h5
  obtain ⟨_, hbl, h7⟩ := at_cons h6
  refine ⟨by omega, ?_, hcol, by simpa using at_take h0, ⟨_, h2⟩, ⟨_, h4⟩, hbl, h7⟩
  intro k hk hk'
  have := at_get h0 (j := k) (by omega) (by omega)
  simp only [Nat.zero_add] at this
  rw [this]; rfl

set_option maxRecDepth 100000 in
set_option maxHeartbeats 2000000 in
theorem law_core (F : Interp) (f : ByteArray) (l c : Int) (r m : ByteArray) (w : World) (hF : F.told.answers w.tape) (hf : f.size ≤ 262144) (hr : r.size ≤ 262144) (hm : m.size ≤ 262144) (hl : (Lit.int .i64 l).wf = true) (hc : (Lit.int .i64 c).wf = true)
    (hl0 : -9223372036854775808 ≤ l) (hl1 : l ≤ 9223372036854775807) (hc0 : -9223372036854775808 ≤ c) (hc1 : c ≤ 9223372036854775807) :
    Calls Tryf.prog 4 #[.string f, .int .i64 l, .int .i64 c, .string r, .string m] w fun e w' => e = .returned (.bool true) ∧ Grown w w' := by
  have HF := hid hF
  have Hl := hid hl
  have Hc := hid hc
  clear hF hl hc
  go_enter Tryf.func4, Tryf.ntmps4
  go_wp2_with (first | (go_at_call 11; refine (contains_any f _ hf).mono ?_) | go_in)
  rintro e w1 ⟨⟨b, rfl, hnc⟩, rfl⟩
  cases b with
  | true =>
    go_wp2
    go_ret
    exact ⟨rfl, Grown.refl _⟩
  | false =>
    have HNC := hid (hnc rfl)
    clear hnc
    go_wp2_with (go_at_call 12; refine (hasCS_any r _ hr).mono ?_)
    rintro e w1 ⟨⟨b, rfl, hns⟩, rfl⟩
    cases b with
    | true =>
      go_wp2
      go_ret
      exact ⟨rfl, Grown.refl _⟩
    | false =>
      have HNS := hid (hns rfl)
      clear hns
      go_wp2_with (go_at_call 8; refine (string_told F f l c r m _ (by exact HF.out) hf hr hm Hl.out Hc.out).mono ?_)
      rintro e w2 ⟨s, rfl, hs, hb2, hg2⟩
      have hG : Grown w1 w2 := grown_trans ((Grown.refl _).alloc _ _) hg2
      have hx := cuts hs
      clear hb2 hg2 hs HF
      obtain ⟨A, hA⟩ : ∃ A, (Lib.itoa l).length = A := ⟨_, rfl⟩
      obtain ⟨C, hC⟩ : ∃ C, (Lib.itoa c).length = C := ⟨_, rfl⟩
      have hA1 := FmtText.itoa_length_le Hl.out
      have hC1 := FmtText.itoa_length_le Hc.out
      rw [hA] at hx hA1
      rw [hC] at hx hC1
      have hsz := hx.size
      have hs1 : s.size ≤ 1048576 := by omega
      have q1 : f.size + 1 + A + 1 + C + 2 ≤ s.size := by omega
      clear hsz
      obtain ⟨p1, hp1⟩ : ∃ p1, p1 = f.size + 1 + A := ⟨_, rfl⟩
      obtain ⟨p2, hp2⟩ : ∃ p2, p2 = f.size + 1 + A + 1 + C := ⟨_, rfl⟩
      have R1 : Hid (∀ W, Calls Tryf.prog 13 #[.string s, .int .i64 ((f.size : Int) + 1)] W fun e w' => e = .returned (.tuple #[.bool (decide (l < 0)), .int .u64 l.natAbs, .int .i64 p1, .bool true]) ∧ w' = W) := by
        intro W; obtain ⟨z, hz⟩ := hx.one; have := read_any s _ l z W hs1 hl0 hl1 hz; rw [hA, ← hp1] at this; exact this
      have R2 : Hid (∀ W, Calls Tryf.prog 13 #[.string s, .int .i64 ((p1 : Int) + 1)] W fun e w' => e = .returned (.tuple #[.bool (decide (c < 0)), .int .u64 c.natAbs, .int .i64 p2, .bool true]) ∧ w' = W) := by
        intro W; obtain ⟨z, hz⟩ := hx.two; have := read_any s _ c z W hs1 hc0 hc1 hz; rw [hC, ← hp2, ← hp1] at this; exact this
      have R3 : Hid (∀ W, Calls Tryf.prog 15 #[.string (s.extract (p2 + 2) s.size)] W fun e w' => e = .returned (.tuple #[.string r, .string m, .bool true]) ∧ ∃ n, w' = W.drewN n) := by
        intro W; rw [hp2]; exact split_any _ r m W (by simp; omega) (at_sub hx.rest rfl) HNS.out
      have q2 : p2 + 2 ≤ s.size := by omega
      have q3 : ∀ h : p2 + 1 < s.size, ((s[p2 + 1].toNat : Int) != 32) = false := by
        subst hp2; intro h; rw [hx.blank h]; rfl
      have HB := hid q3
      have q4 : p1 ≤ s.size := by omega
      clear q3 hp1 hp2 hA1 hC1
      have HX := hid hx
      clear hx hA hC HNS Hl Hc
      go_wp2
      go_loop [13] (fun i => ∃ k : Nat, k ≤ f.size ∧ i = .int .i64 k) (fun i => s.size - (intOf i).toNat)
      case atStart => exact ⟨0, Nat.zero_le _, rfl⟩
      case round =>
        obtain ⟨k, hk, rfl⟩ := hrel
        have hks : k < s.size := by omega
        by_cases hlt : k < f.size
        · have hb : ((s[k].toNat : Int) != 58) = true := by
            rw [HX.out.low k hlt hks]; have := HNC.out k hlt; simpa using this
          go_wp2
          go_round
          case rel => exact ⟨k + 1, by omega, by go_num⟩
          case measure => simp [intOf]; omega
        · obtain rfl : k = f.size := by omega
          have hb : ((s[f.size].toNat : Int) != 58) = false := by rw [HX.out.colon hks]; rfl
          have he : s.extract 0 f.size = f := HX.out.head
          clear HX HNC
          have hb32 : ((s[p2 + 1].toNat : Int) != 32) = false := HB.out (by omega)
          go_wp2_with fail
          refine (R1.out _).mono ?_
          rintro e w3 ⟨rfl, rfl⟩
          clear R1
          go_wp2_with (go_at_call 14; refine (magn_any _ _ hl0 hl1).mono ?_; rintro e w4 ⟨rfl, rfl⟩)
          refine (R2.out _).mono ?_
          rintro e w3 ⟨rfl, rfl⟩
          clear R2
          go_wp2_with (go_at_call 14; refine (magn_any _ _ hc0 hc1).mono ?_; rintro e w4 ⟨rfl, rfl⟩)
          refine (R3.out _).mono ?_
          rintro e w5 ⟨rfl, hd⟩
          have hG5 := grown_drew hd hG
          clear R3 hd hG
          go_wp2
          go_ret
          exact ⟨rfl, hG5⟩

set_option maxRecDepth 100000 in
set_option maxHeartbeats 1000000 in
theorem law_any (F : Interp) (f : ByteArray) (l c : Int) (r m : ByteArray) (w : World) (hF : F.told.answers w.tape) (hf : f.size ≤ maxLen) (hr : r.size ≤ maxLen) (hm : m.size ≤ maxLen) (hl : (Lit.int .i64 l).wf = true) (hc : (Lit.int .i64 c).wf = true) :
    Calls Tryf.prog 4 #[.string f, .int .i64 l, .int .i64 c, .string r, .string m] w fun e w' => e = .returned (.bool true) ∧ Grown w w' := by
  by_cases h0 : f.size ≤ 262144
  rotate_left
  · unfold maxLen at hf hr hm
    clear hl hc hF
    go_enter Tryf.func4, Tryf.ntmps4
    go_wp2
    all_goals (go_ret; exact ⟨rfl, Grown.refl _⟩)
  by_cases h3 : r.size ≤ 262144
  rotate_left
  · unfold maxLen at hf hr hm
    clear hl hc hF
    go_enter Tryf.func4, Tryf.ntmps4
    go_wp2
    all_goals (go_ret; exact ⟨rfl, Grown.refl _⟩)
  by_cases h4 : m.size ≤ 262144
  rotate_left
  · unfold maxLen at hf hr hm
    clear hl hc hF
    go_enter Tryf.func4, Tryf.ntmps4
    go_wp2
    all_goals (go_ret; exact ⟨rfl, Grown.refl _⟩)
  have b1 := bounds_i64 hl
  have b2 := bounds_i64 hc
  exact law_core F f l c r m w hF h0 h3 h4 hl hc b1.1 b1.2 b2.1 b2.2
end Go.Proofs.Qxb6604766aFmt

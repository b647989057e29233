import Derived.Test.Qxb6604369aPay
namespace Go.Proofs.Qxb6604369a
open Go.RowKit

theorem recsV_at (zs : List Int) (b off cap len : Nat) : ∀ (done : List Nat) (e : Nat) (rest : List Nat) (p k : Nat), Seg zs len done p k → (recsV zs b off cap (done ++ e :: rest) p)[done.length]? = some (recV b off cap k (leN zs k))
  | [], e, rest, p, k, h => by have h : p = k := h; subst h; simp [recsV]
  | d :: done, e, rest, p, k, h => by simpa [recsV] using recsV_at zs b off cap len done e rest d k h.2

theorem drew_two {w w1 w2 : World} (h1 : Hid (∃ m, w1 = w.drewN m)) (h2 : ∃ m, w2 = w1.drewN m) : Hid (∃ m, w2 = w.drewN m) := by
  obtain ⟨m, rfl⟩ := h1.out; obtain ⟨m', rfl⟩ := h2; exact ⟨m + m', World.drewN_drewN _ _ _⟩

set_option maxRecDepth 100000 in
set_option maxHeartbeats 2000000 in
theorem tile_core (b off n cap from_ : Nat) (zs : List Int) (w : World) (hn : n ≤ 1048576) (hf : from_ < n) (hc : Cells w b off n zs) (hb : b < w.heap.size) :
    Calls Try.prog 3 #[.slice (some ⟨b, off, none⟩) n cap, .int .i64 from_] w fun e w' => e = .returned (.bool true) ∧ Below w.heap.size w w' := by
  have HC : Hid (Cells w b off n zs) := hc
  clear hc
  have hd1 : decide ((1048576 : Int) < (n : Int)) = false := by simp; omega
  have hd2 : decide ((from_ : Int) < 0) = false := by simp
  have hd0 : decide (n ≤ from_) = false := by simp; omega
  go_enter Try.func3, Try.ntmps3
  go_wp2_with (first | (go_at_call 8; refine (ends_any b off n cap from_ zs _ hn hf HC.out hb).mono ?_) | go_in)
  rintro e w1 ⟨hb1, h | ⟨v1, es, h, hseg, hown1⟩⟩
  · subst h
    go_wp2
    go_ret
    exact ⟨rfl, hb1⟩
  subst h
  clear hown1
  have hsg : Hid (Seg zs n es from_ n) := hseg
  have hsl := seg_len hseg
  clear hseg
  have hs1 := hb1.size
  have hc1 : Hid (Cells w1 b off n zs) := fun i hi => (hb1.cell (p := ⟨b, off + i, none⟩) hb).trans (HC.out i hi)
  go_wp2_with (go_at_call 9; refine (clone_any b off n cap zs _ hn hc1.out (by omega)).mono ?_)
  rintro e w2 ⟨rfl, hc2, hb2, hs2⟩
  have HC2 : Hid (Cells w2 w1.heap.size 0 n zs) := hc2
  clear hc2
  go_wp2_with (go_at_call 10; refine (pay_any w1.heap.size 0 n n from_ zs es _ (Nat.le_refl _) hn hsg.out HC2.out hs2).mono ?_)
  rintro e w3 ⟨v, rfl, hown, hb3⟩
  have HC3 : Hid (Cells w3 w1.heap.size 0 n zs) := fun i hi => (hb3.cell (p := ⟨w1.heap.size, 0 + i, none⟩) hs2).trans (HC2.out i hi)
  have hB : Below w.heap.size w w3 := (hb1.trans (hb2.mono hs1)).trans (hb3.mono (by omega))
  have hrl := recsV_length zs w1.heap.size 0 n es from_
  rw [hrl] at hown
  have HO : Hid (w3.ownsRow (w2.heap.size + 1) 22 1 v es.length (recsV zs w1.heap.size 0 n es from_)) := hown
  obtain ⟨av, cv, rfl⟩ := own_slice hown
  clear hown hrl HC2 hc1 HC hb1 hb2 hb3 hs1 hs2
  generalize w1.heap.size = B at *
  generalize w2.heap.size + 1 = B2 at *
  clear w1 w2
  go_wp2
  go_loopw [8, 9] (fun p i wr => ∃ k j : Nat, ∃ done todo : List Nat, k ≤ n ∧ j ≤ es.length ∧ p = .int .i64 k ∧ i = .int .i64 j ∧ Hid (es = done ++ todo) ∧ Hid (done.length = j) ∧ Hid (Seg zs n done from_ k) ∧ Hid (Seg zs n todo k n) ∧ Hid (∃ m, wr = w3.drewN m)) (fun _ i _ => es.length - (intOf i).toNat)
  case atStart => exact ⟨from_, 0, [], es, by omega, Nat.zero_le _, rfl, rfl, rfl, rfl, rfl, hsg, 0, rfl⟩
  case round =>
    obtain ⟨k, j, done, todo, hk, hj, rfl, rfl, hes, hdl, hsd, hst, hm⟩ := hrel
    by_cases hlt : j < es.length
    · obtain ⟨e, rest, htodo, he, hen, hrest⟩ : ∃ e rest, Hid (todo = e :: rest) ∧ Hid (e = k + 12 + leN zs k) ∧ e ≤ n ∧ Hid (Seg zs n rest e n) := by
        cases todo with
        | nil => have h1 := hes.out; have h2 := hdl.out; rw [h1] at hlt; simp at hlt; omega
        | cons e rest => exact ⟨e, rest, rfl, hst.out.1.1, hst.out.1.2, hst.out.2⟩
      have hbd : k + 12 + leN zs k ≤ n := by have := he.out; omega
      obtain ⟨g, rfl, hcj⟩ : ∃ g, av = some ⟨g, 0, none⟩ ∧ w3.cell? ⟨g, j, none⟩ = some (recV B 0 n k (leN zs k)) := by
        rcases HO.out.2 with ⟨h, h0⟩ | ⟨g, c, cur, h, _⟩
        · omega
        · simp only [Value.slice.injEq, true_and] at h
          refine ⟨g, h.1, ?_⟩
          have h1 := HO.out
          rw [h.1] at h1
          rw [h1.cellAt j (by omega)]
          have h2 := recsV_at zs B 0 n n done e rest from_ k hsd.out
          rw [← htodo.out, ← hes.out, hdl.out] at h2
          exact h2
      obtain ⟨ra, hra⟩ : ∃ ra : Option Addr, Hid (ra = if n = k + 12 then some ⟨B, 0, none⟩ else some ⟨B, k + 12, none⟩) := ⟨_, rfl⟩
      have hcr : wr.cell? ⟨g, j, none⟩ = some (.slice ra (leN zs k) (n - (k + 12))) := by
        obtain ⟨m, rfl⟩ := hm.out
        rw [hra.out]
        simpa [recV] using hcj
      have hcb : Hid (Cells wr B 0 n zs) := by obtain ⟨m, rfl⟩ := hm.out; exact HC3.out
      clear hcj
      go_wp2_with (go_at_call 11; refine (le32_any B 0 n n k zs _ hn (by omega) hcb.out).mono ?_)
      rintro e1 w4 ⟨rfl, hm4⟩
      have hm5 := drew_two hm hm4
      have hcb4 : Hid (Cells w4 B 0 n zs) := by obtain ⟨m, rfl⟩ := hm5.out; exact HC3.out
      clear hm4 hcr hcb
      have hS : Hid (0 < leN zs k → ∃ b off, ra = some ⟨b, off, none⟩ ∧ (if n = k + 12 then some ⟨B, 0, none⟩ else some ⟨B, k + 12, none⟩) = some (⟨b, off, none⟩ : Addr) ∧ Cells w4 b off (leN zs k) (zs.drop (k + 12))) := by
        intro hpos
        have hne : ¬ n = k + 12 := by omega
        refine ⟨B, k + 12, by rw [hra.out, if_neg hne], if_neg hne, fun i hi => ?_⟩
        have := hcb4.out (k + 12 + i) (by omega)
        rw [Nat.zero_add] at this
        rw [this, List.getElem?_drop]
      clear hra
      go_wp2_with (go_at_call 12; refine (same_any _ _ _ _ _ _ _ (by omega) hS.out).mono ?_; rintro e2 w5 ⟨rfl, hm6⟩; have hm7 := drew_two hm5 hm6; clear hm6)
      go_roundw
      case rel => exact ⟨e, j + 1, done ++ [e], rest, hen, by omega, by rw [he.out]; go_num, by go_num, by unfold Hid; rw [hes.out, htodo.out]; simp, by unfold Hid; simp [hdl.out], seg_snoc hsd.out he.out hen, hrest, by assumption⟩
      case measure => simp [intOf]; omega
    · have : todo = [] := by
        have h1 := hes.out; have h2 := hdl.out
        have h3 := congrArg List.length h1
        rw [List.length_append] at h3
        exact List.length_eq_zero_iff.1 (by omega)
      subst this
      have hkn : k = n := hst.out
      subst hkn
      have hBr : Below w.heap.size w wr := by obtain ⟨m, rfl⟩ := hm.out; exact below_drewN hB _
      go_wp2
      go_ret
      exact ⟨rfl, hBr⟩

set_option maxRecDepth 100000 in
set_option maxHeartbeats 400000 in
theorem tile_big (ao : Option Addr) (n cap : Nat) (f : Int) (w : World) (hn : 1048576 < n) :
    Calls Try.prog 3 #[.slice ao n cap, .int .i64 f] w fun e w' => e = .returned (.bool true) ∧ Below w.heap.size w w' := by
  go_enter Try.func3, Try.ntmps3
  go_wp2
  go_ret
  exact ⟨rfl, Below.refl _ _⟩

set_option maxRecDepth 100000 in
set_option maxHeartbeats 400000 in
theorem tile_neg (ao : Option Addr) (n cap : Nat) (f : Int) (w : World) (hn : n ≤ 1048576) (hf : f < 0) :
    Calls Try.prog 3 #[.slice ao n cap, .int .i64 f] w fun e w' => e = .returned (.bool true) ∧ Below w.heap.size w w' := by
  go_enter Try.func3, Try.ntmps3
  go_wp2
  go_ret
  exact ⟨rfl, Below.refl _ _⟩

set_option maxRecDepth 100000 in
set_option maxHeartbeats 400000 in
theorem tile_past (ao : Option Addr) (n cap : Nat) (f : Int) (w : World) (hn : n ≤ 1048576) (hf0 : 0 ≤ f) (hf : (n : Int) ≤ f)
    (hcl : Calls Try.prog 9 #[.slice ao n cap] w fun e w' => ∃ a' c', e = .returned (.slice a' n c') ∧ Below w.heap.size w w') :
    Calls Try.prog 3 #[.slice ao n cap, .int .i64 f] w fun e w' => e = .returned (.bool true) ∧ Below w.heap.size w w' := by
  go_enter Try.func3, Try.ntmps3
  go_wp2_with (first | (go_at_call 8; refine (ends_past _ _ _ _ _ hf).mono ?_; rintro e w1 ⟨rfl, rfl⟩) | (go_at_call 9; refine hcl.mono ?_; rintro e w2 ⟨a', c', rfl, hb⟩) | (go_at_call 10; refine (pay_past _ _ _ _ _ hf).mono ?_; rintro e w3 ⟨rfl, hb3⟩) | go_in)
  go_ret
  exact ⟨rfl, hb.trans (hb3.mono hb.size)⟩
end Go.Proofs.Qxb6604369a

import Derived.Test.Qxb6604369aSplit
namespace Go.Proofs.Qxb6604369a
open Go.RowKit

theorem cell_drew {w w1 : World} {a : Addr} {v : Option Value} (hm : Hid (∃ m, w1 = w.drewN m)) (h : w.cell? a = v) : w1.cell? a = v := by
  obtain ⟨m, rfl⟩ := hm.out; exact h
theorem good_drew {w w1 : World} {ao : Option Addr} {m : Nat} {zs : List Int} (hm : Hid (∃ m, w1 = w.drewN m)) (h : 0 < m → ∃ b off, ao = some ⟨b, off, none⟩ ∧ ao = some ⟨b, off, none⟩ ∧ Cells w b off m zs) : 0 < m → ∃ b off, ao = some ⟨b, off, none⟩ ∧ ao = some ⟨b, off, none⟩ ∧ Cells w1 b off m zs := by
  obtain ⟨m, rfl⟩ := hm.out; exact h

set_option maxRecDepth 100000 in
set_option maxHeartbeats 4000000 in
theorem split_core (b off n cap from_ : Nat) (kk : Int) (zs : List Int) (w : World) (hn : n ≤ 1048576) (hf : from_ < n) (hc : Cells w b off n zs) (hb : b < w.heap.size) :
    Calls Try.prog 4 #[.slice (some ⟨b, off, none⟩) n cap, .int .i64 from_, .int .i64 kk] w fun e w' => e = .returned (.bool true) ∧ Below w.heap.size w w' := by
  have HC : Hid (Cells w b off n zs) := hc
  clear hc
  have hd1 : decide ((1048576 : Int) < (n : Int)) = false := by simp; omega
  have hd2 : decide ((from_ : Int) < 0) = false := by simp
  have hd0 : decide (n < from_) = false := by simp; omega
  go_enter Try.func4, Try.ntmps4
  go_wp2_with (first | (go_at_call 8; refine (ends_any b off n cap from_ zs _ hn hf HC.out hb).mono ?_) | go_in)
  rintro e w1 ⟨hb1, h | ⟨v0, es, h, hseg, hown0⟩⟩
  · subst h
    go_wp2
    go_ret
    exact ⟨rfl, hb1⟩
  subst h
  obtain ⟨a0, c0, rfl⟩ := own_slice hown0
  have HO0 : Hid (w1.ownsRow w.heap.size 3 1 (.slice a0 es.length c0) es.length (ints es)) := hown0
  clear hown0
  have hsg : Hid (Seg zs n es from_ n) := hseg
  have hsl := seg_len hseg
  clear hseg
  have hs1 := hb1.size
  have hc1 : Hid (Cells w1 b off n zs) := fun i hi => (hb1.cell (p := ⟨b, off + i, none⟩) hb).trans (HC.out i hi)
  by_cases hk0 : kk < 0
  · go_wp2
    go_ret
    exact ⟨rfl, hb1⟩
  by_cases hk1 : (es.length : Int) < kk
  · go_wp2
    go_ret
    exact ⟨rfl, hb1⟩
  obtain ⟨K, rfl⟩ := Int.eq_ofNat_of_zero_le (by omega : 0 ≤ kk)
  have hK : K ≤ es.length := by omega
  obtain ⟨mid, hsA, hsB, hm0, hm1⟩ := seg_split hsg.out K hK
  have HsA : Hid (Seg zs n (es.take K) from_ mid) := hsA
  have HsB : Hid (Seg zs n (es.drop K) mid n) := hsB
  have hlA := seg_len hsA
  have hlB := seg_len hsB
  have hmn : mid ≤ n := by omega
  have Hm0 : Hid (K = 0 → mid = from_) := hm0
  have Hm1 : Hid (0 < K → es[K - 1]? = some mid) := hm1
  clear hsA hsB hm0 hm1 hlA hlB hk0 hk1
  go_wp2_with (go_at_call 9; refine (clone_any b off n cap zs _ hn hc1.out (by omega)).mono ?_)
  rintro e w2 ⟨rfl, hc2, hb2, hs2⟩
  have HC2 : Hid (Cells w2 w1.heap.size 0 n zs) := hc2
  clear hc2 hc1 HC
  have HO2 : Hid (w2.ownsRow w.heap.size 3 1 (.slice a0 es.length c0) es.length (ints es)) := own_below hb2 HO0.out
  have hB2 : Below w.heap.size w w2 := hb1.trans (hb2.mono hs1)
  clear HO0 hb1 hb2
  obtain ⟨D, hD⟩ : ∃ D, D + K = es.length := ⟨es.length - K, by omega⟩
  have hdd : ((D : Int) != (es.length : Int) - (K : Int)) = false := by simp; omega
  have eD : es.length - K = D := by omega
  have ED := hid eD
  have HD := hid hD
  have hKL : K + D ≤ es.length := by omega
  have hLK : es.length ≤ K + D := by omega
  clear eD hD
  have hX := recsV_append zs w1.heap.size 0 n n _ (es.drop K) _ _ HsA.out
  rw [List.take_append_drop] at hX
  have HX := hid hX
  clear hX
  have hcase : Hid ((K = 0 ∧ mid = from_) ∨ (0 < K ∧ ∃ g, a0 = some ⟨g, 0, none⟩ ∧ w2.cell? ⟨g, K - 1, none⟩ = some (.int .i64 mid))) := by
    by_cases hK0 : K = 0
    · exact .inl ⟨hK0, Hm0.out hK0⟩
    · have hK1 : 0 < K := by omega
      obtain ⟨g, e1, hcm⟩ := own_at HO2.out (j := K - 1) (by omega)
      exact .inr ⟨hK1, g, e1, by rw [hcm]; simp [ints, Hm1.out hK1]⟩
  clear Hm0 Hm1 HO2
  have hd3 : decide ((K : Int) < 0) = false := by simp
  rcases hcase.out with ⟨hK0, hmf⟩ | ⟨hK1, g, rfl, hcm⟩
  · have hK1 : K ≤ 0 := by omega
    subst hmf
    clear hK0 hcase
    go_wp2_with fail
    refine (pay_any _ 0 n n _ zs es _ (Nat.le_refl _) hn hsg.out HC2.out hs2).mono ?_
    rintro e w3 ⟨v1, rfl, hown1, hb3⟩
    rw [recsV_length] at hown1
    obtain ⟨a1, c1, rfl⟩ := own_slice hown1
    have HO1 := hid hown1
    have HC3 := hid (cells_below hb3 hs2 HC2.out)
    have hs3 := hb3.size
    have hB3 := hB2.trans (hb3.mono hB2.size)
    clear hown1 hb3 HC2 hB2
    go_wp2_with fail
    refine (pay_any _ 0 mid n _ zs (es.take K) _ hmn hn (seg_tight HsA.out) (cells_mono HC3.out hmn) (by omega)).mono ?_
    rintro e w4 ⟨v2, rfl, hown2, hb4⟩
    rw [recsV_length, List.length_take, Nat.min_eq_left hK] at hown2
    obtain ⟨a2, c2, rfl⟩ := own_slice hown2
    have HO2 := hid hown2
    have HO1' := hid (own_below hb4 HO1.out)
    have HC4 := hid (cells_below hb4 (by omega) HC3.out)
    have hs4 := hb4.size
    have hB4 := hB3.trans (hb4.mono hB3.size)
    clear hown2 hb4 HC3 hB3 HO1
    go_wp2_with fail
    refine (pay_any _ 0 n n _ zs (es.drop K) _ (Nat.le_refl _) hn HsB.out HC4.out (by omega)).mono ?_
    rintro e w5 ⟨v3, rfl, hown3, hb5⟩
    rw [recsV_length, List.length_drop, ED.out] at hown3
    obtain ⟨a3, c3, rfl⟩ := own_slice hown3
    have O3 := hid hown3
    have O1 := hid (own_below hb5 HO1'.out)
    have O2 := hid (own_below hb5 HO2.out)
    have HC5 := hid (cells_below hb5 (by omega) HC4.out)
    have hB5 := hB4.trans (hb5.mono hB4.size)
    have HG := hid (recs_good hn HC5.out hsg.out)
    have HG3 := hid (recs_good hn HC5.out HsB.out)
    clear hown3 hb5 HC4 HC5 hB4 HO1' HO2 hs2 hs3 hs4 hs1 HsA HsB hsg
    go_wp2
    go_loopw [13] (fun i wr => ∃ j : Nat, j ≤ K ∧ i = .int .i64 j ∧ Hid (∃ m, wr = w5.drewN m)) (fun i _ => K - (intOf i).toNat)
    case atStart => exact ⟨0, Nat.zero_le _, rfl, 0, rfl⟩
    case round =>
      obtain ⟨j, hj, rfl, hm1⟩ := hrel
      by_cases hlt : j < K
      · obtain ⟨g1, g2, ao, mm, cc, zs', rfl, rfl, k1, k2, hm, hgd⟩ := pair_at O1.out O2.out (i := j) (j := j) (by omega) hlt (by rw [HX.out, List.getElem?_append_left (by rw [recsV_length, List.length_take]; omega)]) HG.out
        have HGD := hid (good_drew hm1 hgd)
        have k1' := cell_drew hm1 k1
        have k2' := cell_drew hm1 k2
        clear hgd k1 k2
        have q1 : (j : Int) < (K : Int) := by omega
        have q2 : (j : Int) < (es.length : Int) := by omega
        go_wp2
        go_quiet ((go_at_call 12; exact Calls.quiet_of (same_any _ _ _ _ _ zs' _ hm (by exact HGD.out))))
        go_wp2
        go_roundw
        case rel => exact ⟨j + 1, by omega, by go_num, drew_two hm1 ⟨_, rfl⟩⟩
        case measure => simp [intOf]; omega
      · go_wp2
        go_loopw [14] (fun i wr => ∃ j : Nat, j ≤ D ∧ i = .int .i64 (K + j : Nat) ∧ Hid (∃ m, wr = w5.drewN m)) (fun i _ => es.length - (intOf i).toNat)
        case atStart => exact ⟨0, Nat.zero_le _, rfl, hm1⟩
        case round =>
          obtain ⟨j2, hj2, rfl, hm2⟩ := hrel
          by_cases hlt2 : j2 < D
          · obtain ⟨g1, g2, ao, mm, cc, zs', rfl, rfl, k1, k2, hm, hgd⟩ := pair_at O1.out O3.out (i := K + j2) (j := j2) (by omega) hlt2 (by rw [HX.out, List.getElem?_append_right (by rw [recsV_length, List.length_take]; omega), recsV_length, List.length_take, Nat.min_eq_left hK, Nat.add_sub_cancel_left]) HG.out
            have HGD := hid (good_drew hm2 hgd)
            have k1' := cell_drew hm2 k1
            have k2' := cell_drew hm2 k2
            clear hgd k1 k2
            have q1 : (K : Int) + (j2 : Int) < (es.length : Int) := by omega
            have q2 : (j2 : Int) < (D : Int) := by omega
            go_wp2
            go_quiet ((go_at_call 12; exact Calls.quiet_of (same_any _ _ _ _ _ zs' _ hm (by exact HGD.out))))
            go_wp2
            go_roundw
            case rel => exact ⟨j2 + 1, by omega, by go_num, drew_two hm2 ⟨_, rfl⟩⟩
            case measure => simp [intOf]; omega
          · go_wp2
            go_ret
            exact ⟨rfl, below_drew hm2.out hB5⟩
  · clear hcase
    go_wp2_with fail
    clear hcm
    refine (pay_any _ 0 n n _ zs es _ (Nat.le_refl _) hn hsg.out HC2.out hs2).mono ?_
    rintro e w3 ⟨v1, rfl, hown1, hb3⟩
    rw [recsV_length] at hown1
    obtain ⟨a1, c1, rfl⟩ := own_slice hown1
    have HO1 := hid hown1
    have HC3 := hid (cells_below hb3 hs2 HC2.out)
    have hs3 := hb3.size
    have hB3 := hB2.trans (hb3.mono hB2.size)
    clear hown1 hb3 HC2 hB2
    go_wp2_with fail
    refine (pay_any _ 0 mid n _ zs (es.take K) _ hmn hn (seg_tight HsA.out) (cells_mono HC3.out hmn) (by omega)).mono ?_
    rintro e w4 ⟨v2, rfl, hown2, hb4⟩
    rw [recsV_length, List.length_take, Nat.min_eq_left hK] at hown2
    obtain ⟨a2, c2, rfl⟩ := own_slice hown2
    have HO2 := hid hown2
    have HO1' := hid (own_below hb4 HO1.out)
    have HC4 := hid (cells_below hb4 (by omega) HC3.out)
    have hs4 := hb4.size
    have hB4 := hB3.trans (hb4.mono hB3.size)
    clear hown2 hb4 HC3 hB3 HO1
    go_wp2_with fail
    refine (pay_any _ 0 n n _ zs (es.drop K) _ (Nat.le_refl _) hn HsB.out HC4.out (by omega)).mono ?_
    rintro e w5 ⟨v3, rfl, hown3, hb5⟩
    rw [recsV_length, List.length_drop, ED.out] at hown3
    obtain ⟨a3, c3, rfl⟩ := own_slice hown3
    have O3 := hid hown3
    have O1 := hid (own_below hb5 HO1'.out)
    have O2 := hid (own_below hb5 HO2.out)
    have HC5 := hid (cells_below hb5 (by omega) HC4.out)
    have hB5 := hB4.trans (hb5.mono hB4.size)
    have HG := hid (recs_good hn HC5.out hsg.out)
    have HG3 := hid (recs_good hn HC5.out HsB.out)
    clear hown3 hb5 HC4 HC5 hB4 HO1' HO2 hs2 hs3 hs4 hs1 HsA HsB hsg
    go_wp2
    go_loopw [13] (fun i wr => ∃ j : Nat, j ≤ K ∧ i = .int .i64 j ∧ Hid (∃ m, wr = w5.drewN m)) (fun i _ => K - (intOf i).toNat)
    case atStart => exact ⟨0, Nat.zero_le _, rfl, 0, rfl⟩
    case round =>
      obtain ⟨j, hj, rfl, hm1⟩ := hrel
      by_cases hlt : j < K
      · obtain ⟨g1, g2, ao, mm, cc, zs', rfl, rfl, k1, k2, hm, hgd⟩ := pair_at O1.out O2.out (i := j) (j := j) (by omega) hlt (by rw [HX.out, List.getElem?_append_left (by rw [recsV_length, List.length_take]; omega)]) HG.out
        have HGD := hid (good_drew hm1 hgd)
        have k1' := cell_drew hm1 k1
        have k2' := cell_drew hm1 k2
        clear hgd k1 k2
        have q1 : (j : Int) < (K : Int) := by omega
        have q2 : (j : Int) < (es.length : Int) := by omega
        go_wp2
        go_quiet ((go_at_call 12; exact Calls.quiet_of (same_any _ _ _ _ _ zs' _ hm (by exact HGD.out))))
        go_wp2
        go_roundw
        case rel => exact ⟨j + 1, by omega, by go_num, drew_two hm1 ⟨_, rfl⟩⟩
        case measure => simp [intOf]; omega
      · go_wp2
        go_loopw [14] (fun i wr => ∃ j : Nat, j ≤ D ∧ i = .int .i64 (K + j : Nat) ∧ Hid (∃ m, wr = w5.drewN m)) (fun i _ => es.length - (intOf i).toNat)
        case atStart => exact ⟨0, Nat.zero_le _, rfl, hm1⟩
        case round =>
          obtain ⟨j2, hj2, rfl, hm2⟩ := hrel
          by_cases hlt2 : j2 < D
          · obtain ⟨g1, g2, ao, mm, cc, zs', rfl, rfl, k1, k2, hm, hgd⟩ := pair_at O1.out O3.out (i := K + j2) (j := j2) (by omega) hlt2 (by rw [HX.out, List.getElem?_append_right (by rw [recsV_length, List.length_take]; omega), recsV_length, List.length_take, Nat.min_eq_left hK, Nat.add_sub_cancel_left]) HG.out
            have HGD := hid (good_drew hm2 hgd)
            have k1' := cell_drew hm2 k1
            have k2' := cell_drew hm2 k2
            clear hgd k1 k2
            have q1 : (K : Int) + (j2 : Int) < (es.length : Int) := by omega
            have q2 : (j2 : Int) < (D : Int) := by omega
            go_wp2
            go_quiet ((go_at_call 12; exact Calls.quiet_of (same_any _ _ _ _ _ zs' _ hm (by exact HGD.out))))
            go_wp2
            go_roundw
            case rel => exact ⟨j2 + 1, by omega, by go_num, drew_two hm2 ⟨_, rfl⟩⟩
            case measure => simp [intOf]; omega
          · go_wp2
            go_ret
            exact ⟨rfl, below_drew hm2.out hB5⟩
end Go.Proofs.Qxb6604369a

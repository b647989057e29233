import Derived.Test.Qxb6003334aInv
import Derived.Deep.DeepCutAuto
import Derived.Deep.CutBlock
import Derived.Deep.Light
namespace Go.Proofs.Qxb6003334a
open Go.RowKit

/-- Is a flush due? -/
def fdB (fl now : Int) : Bool := fl != 0 && decide (fl ≤ now)

/-- What is known of a copy in the world w. -/
def Got (k : IntKind) (w : World) (a : Option Addr) (n : Nat) (zs : List Int) : Prop := 0 < n → ∃ b, a = some ⟨b, 0, none⟩ ∧ b < w.heap.size ∧ Cells k w b 0 n zs

theorem got_of {k : IntKind} {w w' : World} {a : Option Addr} {n : Nat} {zs : List Int} (h : 0 < n → ∃ b', a = some ⟨b', 0, none⟩ ∧ w.heap.size ≤ b' ∧ b' < w'.heap.size ∧ Cells k w' b' 0 n zs) : Got k w' a n zs :=
  fun hn => let ⟨b, e, _, h1, h2⟩ := h hn; ⟨b, e, h1, h2⟩
theorem cells_below {k : IntKind} {w w' : World} {b off n : Nat} {zs : List Int} (h : Cells k w b off n zs) (hlt : b < w.heap.size) (hb : Below w.heap.size w w') : Cells k w' b off n zs :=
  fun i hi => (hb.cell (p := ⟨b, off + i, none⟩) hlt).trans (h i hi)
theorem got_below {k : IntKind} {w w' : World} {a : Option Addr} {n : Nat} {zs : List Int} (h : Got k w a n zs) (hb : Below w.heap.size w w') : Got k w' a n zs :=
  fun hn => let ⟨b, e, h1, h2⟩ := h hn; ⟨b, e, Nat.lt_of_lt_of_le h1 hb.size, cells_below h2 h1 hb⟩
theorem src_below {k : IntKind} {w w' : World} {a : Option Addr} {n : Nat} {zs : List Int} (h : Src k w a n zs) (hb : Below w.heap.size w w') : Src k w' a n zs :=
  ⟨h.1, fun hn => let ⟨b, off, e, h1, h2⟩ := h.2 hn; ⟨b, off, e, Nat.lt_of_lt_of_le h1 hb.size, cells_below h2 h1 hb⟩⟩

theorem liveB_eq (fl now e : Int) : liveB fl now e = !(fdB fl now || (e != 0 && decide (e ≤ now))) := rfl

set_option maxRecDepth 100000 in
set_option maxHeartbeats 4000000 in
theorem law_core (a0 a1 a2 a3 a4 a5 : Option Addr) (n c0 c1 c2 c3 c4 c5 : Nat) (z0 z1 z2 z3 z4 z5 : List Int) (fl now vw hi : Int) (w : World) (hn : n ≤ 256)
    (s0 : Src .u8 w a0 n z0) (s1 : Src .u8 w a1 n z1) (s2 : Src .u8 w a2 n z2) (s3 : Src .u32 w a3 n z3) (s4 : Src .i64 w a4 n z4) (s5 : Src .u64 w a5 n z5) (r0 : ∀ j : Nat, 0 ≤ z0[j]?.getD 0 ∧ z0[j]?.getD 0 ≤ 255) (r1 : ∀ j : Nat, 0 ≤ z1[j]?.getD 0 ∧ z1[j]?.getD 0 ≤ 255) :
    Calls Try.prog 7 #[.slice a0 n c0, .slice a1 n c1, .slice a2 n c2, .slice a3 n c3, .slice a4 n c4, .slice a5 n c5, .int .i64 fl, .int .i64 now, .int .u64 vw, .int .u64 hi] w fun e w' => e = .returned (.bool true) ∧ Below w.heap.size w w' := by
  have S0 := hid s0
  have S1 := hid s1
  have S2 := hid s2
  have S3 := hid s3
  have S4 := hid s4
  have S5 := hid s5
  have R0 := hid r0
  have R1 := hid r1
  clear s0 s1 s2 s3 s4 s5 r0 r1
  go_enter Try.func7, Try.ntmps7
  go_wp2_with (first | (go_at_call 20; refine (clone20_gen a0 n c0 z0 _ hn S0.out).mono ?_) | go_in)
  rintro e w1 ⟨⟨b0, d0, rfl, hk⟩, hb⟩
  have G0 := hid (got_of hk)
  replace S1 := hid (src_below S1.out hb)
  replace S2 := hid (src_below S2.out hb)
  replace S3 := hid (src_below S3.out hb)
  replace S4 := hid (src_below S4.out hb)
  replace S5 := hid (src_below S5.out hb)
  have hB := hb
  clear hb hk S0
  go_wp2_with (go_at_call 20; refine (clone20_gen a1 n c1 z1 _ hn S1.out).mono ?_)
  rintro e w2 ⟨⟨b1, d1, rfl, hk⟩, hb⟩
  have G1 := hid (got_of hk)
  replace S2 := hid (src_below S2.out hb)
  replace S3 := hid (src_below S3.out hb)
  replace S4 := hid (src_below S4.out hb)
  replace S5 := hid (src_below S5.out hb)
  replace G0 := hid (got_below G0.out hb)
  replace hB := hB.trans (hb.mono hB.size)
  clear hb hk S1
  go_wp2_with (go_at_call 20; refine (clone20_gen a2 n c2 z2 _ hn S2.out).mono ?_)
  rintro e w3 ⟨⟨b2, d2, rfl, hk⟩, hb⟩
  have G2 := hid (got_of hk)
  replace S3 := hid (src_below S3.out hb)
  replace S4 := hid (src_below S4.out hb)
  replace S5 := hid (src_below S5.out hb)
  replace G0 := hid (got_below G0.out hb)
  replace G1 := hid (got_below G1.out hb)
  replace hB := hB.trans (hb.mono hB.size)
  clear hb hk S2
  go_wp2_with (go_at_call 21; refine (clone21_gen a3 n c3 z3 _ hn S3.out).mono ?_)
  rintro e w4 ⟨⟨b3, d3, rfl, hk⟩, hb⟩
  have G3 := hid (got_of hk)
  replace S4 := hid (src_below S4.out hb)
  replace S5 := hid (src_below S5.out hb)
  replace G0 := hid (got_below G0.out hb)
  replace G1 := hid (got_below G1.out hb)
  replace G2 := hid (got_below G2.out hb)
  replace hB := hB.trans (hb.mono hB.size)
  clear hb hk S3
  go_wp2_with (go_at_call 22; refine (clone22_gen a4 n c4 z4 _ hn S4.out).mono ?_)
  rintro e w5 ⟨⟨b4, d4, rfl, hk⟩, hb⟩
  have G4 := hid (got_of hk)
  replace S5 := hid (src_below S5.out hb)
  replace G0 := hid (got_below G0.out hb)
  replace G1 := hid (got_below G1.out hb)
  replace G2 := hid (got_below G2.out hb)
  replace G3 := hid (got_below G3.out hb)
  replace hB := hB.trans (hb.mono hB.size)
  clear hb hk S4
  go_wp2_with (go_at_call 23; refine (clone23_gen a5 n c5 z5 _ hn S5.out).mono ?_)
  rintro e w6 ⟨⟨b5, d5, rfl, hk⟩, hb⟩
  have G5 := hid (got_of hk)
  replace G0 := hid (got_below G0.out hb)
  replace G1 := hid (got_below G1.out hb)
  replace G2 := hid (got_below G2.out hb)
  replace G3 := hid (got_below G3.out hb)
  replace G4 := hid (got_below G4.out hb)
  replace hB := hB.trans (hb.mono hB.size)
  clear hb hk S5
  go_upto_region 19 with (go_at_call 24; refine (newPart_any fl vw hi _).mono ?_; rintro e w7 ⟨rfl, rfl⟩)
  go_cut [29] (fun x wx => x = .bool (fdB fl now) ∧ Inv w6 wx w6.heap.size 0 fl vw false hi (fun _ => false) (fun _ => 0) (fun _ => 0) (fun _ => 0) (fun _ => 0))
  case first => as_aux_lemma =>
    have HI := hid (inv_start w6 fl vw hi)
    by_cases h0 : fl = 0
    · have e0 : (fl != 0) = false := by simp [h0]
      have e1 : fdB fl now = false := by simp [fdB, h0]
      have E1 := hid e1
      clear h0 e1
      go_wp2
      go_meet
      exact ⟨by rw [E1.out], HI.out⟩
    · have e0 : (fl != 0) = true := by simp [h0]
      have e1 : fdB fl now = decide (fl ≤ now) := by simp [fdB, h0]
      have E1 := hid e1
      clear h0 e1
      go_wp2
      go_meet
      exact ⟨by rw [E1.out], HI.out⟩
  case rest => as_aux_lemma =>
    obtain ⟨rfl, hI⟩ := hcut
    have HI := hid hI
    clear hI
    go_wp2
    go_loopg [28, 30] n (fun g hx ix wr => ∃ (i : Nat) (hd : Bool) (P : Nat → Bool) (V F E C : Nat → Int), i + g = n ∧ hx = .bool hd ∧ ix = .int .i64 i ∧ Hid (Inv w6 wr w6.heap.size i fl vw hd hi P V F E C))
    case atStart => exact ⟨0, false, _, _, _, _, _, by omega, rfl, rfl, HI⟩
    case round => as_aux_lemma =>
      clear HI
      obtain ⟨i, hd, P, V, F, E, C, hg, rfl, rfl, HI⟩ := hrel
      by_cases hlt : i < n
      · obtain ⟨k0, rfl, hk0, hc0⟩ := G0.out (by omega)
        obtain ⟨k1, rfl, hk1, hc1⟩ := G1.out (by omega)
        obtain ⟨k2, rfl, hk2, hc2⟩ := G2.out (by omega)
        obtain ⟨k3, rfl, hk3, hc3⟩ := G3.out (by omega)
        obtain ⟨k4, rfl, hk4, hc4⟩ := G4.out (by omega)
        obtain ⟨k5, rfl, hk5, hc5⟩ := G5.out (by omega)
        have hbel : Below w6.heap.size w6 wr := by obtain ⟨M, bs, hc, _⟩ := HI.out; exact hc.bel
        obtain ⟨q, hq⟩ : ∃ q : Nat, z0[i]?.getD 0 = q := ⟨_, (Int.toNat_of_nonneg (R0.out i).1).symm⟩
        obtain ⟨r, hr⟩ : ∃ r : Nat, z1[i]?.getD 0 = r := ⟨_, (Int.toNat_of_nonneg (R1.out i).1).symm⟩
        have hq2 : q ≤ 255 := by have := (R0.out i).2; omega
        have hr2 : r ≤ 255 := by have := (R1.out i).2; omega
        have x0 : wr.cell? ⟨k0, i, none⟩ = some (.int .u8 q) := by rw [← hq]; have := cells_below hc0 hk0 hbel i hlt; rw [Nat.zero_add] at this; exact this
        have x1 : wr.cell? ⟨k1, i, none⟩ = some (.int .u8 r) := by rw [← hr]; have := cells_below hc1 hk1 hbel i hlt; rw [Nat.zero_add] at this; exact this
        have x2 : wr.cell? ⟨k2, i, none⟩ = some (.int .u8 (z2[i]?.getD 0)) := by have := cells_below hc2 hk2 hbel i hlt; rw [Nat.zero_add] at this; exact this
        have x3 : wr.cell? ⟨k3, i, none⟩ = some (.int .u32 (z3[i]?.getD 0)) := by have := cells_below hc3 hk3 hbel i hlt; rw [Nat.zero_add] at this; exact this
        have x4 : wr.cell? ⟨k4, i, none⟩ = some (.int .i64 (z4[i]?.getD 0)) := by have := cells_below hc4 hk4 hbel i hlt; rw [Nat.zero_add] at this; exact this
        have x5 : wr.cell? ⟨k5, i, none⟩ = some (.int .u64 (z5[i]?.getD 0)) := by have := cells_below hc5 hk5 hbel i hlt; rw [Nat.zero_add] at this; exact this
        clear hq hr hc0 hc1 hc2 hc3 hc4 hc5 hbel
        generalize z2[i]?.getD 0 = v2 at *
        generalize z3[i]?.getD 0 = v3 at *
        generalize z4[i]?.getD 0 = v4 at *
        generalize z5[i]?.getD 0 = v5 at *
        have i0 : (i : Int) < (n : Int) := by omega
        obtain ⟨k, hk⟩ : ∃ k : Nat, (r : Int) % 4 = k := ⟨r % 4, by omega⟩
        have hk4 : k < 4 := by omega
        clear hr2
        go_upto_block 2 with fail
        clear x1
        go_cut [28] (fun hx wx => ∃ (hd' : Bool) (P' : Nat → Bool) (V' F' E' C' : Nat → Int), hx = .bool hd' ∧ Hid (Inv w6 wx w6.heap.size (i + 1) fl vw hd' hi P' V' F' E' C'))
        case first =>
          rcases (show q % 3 = 0 ∨ q % 3 = 1 ∨ q % 3 = 2 by omega) with h3 | h3 | h3
          · as_aux_lemma =>
            have e0 : ((q : Int) % 3 == 0) = true := by simp; omega
            clear h3
            obtain ⟨M, bs, hc, ha, hl⟩ := HI.out
            have gA : ∀ o, wr.grownBy ((wr.alloc o).drew) none := fun o => ⟨rfl, rfl, rfl, (World.grownBy_alloc wr o none).size, (World.grownBy_alloc wr o none).block⟩
            have HC := hid hc
            have HA := hid ha
            have HL := hid hl
            have GA := hid gA
            clear hc ha hl gA HI
            have hmx : i < maxLen := by unfold maxLen; omega
            go_wp2_with fail
            go_region_held (fun w' => w'.cell? ⟨k2, i, none⟩ = some (.int .u8 v2) ∧ w'.cell? ⟨k3, i, none⟩ = some (.int .u32 v3) ∧ w'.cell? ⟨k4, i, none⟩ = some (.int .i64 v4) ∧ w'.cell? ⟨k5, i, none⟩ = some (.int .u64 v5)) (go_keep)
              (first | (go_at_call 26; refine (keyName_any k hk4 _).mono ?_; rintro e1 w1 ⟨rfl, rfl⟩) | (go_at_call 25; refine (put_any w6.heap.size i k wr.heap.size v3 v4 v5 fl vw hd hi M _ hk4 hmx (by exact map_kept HC.out.map (GA.out _) (by simp)) (by exact part_kept HC.out.part (GA.out _) (by simp))).mono ?_; rintro e2 w2 ⟨rfl, hM2, hg2⟩; have hT := grown_to (GA.out _) hg2; have y2 := cell_grown hT x2 (by simp; omega); have y3 := cell_grown hT x3 (by simp; omega); have y4 := cell_grown hT x4 (by simp; omega); have y5 := cell_grown hT x5 (by simp; omega)))
            all_goals
              have ha2 := (HA.out.keep HC.out.size (GA.out _) (.inl rfl)).keep (HC.out.keep (GA.out _)).size hg2 (.inr (.inl rfl))
              have p0 := ha2.cP hk4
              have p1 := ha2.cV hk4
              have p2 := ha2.cF hk4
              have p3 := ha2.cE hk4
              have p4 := ha2.cC hk4
              have f0 := ha2.fP k
              have f1 := ha2.fV k
              have f2 := ha2.fF k
              have f3 := ha2.fE k
              have f4 := ha2.fC k
              have HM2 := hid hM2
              have HG2 := hid hg2
              clear ha2 hM2 hg2 hT x2 x3 x4 x5
              have m20 : ¬ k2 = w6.heap.size + 1 + 1 := by omega
              have m30 : ¬ k3 = w6.heap.size + 1 + 1 := by omega
              have m31 : ¬ k3 = w6.heap.size + 1 + 1 + 1 := by omega
              have m40 : ¬ k4 = w6.heap.size + 1 + 1 := by omega
              have m41 : ¬ k4 = w6.heap.size + 1 + 1 + 1 := by omega
              have m42 : ¬ k4 = w6.heap.size + 1 + 1 + 1 + 1 := by omega
              have m50 : ¬ k5 = w6.heap.size + 1 + 1 := by omega
              have m51 : ¬ k5 = w6.heap.size + 1 + 1 + 1 := by omega
              have m52 : ¬ k5 = w6.heap.size + 1 + 1 + 1 + 1 := by omega
              have m53 : ¬ k5 = w6.heap.size + 1 + 1 + 1 + 1 + 1 := by omega
              go_wp2
              go_meet
              exact ⟨hd, _, _, _, _, _, rfl, inv_put HC.out HA.out HL.out hk4 (GA.out _) (Nat.le_refl _) (by simp) HM2.out HG2.out⟩
          · as_aux_lemma =>
            have e0 : ((q : Int) % 3 == 0) = false := by simp; omega
            have e1 : ((q : Int) % 3 == 1) = true := by simp; omega
            clear h3
            obtain ⟨M, bs, hc, ha, hl⟩ := HI.out
            have HC := hid hc
            have HA := hid ha
            have HL := hid hl
            clear hc ha hl HI
            go_wp2_with (first | (go_at_call 26; refine (keyName_any k hk4 _).mono ?_; rintro e1 w1 ⟨rfl, rfl⟩) | (go_at_call 25; refine (remove_any w6.heap.size i k fl vw hd hi M _ hk4 HC.out.map HC.out.part).mono ?_; rintro e2 w2 ⟨rfl, hM2, hg2⟩; have ha2 := HA.out.keep HC.out.size hg2 (.inr (.inl rfl)); have p0 := ha2.cP hk4; have f0 := ha2.fP k; clear ha2))
            go_meet
            exact ⟨hd, _, _, _, _, _, rfl, (inv_remove HC.out HA.out HL.out hk4 ‹_› ‹_›).mono (Nat.le_succ _)⟩
          · as_aux_lemma =>
            have e0 : ((q : Int) % 3 == 0) = false := by simp; omega
            have e1 : ((q : Int) % 3 == 1) = false := by simp; omega
            clear h3
            have hp := hid (show PartIs wr w6.heap.size fl vw hd hi from by obtain ⟨M, bs, hc, _⟩ := HI.out; exact hc.part)
            go_wp2_with (go_at_call 27; refine (hold_any w6.heap.size fl vw hd hi _ hp.out).mono ?_; rintro e2 w2 ⟨rfl, hp2, hg2⟩)
            go_meet
            exact ⟨true, P, V, F, E, C, rfl, (inv_hold HI.out ‹_› ‹_›).mono (Nat.le_succ _)⟩
        case rest => as_aux_lemma =>
          clear x0 x2 x3 x4 x5 HI
          obtain ⟨hd', P', V', F', E', C', rfl, HI'⟩ := hcut
          go_wp2
          go_loopg [32] 4 (fun g jx wq => ∃ j : Nat, j + g = 4 ∧ jx = .int .i64 j ∧ Hid (Inv w6 wq w6.heap.size (i + 1) fl vw hd' hi P' V' F' E' C'))
          case atStart => exact ⟨0, by omega, rfl, HI'⟩
          case round => as_aux_lemma =>
            clear HI'
            obtain ⟨j, hj, rfl, HJ⟩ := hrel
            by_cases hj4 : j < 4
            · obtain ⟨M, bs, hc, ha, hl⟩ := HJ.out
              have HC := hid hc
              have HA := hid ha
              have HL := hid hl
              clear hc ha hl
              have j0 : (j : Int) < 4 := by omega
              by_cases hok : P' j = true ∧ liveB fl now (E' j) = true
              · as_aux_lemma =>
                obtain ⟨hPj, hlv⟩ := hok
                have LV := hid (zzlive w6.heap.size (kn j) now _ _ _ _ _ _ true wr (live39_yes w6.heap.size (i + 1) j (bs j) (F' j) (E' j) (C' j) fl vw now hd' hi M wr hj4 HC.out.map HC.out.part ((HL.out j hj4).2 hPj) hlv))
                have hvl := HC.out.val j hj4 hPj
                have hfd : fdB fl now = false := by cases hx : fdB fl now with | false => rfl | true => (rw [liveB_eq, hx] at hlv; simp at hlv)
                have hex : (E' j != 0) = false ∨ ((E' j != 0) = true ∧ now < E' j) := by
                  rw [liveB_eq, hfd] at hlv
                  by_cases h : E' j = 0
                  · exact .inl (by simp [h])
                  · exact .inr ⟨by simp [h], by simp [h] at hlv; omega⟩
                have HFD := hid hfd
                have HEX := hid hex
                have HVL := hid hvl
                have HPJ := hid hPj
                clear hfd hex hvl hPj hlv
                go_upto_region 41 with (first | (go_at_call 26; refine (keyName_any j hj4 _).mono ?_; rintro e1 w1 ⟨rfl, rfl⟩) | (go_at_call 28; refine LV.out.mono ?_; rintro e2 w2 ⟨rfl, hb2⟩; have ha2 := HA.out.keep HC.out.size (grown_of_below hb2) (.inl rfl); have cP2 := ha2.cP hj4; have cV2 := ha2.cV hj4; have cF2 := ha2.cF hj4; have cE2 := ha2.cE hj4; have cC2 := ha2.cC hj4; have cb2 := cell_grown (grown_of_below hb2) HVL.out.2 (by simp); have HJ2 := hid (HJ.out.below hb2); rw [HPJ.out] at cP2; clear ha2 hb2))
                clear LV HC HA HL HVL HPJ HJ
                go_cut [29, 38] (fun x y wx => x = .bool (fdB fl now) ∧ y = .bool true ∧ wx = w2)
                case first => as_aux_lemma =>
                  clear cV2 cF2 cC2 cb2
                  rcases HEX.out with ex | ⟨ex, ex2⟩
                  · have hfd : fdB fl now = false := HFD.out
                    go_wp2
                    go_meet
                    exact ⟨by rw [HFD.out], rfl, rfl⟩
                  · have hfd : fdB fl now = false := HFD.out
                    have EX2 := hid ex2
                    go_wp2
                    go_meet
                    exact ⟨by rw [HFD.out], by have := EX2.out; simp; omega, rfl⟩
                case rest => as_aux_lemma =>
                  obtain ⟨rfl, rfl, rfl⟩ := hcut
                  go_wp2
                  go_quiet (fail)
                  go_wp2
                  go_roundg (4 - (j + 1))
                  case measure => omega
                  case rel => exact ⟨j + 1, by omega, by go_num, hid (HJ2.out.below (below_drewN (Below.refl _ _) _))⟩
              · as_aux_lemma =>
                have h39 : Calls Try.prog 39 #[.pointer (some ⟨w6.heap.size + 1, 0, none⟩), .string (kn j), .int .i64 now] wr fun e' w' => e' = .returned (.tuple #[.agg #[.slice none 0 0, .int .u32 0, .int .i64 0, .int .u64 0], .bool false]) ∧ Below wr.heap.size wr w' := by
                  cases hPj : P' j with
                  | false => exact live39_none w6.heap.size (i + 1) j fl vw now hd' hi M wr hj4 HC.out.map HC.out.part ((HL.out j hj4).1 hPj)
                  | true => exact live39_dead w6.heap.size (i + 1) j (bs j) (F' j) (E' j) (C' j) fl vw now hd' hi M wr hj4 HC.out.map HC.out.part ((HL.out j hj4).2 hPj) (by cases hx : liveB fl now (E' j) with | false => rfl | true => exact absurd ⟨hPj, hx⟩ hok)
                have LV := hid (zzlive w6.heap.size (kn j) now _ _ _ _ _ _ false wr h39)
                have hcs : P' j = false ∨ (P' j = true ∧ fdB fl now = true) ∨ (P' j = true ∧ fdB fl now = false ∧ (E' j != 0) = true ∧ E' j ≤ now) := by
                  cases hPj : P' j with
                  | false => exact .inl rfl
                  | true =>
                    refine .inr ?_
                    have hlv : liveB fl now (E' j) = false := by cases hx : liveB fl now (E' j) with | false => rfl | true => exact absurd ⟨hPj, hx⟩ hok
                    rw [liveB_eq] at hlv
                    cases hfd : fdB fl now with
                    | true => exact .inl ⟨rfl, rfl⟩
                    | false =>
                      rw [hfd] at hlv
                      simp at hlv
                      exact .inr ⟨rfl, rfl, by simp [hlv.1], hlv.2⟩
                have HCS := hid hcs
                clear h39 hcs hok
                go_upto_region 41 with (first | (go_at_call 26; refine (keyName_any j hj4 _).mono ?_; rintro e1 w1 ⟨rfl, rfl⟩) | (go_at_call 28; refine LV.out.mono ?_; rintro e2 w2 ⟨rfl, hb2⟩; have ha2 := HA.out.keep HC.out.size (grown_of_below hb2) (.inl rfl); have cP2 := ha2.cP hj4; have cE2 := ha2.cE hj4; have HJ2 := hid (HJ.out.below hb2); clear ha2 hb2))
                clear LV HC HA HL HJ
                go_cut [29, 38] (fun x y wx => x = .bool (fdB fl now) ∧ y = .bool false ∧ wx = w2)
                case first => as_aux_lemma =>
                  rcases HCS.out with c1 | ⟨c1, c2⟩ | ⟨c1, c2, c3, c4⟩
                  · rw [c1] at cP2
                    clear c1
                    go_wp2
                    go_meet
                    exact ⟨rfl, rfl, rfl⟩
                  · rw [c1] at cP2
                    have C2 := hid c2
                    clear c1
                    go_wp2
                    go_meet
                    exact ⟨by rw [C2.out], rfl, rfl⟩
                  · rw [c1] at cP2
                    have C2 := hid c2
                    have C4 := hid c4
                    clear c1
                    go_wp2
                    go_meet
                    exact ⟨by rw [C2.out], by first | rfl | (have := C4.out; simp; omega), rfl⟩
                case rest => as_aux_lemma =>
                  obtain ⟨rfl, rfl, rfl⟩ := hcut
                  clear cP2 cE2 HCS
                  go_wp2
                  go_roundg (4 - (j + 1))
                  case measure => omega
                  case rel => exact ⟨j + 1, by omega, by go_num, HJ2⟩
            · as_aux_lemma =>
              have hp := hid (show PartIs wr w6.heap.size fl vw hd' hi from by obtain ⟨M, bs, hc, _⟩ := HJ.out; exact hc.part)
              cases hd' with
              | true => as_aux_lemma =>
                go_wp2_with (go_at_call 29; refine (copyView_any w6.heap.size fl vw true hi _ hp.out).mono ?_; rintro e3 w3 ⟨rfl, rfl⟩)
                go_roundg (n - (i + 1))
                case measure => omega
                case rel => exact ⟨i + 1, true, P', V', F', E', C', by omega, rfl, by go_num, HJ⟩
              | false => as_aux_lemma =>
                go_wp2_with (go_at_call 29; refine (copyView_any w6.heap.size fl vw false hi _ hp.out).mono ?_; rintro e3 w3 ⟨rfl, rfl⟩)
                go_roundg (n - (i + 1))
                case measure => omega
                case rel => exact ⟨i + 1, false, P', V', F', E', C', by omega, rfl, by go_num, HJ⟩
      · as_aux_lemma =>
        have hBr : Below w.heap.size w wr := by
          obtain ⟨M, bs, hc, _⟩ := HI.out
          exact hB.trans (hc.bel.mono hB.size)
        go_wp2
        go_ret
        exact ⟨rfl, hBr⟩
end Go.Proofs.Qxb6003334a

import Derived.Test.Qxb6604766aFmtRows
import Derived.Test.Qxb6604766aFmtPlain
import Derived.WalkKit
import Derived.WalkSpells
import Derived.WalkLawsBesides
import Derived.BigQuiet
import Derived.Deep.RegionHeld
namespace Go.Proofs.Qxb6604766aFmt
open Go.RowKit

theorem ret_bool {a b : Bool} (h : a = b) : Ending.returned (.bool a) = .returned (.bool b) := by rw [h]
theorem ret_int {k : IntKind} {a b : Int} (h : a = b) : Ending.returned (.int k a) = .returned (.int k b) := by rw [h]
theorem hid {p : Prop} (h : p) : Hid p := h

/-- It answers a bool; where that is no, s has no ':'. -/
def NoColon (s : ByteArray) (e : Ending) : Prop := ∃ b, e = .returned (.bool b) ∧ (b = false → ∀ i (h : i < s.size), ((s[i].toNat : Int) == 58) = false)
/-- It answers a bool; where that is no, s has no ": ". -/
def NoCS (s : ByteArray) (e : Ending) : Prop := ∃ b, e = .returned (.bool b) ∧ (b = false → ∀ i (h : i + 1 < s.size), ¬ (s[i].toNat = 58 ∧ s[i + 1].toNat = 32))

set_option maxHeartbeats 400000 in
/-- containsByte(s, ':'): where it says no, there is none. -/
theorem contains_any (s : ByteArray) (w : World) (hs : s.size ≤ 262144) :
    Calls Tryf.prog 11 #[.string s, .int .u8 58] w fun e w' => NoColon s e ∧ w' = w := by
  go_enter Tryf.func11, Tryf.ntmps11
  go_wp2
  go_loop [5] (fun i => ∃ k : Nat, k ≤ s.size ∧ i = .int .i64 k ∧ Hid (∀ i (h : i < s.size), i < k → ((s[i].toNat : Int) == 58) = false)) (fun i => s.size - (intOf i).toNat)
  case atStart => exact ⟨0, Nat.zero_le _, rfl, fun i _ h => absurd h (Nat.not_lt_zero _)⟩
  case round =>
    obtain ⟨k, hk, rfl, hc⟩ := hrel
    by_cases hlt : k < s.size
    · go_wp2
      · go_ret
        exact ⟨⟨true, rfl, fun h => by cases h⟩, rfl⟩
      · go_round
        case rel =>
          refine ⟨k + 1, by omega, by go_num, ?_⟩
          intro i hi hik
          by_cases e : i = k
          · subst e; assumption
          · exact hc.out i hi (by omega)
        case measure => simp [intOf]; omega
    · go_wp2
      go_ret
      exact ⟨⟨false, rfl, fun _ i h => hc.out i h (by omega)⟩, rfl⟩

set_option maxHeartbeats 400000 in
/-- hasColonSpace(s): where it says no, there is no ": " in s. -/
theorem hasCS_any (s : ByteArray) (w : World) (hs : s.size ≤ 262144) :
    Calls Tryf.prog 12 #[.string s] w fun e w' => NoCS s e ∧ w' = w := by
  go_enter Tryf.func12, Tryf.ntmps12
  go_wp2
  go_loop [3] (fun i => ∃ k : Nat, k ≤ s.size ∧ i = .int .i64 k ∧ Hid (∀ i (h : i + 1 < s.size), i < k → ¬ (s[i].toNat = 58 ∧ s[i + 1].toNat = 32))) (fun i => s.size - (intOf i).toNat)
  case atStart => exact ⟨0, Nat.zero_le _, rfl, fun i _ h => absurd h (Nat.not_lt_zero _)⟩
  case round =>
    obtain ⟨k, hk, rfl, hc⟩ := hrel
    by_cases hlt : k + 1 < s.size
    · go_wp2
      · go_ret
        exact ⟨⟨true, rfl, fun h => by cases h⟩, rfl⟩
      · go_round
        case rel =>
          refine ⟨k + 1, by omega, by go_num, ?_⟩
          have hne : ((s[k + 1].toNat : Int) == 32) = false := by assumption
          intro i hi hik
          by_cases e : i = k
          · subst e; intro hh; rw [hh.2] at hne; simp at hne
          · exact hc.out i hi (by omega)
        case measure => simp [intOf]; omega
      · go_round
        case rel =>
          refine ⟨k + 1, by omega, by go_num, ?_⟩
          have hne : ¬ (s[k].toNat : Int) = 58 := by assumption
          intro i hi hik
          by_cases e : i = k
          · subst e; intro hh; exact hne (by rw [hh.1]; rfl)
          · exact hc.out i hi (by omega)
        case measure => simp [intOf]; omega
    · go_wp2
      go_ret
      exact ⟨⟨false, rfl, fun _ i h => hc.out i h (by omega)⟩, rfl⟩

set_option maxHeartbeats 400000 in
theorem magn_any (n : Int) (w : World) (h0 : -9223372036854775808 ≤ n) (h1 : n ≤ 9223372036854775807) :
    Calls Tryf.prog 14 #[.int .i64 n] w fun e w' => e = .returned (.int .u64 n.natAbs) ∧ w' = w := by
  by_cases hn : n < 0
  · go_enter Tryf.func14, Tryf.ntmps14
    go_wp2
    go_ret
    refine ⟨ret_int ?_, rfl⟩
    simp only [IntKind.wrap_u64]
    omega
  · go_enter Tryf.func14, Tryf.ntmps14
    go_wp2
    go_ret
    exact ⟨ret_int (by omega), rfl⟩

set_option maxHeartbeats 400000 in
/-- splitColonSpace: at the first ": ". -/
theorem split_any (t rule msg : ByteArray) (w : World) (hs : t.size ≤ 1048576) (ht : At t 0 (rule.data.toList ++ (58 :: 32 :: msg.data.toList))) (hno : ∀ i (h : i + 1 < rule.size), ¬ (rule[i].toNat = 58 ∧ rule[i + 1].toNat = 32)) :
    Calls Tryf.prog 15 #[.string t] w fun e w' => e = .returned (.tuple #[.string rule, .string msg, .bool true]) ∧ ∃ n, w' = w.drewN n := by
  have hsz := at_size ht
  have hlen : rule.data.toList.length = rule.size := by simp
  simp only [List.length_append, List.length_cons, hlen, Nat.zero_add] at hsz
  have e1 : t.extract 0 rule.size = rule := by simpa using at_take ht
  have hr := at_app ht
  rw [hlen, Nat.zero_add] at hr
  obtain ⟨_, hr1, hr⟩ := at_cons hr
  obtain ⟨_, hr2, hr⟩ := at_cons hr
  have e2 : t.extract (rule.size + 2) t.size = msg := at_rest hr
  have hlow : ∀ k (h : k < rule.size) (h' : k < t.size), t[k] = rule[k] := fun k h h' => by
    have := at_get ht (j := k) (by omega) (by omega)
    simp only [Nat.zero_add] at this
    rw [this]; rfl
  have HL := hid hlow
  have H1 := hid hr1
  have H1' : Hid (∀ j, j = rule.size → ∀ h : j < t.size, t[j] = 58) := fun j hj h => by subst hj; exact hr1 h
  have H2 := hid hr2
  have HN := hid hno
  have hs2 : rule.size + 2 ≤ t.size := by omega
  clear hsz hlen hr hr1 hr2 hlow ht hno
  go_enter Tryf.func15, Tryf.ntmps15
  go_wp2
  go_loop [5] (fun i => ∃ k : Nat, k ≤ rule.size ∧ i = .int .i64 k) (fun i => t.size - (intOf i).toNat)
  case atStart => exact ⟨0, Nat.zero_le _, rfl⟩
  case round =>
    obtain ⟨k, hk, rfl⟩ := hrel
    have hk1 : k + 1 < t.size := by omega
    by_cases hlt : k < rule.size
    · by_cases hc : t[k].toNat = 58
      · have hb : ((t[k].toNat : Int) == 58) = true := by rw [hc]; rfl
        have hb2 : ((t[k + 1].toNat : Int) == 32) = false := by
          by_cases hl : k + 1 < rule.size
          · have a1 := HL.out k hlt (by omega)
            have a2 := HL.out (k + 1) hl hk1
            have a3 := HN.out k hl
            rw [a1] at hc
            rw [a2]
            simp
            intro h
            exact a3 ⟨hc, by omega⟩
          · rw [H1'.out (k + 1) (by omega) hk1]; rfl
        clear hc
        go_wp2
        go_round
        case rel => exact ⟨k + 1, by omega, by go_num⟩
        case measure => simp [intOf]; omega
      · have hb : ((t[k].toNat : Int) == 58) = false := by simp; omega
        clear hc
        go_wp2
        go_round
        case rel => exact ⟨k + 1, by omega, by go_num⟩
        case measure => simp [intOf]; omega
    · obtain rfl : k = rule.size := by omega
      have hb : ((t[rule.size].toNat : Int) == 58) = true := by rw [H1.out]; rfl
      have hb2 : ((t[rule.size + 1].toNat : Int) == 32) = true := by rw [H2.out]; rfl
      have q1 : (rule.size : Int) + 2 ≤ (t.size : Int) := by omega
      go_wp2
      go_quiet (fail)
      go_wp2
      go_ret3
      exact ⟨congrArg (fun x => Ending.returned (.tuple #[.string rule, .string x, .bool true])) e2, _, rfl⟩

theorem ret4 {b : Bool} {x x' : Int} {y y' : Int} {c : Bool} (h : x = x') (k : y = y') : Ending.returned (.tuple #[.bool b, .int .u64 x, .int .i64 y, .bool c]) = .returned (.tuple #[.bool b, .int .u64 x', .int .i64 y', .bool c]) := by rw [h, k]

/-- What is read of the numeral's digits at p. -/
theorem dig_step (s : ByteArray) (start u : Nat) (l : List UInt8) (h : At s start (Lib.decDigits u ++ l)) (p : Nat) (h1 : start ≤ p) (h2 : p < start + (Lib.decDigits u).length) :
    ∃ hp : p < s.size, 48 ≤ s[p].toNat ∧ s[p].toNat ≤ 57 ∧ val ((Lib.decDigits u).take (p + 1 - start)) = val ((Lib.decDigits u).take (p - start)) * 10 + (s[p].toNat - 48) := by
  have hs := at_size h
  rw [List.length_append] at hs
  have hp : p < s.size := by omega
  obtain ⟨j, rfl⟩ : ∃ j, p = start + j := ⟨p - start, by omega⟩
  have hj : j < (Lib.decDigits u).length := by omega
  have hg := at_get h hj hp
  have hd := dec_digits u (Lib.decDigits u)[j] (List.getElem_mem hj)
  refine ⟨hp, by rw [hg]; exact hd.1, by rw [hg]; exact hd.2, ?_⟩
  have e1 : start + j + 1 - start = j + 1 := by omega
  have e2 : start + j - start = j := by omega
  rw [e1, e2, List.take_succ_eq_append_getElem hj, val_snoc, hg]

/-- A numeral of more than one digit does not begin with 0. -/
theorem lead (s : ByteArray) (start u : Nat) (l : List UInt8) (h : At s start (Lib.decDigits u ++ l)) (hL : 1 < (Lib.decDigits u).length) : ∀ hp : start < s.size, s[start].toNat ≠ 48 := by
  intro hp
  have hu0 : 0 < u := by
    rcases Nat.eq_zero_or_pos u with e | e
    · rw [e, dec_small (by omega)] at hL; simp at hL
    · exact e
  have hj : 0 < (Lib.decDigits u).length := by omega
  have hg := at_get h hj (by omega)
  simp only [Nat.add_zero] at hg
  rw [hg]
  exact dec_head u hu0 _ (List.getElem?_eq_getElem hj)

set_option maxRecDepth 100000 in
set_option maxHeartbeats 1000000 in
/-- readDecimal at a numeral without a sign. -/
theorem readPos_any (s : ByteArray) (start u : Nat) (l : List UInt8) (w : World) (hs : s.size ≤ 1048576) (hu : u ≤ 9223372036854775808) (h : At s start (Lib.decDigits u ++ (58 :: l))) :
    Calls Tryf.prog 13 #[.string s, .int .i64 start] w fun e w' => e = .returned (.tuple #[.bool false, .int .u64 u, .int .i64 (start + (Lib.decDigits u).length : Nat), .bool true]) ∧ w' = w := by
  have H := hid h
  have hsz := at_size h
  simp only [List.length_append, List.length_cons] at hsz
  have hpos := dec_pos u
  have hlen := dec_len 18 u (by omega)
  have hend := at_app h
  have hcol := (at_cons hend).2.1
  have HC := hid hcol
  have hle := hid (val_take_le (Lib.decDigits u))
  have hval := hid (dec_val u)
  have hhead := hid (dec_head u)
  clear hend hcol h
  obtain ⟨L, hL⟩ : ∃ L, (Lib.decDigits u).length = L := ⟨_, rfl⟩
  rw [hL] at hsz hpos hlen HC ⊢
  have HLn := hid hL
  clear hL
  have hs1 : start + L < s.size := by omega
  obtain ⟨hp0, hd0, hd1, _⟩ := dig_step s start u (58 :: l) H.out start (Nat.le_refl _) (by rw [HLn.out]; omega)
  have hm0 : ((s[start].toNat : Int) == 45) = false := by simp; omega
  go_enter Tryf.func13, Tryf.ntmps13
  go_wp2
  go_loop [1, 10] (fun i m => ∃ p : Nat, start ≤ p ∧ p ≤ start + L ∧ i = .int .i64 p ∧ m = .int .u64 (val ((Lib.decDigits u).take (p - start)) : Nat)) (fun i _ => s.size - (intOf i).toNat)
  case atStart => exact ⟨start, Nat.le_refl _, by omega, rfl, by simp [val]⟩
  case round =>
    obtain ⟨p, hp1, hp2, rfl, rfl⟩ := hrel
    by_cases hlt : p < start + L
    · obtain ⟨hp, hq0, hq1, hv⟩ := dig_step s start u (58 :: l) H.out p hp1 (by rw [HLn.out]; omega)
      have hb := hle.out (p + 1 - start)
      rw [hval.out, hv] at hb
      have HV := hid hv
      clear hv
      generalize val ((Lib.decDigits u).take (p - start)) = V at *
      have hq0' : (48 : Int) ≤ (s[p].toNat : Int) := by omega
      have hq1' : (s[p].toNat : Int) ≤ 57 := by omega
      go_wp2
      go_round
      case rel => exact ⟨p + 1, by omega, by omega, by go_num, by rw [HV.out]; go_num⟩
      case measure => simp [intOf]; omega
    · have hpe : start + L ≤ p := by omega
      have hV : val ((Lib.decDigits u).take (p - start)) = u := by
        rw [List.take_of_length_le (by rw [HLn.out]; omega)]; exact hval.out
      rw [hV]
      clear hV
      have hps : p < s.size := by omega
      have hc : s[p].toNat = 58 := by
        have e : p = start + L := by omega
        have := HC.out hs1
        simp only [← e] at this
        rw [this]; rfl
      have hc1 : (57 : Int) < (s[p].toNat : Int) := by omega
      have hc3 : (48 : Int) ≤ (s[p].toNat : Int) := by omega
      have hc2 : ((s[p].toNat : Int) != 58) = false := by simp; omega
      have hne : ((p : Int) == (start : Int)) = false := by simp; omega
      clear hc
      have hcase : Hid (L ≤ 1 ∨ (1 < L ∧ ((s[start].toNat : Int) == 48) = false)) := by
        by_cases hL1 : L ≤ 1
        · exact .inl hL1
        · refine .inr ⟨by omega, ?_⟩
          have := lead s start u _ H.out (by rw [HLn.out]; omega) hp0
          simp; omega
      rcases hcase.out with hL1 | ⟨hL1, hz⟩
      · clear hcase
        go_wp2
        refine bodyPost_ret (v := .tuple #[.bool false, .int .u64 u, .int .i64 p, .bool true]) (by simp [results, Tryf.results13, go_sem]) rfl ⟨ret4 rfl (by omega), rfl⟩
      · clear hcase
        go_wp2
        refine bodyPost_ret (v := .tuple #[.bool false, .int .u64 u, .int .i64 p, .bool true]) (by simp [results, Tryf.results13, go_sem]) rfl ⟨ret4 rfl (by omega), rfl⟩
set_option maxRecDepth 100000 in
set_option maxHeartbeats 1000000 in
/-- readDecimal at a numeral with a sign. -/
theorem readNeg_any (s : ByteArray) (start u : Nat) (l : List UInt8) (w : World) (hs : s.size ≤ 1048576) (hu : u ≤ 9223372036854775808) (hu1 : 0 < u) (h0 : At s start (45 :: (Lib.decDigits u ++ (58 :: l)))) :
    Calls Tryf.prog 13 #[.string s, .int .i64 start] w fun e w' => e = .returned (.tuple #[.bool true, .int .u64 u, .int .i64 (start + 1 + (Lib.decDigits u).length : Nat), .bool true]) ∧ w' = w := by
  obtain ⟨hst, hmin, h⟩ := at_cons h0
  have hm0 : ((s[start].toNat : Int) == 45) = true := by rw [hmin hst]; rfl
  clear hmin h0
  have hu0 : ((u : Int) == 0) = false := by simp; omega
  have H := hid h
  have hsz := at_size h
  simp only [List.length_append, List.length_cons] at hsz
  have hpos := dec_pos u
  have hlen := dec_len 18 u (by omega)
  have hend := at_app h
  have hcol := (at_cons hend).2.1
  have HC := hid hcol
  have hle := hid (val_take_le (Lib.decDigits u))
  have hval := hid (dec_val u)
  have hhead := hid (dec_head u)
  clear hend hcol h
  obtain ⟨L, hL⟩ : ∃ L, (Lib.decDigits u).length = L := ⟨_, rfl⟩
  rw [hL] at hsz hpos hlen HC ⊢
  have HLn := hid hL
  clear hL
  have hs1 : start + 1 + L < s.size := by omega
  obtain ⟨hp0, hd0, hd1, _⟩ := dig_step s (start + 1) u (58 :: l) H.out (start + 1) (Nat.le_refl _) (by rw [HLn.out]; omega)
  go_enter Tryf.func13, Tryf.ntmps13
  go_wp2
  go_loop [1, 10] (fun i m => ∃ p : Nat, start + 1 ≤ p ∧ p ≤ start + 1 + L ∧ i = .int .i64 p ∧ m = .int .u64 (val ((Lib.decDigits u).take (p - (start + 1))) : Nat)) (fun i _ => s.size - (intOf i).toNat)
  case atStart => exact ⟨start + 1, Nat.le_refl _, by omega, by go_num, by simp [val]⟩
  case round =>
    obtain ⟨p, hp1, hp2, rfl, rfl⟩ := hrel
    by_cases hlt : p < start + 1 + L
    · obtain ⟨hp, hq0, hq1, hv⟩ := dig_step s (start + 1) u (58 :: l) H.out p hp1 (by rw [HLn.out]; omega)
      have hb := hle.out (p + 1 - (start + 1))
      rw [hval.out, hv] at hb
      have HV := hid hv
      clear hv
      generalize val ((Lib.decDigits u).take (p - (start + 1))) = V at *
      have hq0' : (48 : Int) ≤ (s[p].toNat : Int) := by omega
      have hq1' : (s[p].toNat : Int) ≤ 57 := by omega
      go_wp2
      go_round
      case rel => exact ⟨p + 1, by omega, by omega, by go_num, by rw [HV.out]; go_num⟩
      case measure => simp [intOf]; omega
    · have hpe : start + 1 + L ≤ p := by omega
      have hV : val ((Lib.decDigits u).take (p - (start + 1))) = u := by
        rw [List.take_of_length_le (by rw [HLn.out]; omega)]; exact hval.out
      rw [hV]
      clear hV
      have hps : p < s.size := by omega
      have hc : s[p].toNat = 58 := by
        have e : p = start + 1 + L := by omega
        have := HC.out hs1
        simp only [← e] at this
        rw [this]; rfl
      have hc1 : (57 : Int) < (s[p].toNat : Int) := by omega
      have hc3 : (48 : Int) ≤ (s[p].toNat : Int) := by omega
      have hc2 : ((s[p].toNat : Int) != 58) = false := by simp; omega
      have hne : ((p : Int) == (start : Int) + 1) = false := by simp; omega
      clear hc
      have hcase : Hid (L ≤ 1 ∨ (1 < L ∧ ((s[start + 1].toNat : Int) == 48) = false)) := by
        by_cases hL1 : L ≤ 1
        · exact .inl hL1
        · refine .inr ⟨by omega, ?_⟩
          have := lead s (start + 1) u _ H.out (by rw [HLn.out]; omega) hp0
          simp; omega
      rcases hcase.out with hL1 | ⟨hL1, hz⟩
      · clear hcase
        go_wp2
        refine bodyPost_ret (v := .tuple #[.bool true, .int .u64 u, .int .i64 p, .bool true]) (by simp [results, Tryf.results13, go_sem]) rfl ⟨ret4 rfl (by omega), rfl⟩
      · clear hcase
        go_wp2
        refine bodyPost_ret (v := .tuple #[.bool true, .int .u64 u, .int .i64 p, .bool true]) (by simp [results, Tryf.results13, go_sem]) rfl ⟨ret4 rfl (by omega), rfl⟩
end Go.Proofs.Qxb6604766aFmt

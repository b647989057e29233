import Derived.Lib.ItoaNum
namespace Go.Proofs.Qxb6604766aFmt

/-- The number that a list of decimal digits spells. -/
def val (l : List UInt8) : Nat := l.foldl (fun a c => a * 10 + (c.toNat - 48)) 0

theorem val_snoc (l : List UInt8) (c : UInt8) : val (l ++ [c]) = val l * 10 + (c.toNat - 48) := by
  simp [val, List.foldl_append]

theorem fold_ge : ∀ (r : List UInt8) (a : Nat), a ≤ r.foldl (fun a c => a * 10 + (c.toNat - 48)) a
  | [], a => Nat.le_refl _
  | c :: r, a => by
    have := fold_ge r (a * 10 + (c.toNat - 48))
    simp only [List.foldl_cons]
    omega

theorem val_take_le (l : List UInt8) (j : Nat) : val (l.take j) ≤ val l := by
  have h : val l = (l.drop j).foldl (fun a c => a * 10 + (c.toNat - 48)) (val (l.take j)) := by
    unfold val
    rw [← List.foldl_append, List.take_append_drop]
  rw [h]
  exact fold_ge _ _

theorem dig_nat (d : Nat) (h : d < 10) : (UInt8.ofNat (48 + d)).toNat = 48 + d := by
  rw [UInt8.toNat_ofNat']; omega

theorem dec_small {u : Nat} (h : u < 10) : Lib.decDigits u = [UInt8.ofNat (48 + u)] := by rw [Lib.decDigits, dif_pos h]
theorem dec_big {u : Nat} (h : ¬ u < 10) : Lib.decDigits u = Lib.decDigits (u / 10) ++ [UInt8.ofNat (48 + u % 10)] := by rw [Lib.decDigits, dif_neg h]

theorem dec_digits (u : Nat) : ∀ c ∈ Lib.decDigits u, 48 ≤ c.toNat ∧ c.toNat ≤ 57 := by
  induction u using Nat.strongRecOn with
  | _ u ih =>
    intro c hc
    by_cases h : u < 10
    · rw [dec_small h, List.mem_singleton] at hc
      rw [hc, dig_nat u h]; omega
    · rw [dec_big h, List.mem_append, List.mem_singleton] at hc
      rcases hc with hc | hc
      · exact ih (u / 10) (by omega) c hc
      · rw [hc, dig_nat (u % 10) (by omega)]; omega

theorem dec_val (u : Nat) : val (Lib.decDigits u) = u := by
  induction u using Nat.strongRecOn with
  | _ u ih =>
    by_cases h : u < 10
    · rw [dec_small h]; show 0 * 10 + _ = _; rw [dig_nat u h]; omega
    · rw [dec_big h, val_snoc, ih (u / 10) (by omega), dig_nat (u % 10) (by omega)]; omega

theorem dec_pos (u : Nat) : 0 < (Lib.decDigits u).length := by
  by_cases h : u < 10
  · rw [dec_small h]; simp
  · rw [dec_big h]; simp

theorem dec_len : ∀ (k u : Nat), u < 10 ^ (k + 1) → (Lib.decDigits u).length ≤ k + 1
  | 0, u, h => by rw [dec_small (by simpa using h)]; simp
  | k + 1, u, h => by
    by_cases h10 : u < 10
    · rw [dec_small h10]; simp
    · rw [dec_big h10]
      have := dec_len k (u / 10) (by rw [Nat.pow_succ] at h; omega)
      simp; omega

theorem dec_head (u : Nat) : 0 < u → ∀ c, (Lib.decDigits u)[0]? = some c → c.toNat ≠ 48 := by
  induction u using Nat.strongRecOn with
  | _ u ih =>
    intro hu c hc
    by_cases h : u < 10
    · rw [dec_small h] at hc
      have hc : UInt8.ofNat (48 + u) = c := by simpa using hc
      rw [← hc, dig_nat u h]; omega
    · rw [dec_big h, List.getElem?_append_left (dec_pos _)] at hc
      exact ih (u / 10) (by omega) (by omega) c hc

/-- Behind its first p bytes the string reads l. -/
def At (s : ByteArray) (p : Nat) (l : List UInt8) : Prop := p ≤ s.size ∧ s.data.toList.drop p = l

theorem at_size {s : ByteArray} {p : Nat} {l : List UInt8} (h : At s p l) : p + l.length = s.size := by
  have h1 := h.1
  have h2 := congrArg List.length h.2
  rw [List.length_drop, Array.length_toList] at h2
  have h3 : s.data.size = s.size := rfl
  omega

theorem at_cons {s : ByteArray} {p : Nat} {c : UInt8} {l : List UInt8} (h : At s p (c :: l)) : p < s.size ∧ (∀ hp : p < s.size, s[p] = c) ∧ At s (p + 1) l := by
  have hs := at_size h
  simp at hs
  refine ⟨by omega, fun hp => ?_, by omega, ?_⟩
  · have h1 := congrArg (fun l => l[0]?) h.2
    simp only [List.getElem?_drop, Nat.add_zero, List.getElem?_cons_zero] at h1
    have h2 : s.data.toList[p]? = some s[p] := by
      rw [List.getElem?_eq_getElem (by simpa using hp)]; rfl
    rw [h2] at h1
    exact Option.some.inj h1
  · rw [← List.drop_drop, h.2]; rfl

theorem at_app {s : ByteArray} {p : Nat} : ∀ {a l : List UInt8}, At s p (a ++ l) → At s (p + a.length) l
  | a, l, h => by
    have hs := at_size h
    simp at hs
    refine ⟨by omega, ?_⟩
    rw [← List.drop_drop, h.2]; simp

theorem at_get {s : ByteArray} {p : Nat} {a l : List UInt8} (h : At s p (a ++ l)) {j : Nat} (hj : j < a.length) : ∀ hp : p + j < s.size, s[p + j] = a[j] := by
  intro hp
  have h1 := congrArg (fun l => l[j]?) h.2
  simp only [List.getElem?_drop] at h1
  have h2 : s.data.toList[p + j]? = some s[p + j] := by
    rw [List.getElem?_eq_getElem (by simpa using hp)]; rfl
  rw [h2, List.getElem?_append_left hj, List.getElem?_eq_getElem hj] at h1
  exact Option.some.inj h1

theorem ba_ext {a b : ByteArray} (h : a.data.toList = b.data.toList) : a = b := by
  cases a; cases b; simp at h; subst h; rfl

theorem extract_list (s : ByteArray) (i j : Nat) : (s.extract i j).data.toList = (s.data.toList.take j).drop i := by
  simp [ByteArray.data_extract, List.drop_take]

theorem at_take {s b : ByteArray} {p : Nat} {l : List UInt8} (h : At s p (b.data.toList ++ l)) : s.extract p (p + b.size) = b := by
  apply ba_ext
  rw [extract_list, List.drop_take, h.2]
  have : p + b.size - p = b.data.toList.length := by simp
  rw [this, List.take_left]

theorem at_rest {s b : ByteArray} {p : Nat} (h : At s p b.data.toList) : s.extract p s.size = b := by
  apply ba_ext
  rw [extract_list, List.take_of_length_le (by simp)]
  exact h.2
end Go.Proofs.Qxb6604766aFmt

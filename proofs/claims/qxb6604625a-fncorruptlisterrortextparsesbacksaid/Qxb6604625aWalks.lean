import Derived.Test.Qxb6604625aRows
import Derived.WalkKit
import Derived.WalkSpells
import Derived.WalkLawsBesides
import Derived.BigQuiet
import Derived.Deep.RegionWith
namespace Go.Proofs.Qxb6604625a
open Go.RowKit

theorem ret_bool {a b : Bool} (h : a = b) : Ending.returned (.bool a) = .returned (.bool b) := by rw [h]

theorem take_snoc (s : ByteArray) (k : Nat) (h : k < s.size) : s.data.toList.take (k + 1) = s.data.toList.take k ++ [s[k]] := by
  rw [List.take_succ_eq_append_getElem (by simpa using h)]; rfl

def hasColon (l : List UInt8) : Bool := l.any fun c => (c.toNat : Int) == 58

theorem hasColon_snoc (s : ByteArray) (k : Nat) (h : k < s.size) : hasColon (s.data.toList.take (k + 1)) = (hasColon (s.data.toList.take k) || ((s[k].toNat : Int) == 58)) := by
  rw [take_snoc s k h]; simp [hasColon, List.any_append]

theorem hasColon_at (s : ByteArray) (k : Nat) (h : k < s.size) (hc : ((s[k].toNat : Int) == 58) = true) : hasColon s.data.toList = true := by
  unfold hasColon
  rw [List.any_eq_true]
  exact ⟨s[k], List.getElem_mem (l := s.data.toList) (by simpa using h), hc⟩

theorem hasColon_step (s : ByteArray) (k : Nat) (h : k < s.size) (h0 : Hid (hasColon (s.data.toList.take k) = false)) (hc : ((s[k].toNat : Int) == 58) = false) : Hid (hasColon (s.data.toList.take (k + 1)) = false) := by
  unfold Hid; rw [hasColon_snoc s k h, h0.out, hc]; rfl

set_option maxHeartbeats 400000 in
theorem hasColon_any (s : ByteArray) (w : World) (hs : s.size ≤ maxLen) :
    Calls Try.prog 9 #[.string s] w fun e w' => e = .returned (.bool (hasColon s.data.toList)) ∧ w' = w := by
  unfold maxLen at hs
  go_enter Try.func9, Try.ntmps9
  go_wp2
  go_loop [3] (fun i => ∃ k : Nat, k ≤ s.size ∧ i = .int .i64 k ∧ Hid (hasColon (s.data.toList.take k) = false)) (fun i => s.size - (intOf i).toNat)
  case atStart => exact ⟨0, Nat.zero_le _, rfl, rfl⟩
  case round =>
    obtain ⟨k, hk, rfl, hc⟩ := hrel
    by_cases hlt : k < s.size
    · go_wp2
      · go_ret
        exact ⟨ret_bool (hasColon_at s k hlt ‹_›).symm, rfl⟩
      · go_round
        case rel => exact ⟨k + 1, by omega, by go_num, hasColon_step s k hlt hc ‹_›⟩
        case measure => simp [intOf]; omega
    · go_wp2
      go_ret
      refine ⟨ret_bool ?_, rfl⟩
      rw [← hc.out, List.take_of_length_le (by simp; omega)]

set_option maxHeartbeats 400000 in
theorem estr_any (a : Addr) (m : ByteArray) (w : World) (hc : w.cell? a = some (.string m)) :
    Calls Try.prog 34 #[.pointer (some a)] w fun e w' => e = .returned (.string m) ∧ w' = w := by
  go_enter Try.func34, Try.ntmps34
  go_wp2
  go_ret
  exact ⟨rfl, rfl⟩

/-- What is known of the error's text. -/
structure Txt (l m s : ByteArray) : Prop where
  size : s.size = l.size + 2 + m.size
  low : ∀ k (h : k < s.size) (h' : k < l.size), s[k] = l[k]
  colon : ∀ (h : l.size < s.size), s[l.size].toNat = 58
  blank : ∀ (h : l.size + 1 < s.size), s[l.size + 1].toNat = 32
  head : s.extract 0 l.size = l
  tail : s.extract (l.size + 2) s.size = m

theorem txt_mk (l m : ByteArray) : Txt l m (l ++ ⟨#[58, 32]⟩ ++ m) := by
  have h2 : (ByteArray.mk #[58, 32]).size = 2 := rfl
  refine ⟨by simp [ByteArray.size_append, h2], ?_, ?_, ?_, ?_, ?_⟩
  · intro k h h'
    rw [ByteArray.getElem_append_left (by simp [ByteArray.size_append, h2]; omega), ByteArray.getElem_append_left h']
  · intro h
    rw [ByteArray.getElem_append_left (by simp [ByteArray.size_append, h2]), ByteArray.getElem_append_right (by omega)]
    simp; rfl
  · intro h
    rw [ByteArray.getElem_append_left (by simp [ByteArray.size_append, h2]), ByteArray.getElem_append_right (by omega)]
    simp; rfl
  · rw [ByteArray.append_assoc]; exact ByteArray.extract_append_eq_left rfl
  · exact ByteArray.extract_append_eq_right (by simp [ByteArray.size_append, h2]) (by simp [ByteArray.size_append])

theorem not_colon (l : ByteArray) (n : Nat) (h : n < l.size) (hc : Hid (hasColon l.data.toList = false)) : ((l[n].toNat : Int) == 58) = false := by
  cases he : ((l[n].toNat : Int) == 58) with
  | false => rfl
  | true => exact absurd (hc.out.symm.trans (hasColon_at l n h he)) (by simp)

theorem grown_drewN {w w' : World} (n : Nat) (h : Grown w w') : Grown w (w'.drewN n) := by
  induction n generalizing w' with
  | zero => exact h
  | succ n ih => exact ih (w' := w'.drew) h

set_option maxHeartbeats 400000 in
theorem errText_any (l m : ByteArray) (w : World) (hs : l.size ≤ 65536) (hm : m.size ≤ 65536) :
    Calls Try.prog 10 #[.string l, .string m] w fun e w' => e = .returned (.string (l ++ ⟨#[58, 32]⟩ ++ m)) ∧ Grown w w' := by
  have hA : ∀ w, (Op.stringOp .add l ⟨#[58, 32]⟩).run Try.prog w = .ok (.string (l ++ ⟨#[58, 32]⟩)) w := fun w => run_string_add_sum w l ⟨#[58, 32]⟩ (by have : (ByteArray.mk #[58, 32]).size = 2 := rfl; omega)
  have hB : ∀ w, (Op.stringOp .add (l ++ ⟨#[58, 32]⟩) m).run Try.prog w = .ok (.string (l ++ ⟨#[58, 32]⟩ ++ m)) w := fun w => run_string_add_sum w _ m (by have : (ByteArray.mk #[58, 32]).size = 2 := rfl; rw [ByteArray.size_append]; omega)
  have hC : ∀ a xs, (((w.alloc (Obj.cells #[Value.string m] 47)).alloc (Obj.cells xs 37)).drewN a).cell? ⟨w.heap.size, 0, none⟩ = some (.string m) := by
    intro a xs; go_simp
  have hM : ∀ (a : Addr) (w : World), (method 166 45 (.pointer (some a)) "Error").run Try.prog w = .ok (34, .pointer (some a)) w := fun _ _ => by kernel_rfl
  go_enter Try.func10, Try.ntmps10
  go_wp2
  go_quiet ((go_at_call 34; exact Calls.quiet_of_same (estr_any _ m _ (hC _ _))))
  go_wp2
  go_ret
  exact ⟨rfl, grown_drewN _ (((Grown.refl _).alloc _ _).alloc _ _)⟩

set_option maxHeartbeats 400000 in
theorem law_any (l m : ByteArray) (w : World) (w0 : l.size ≤ maxLen) (w1 : m.size ≤ maxLen) :
    Calls Try.prog 3 #[.string l, .string m] w fun e w' => e = .returned (.bool true) ∧ Grown w w' := by
  by_cases h1 : l.size ≤ 65536
  rotate_left
  · unfold maxLen at w0 w1
    go_enter Try.func3, Try.ntmps3
    go_wp2
    all_goals (go_ret; exact ⟨rfl, Grown.refl _⟩)
  by_cases h2 : m.size ≤ 65536
  rotate_left
  · unfold maxLen at w0 w1
    go_enter Try.func3, Try.ntmps3
    go_wp2
    all_goals (go_ret; exact ⟨rfl, Grown.refl _⟩)
  clear w0 w1
  cases hc : hasColon l.data.toList
  rotate_left
  · have HC := hasColon_any l w (by unfold maxLen; omega)
    rw [hc] at HC
    go_enter Try.func3, Try.ntmps3
    go_wp2_with (first | (go_at_call 9; refine HC.mono ?_; rintro e w' ⟨rfl, rfl⟩) | go_in)
    all_goals (go_ret; exact ⟨rfl, Grown.refl _⟩)
  have HC := hasColon_any l w (by unfold maxLen; omega)
  rw [hc] at HC
  have hn : Hid (hasColon l.data.toList = false) := hc
  clear hc
  go_enter Try.func3, Try.ntmps3
  go_wp2_with (first | (go_at_call 9; refine HC.mono ?_; rintro e w' ⟨rfl, rfl⟩) | (go_at_call 10; refine (errText_any _ _ _ h1 h2).mono ?_) | go_in)
  rintro e w1 ⟨rfl, hg⟩
  clear HC
  have ht := txt_mk l m
  generalize l ++ ⟨#[58, 32]⟩ ++ m = s at ht ⊢
  have hsz := ht.size
  have HT : Hid (Txt l m s) := ht
  clear ht
  have hs1 : l.size + 2 ≤ s.size := by omega
  have hs2 : s.size ≤ 131074 := by omega
  clear hsz
  go_wp2
  go_loop [6, 7] (fun k i => ∃ n : Nat, n ≤ l.size ∧ i = .int .i64 n ∧ k = .int .i64 (-1)) (fun _ i => s.size - (intOf i).toNat)
  case atStart => exact ⟨0, Nat.zero_le _, rfl, rfl⟩
  case round =>
    obtain ⟨n, hk, rfl, rfl⟩ := hrel
    have hns : n < s.size := by omega
    by_cases hlt : n < l.size
    · have hb : ((s[n].toNat : Int) == 58) = false := by rw [HT.out.low n hns hlt]; exact not_colon l n hlt hn
      go_wp2
      go_round
      case rel => exact ⟨n + 1, by omega, by go_num, rfl⟩
      case measure => simp [intOf]; omega
    · obtain rfl : n = l.size := by omega
      have hb : ((s[l.size].toNat : Int) == 58) = true := by rw [HT.out.colon hns]; rfl
      have hb2 : ((s[l.size + 1].toNat : Int) != 32) = false := by rw [HT.out.blank (by omega)]; rfl
      have he1 : s.extract 0 l.size = l := HT.out.head
      have he2 : s.extract (l.size + 2) s.size = m := HT.out.tail
      go_wp2
      go_ret
      exact ⟨rfl, hg⟩
end Go.Proofs.Qxb6604625a

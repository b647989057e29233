import Derived.Test.Qxb6003334aPart
namespace Go.Proofs.Qxb6003334a
open Go.RowKit

set_option maxRecDepth 100000 in
set_option maxHeartbeats 1000000 in
/-- Where the lengths do not fit the law returns true at once. -/
theorem early (a0 a1 a2 a3 a4 a5 : Option Addr) (n0 n1 n2 n3 n4 n5 c0 c1 c2 c3 c4 c5 : Nat) (fl now vw hi : Int) (w : World) (l0 : n0 ≤ maxLen) (l1 : n1 ≤ maxLen) (l2 : n2 ≤ maxLen) (l3 : n3 ≤ maxLen) (l4 : n4 ≤ maxLen) (l5 : n5 ≤ maxLen)
    (h : ¬ (n0 ≤ 256 ∧ n1 = n0 ∧ n2 = n0 ∧ n3 = n0 ∧ n4 = n0 ∧ n5 = n0)) :
    Calls Try.prog 7 #[.slice a0 n0 c0, .slice a1 n1 c1, .slice a2 n2 c2, .slice a3 n3 c3, .slice a4 n4 c4, .slice a5 n5 c5, .int .i64 fl, .int .i64 now, .int .u64 vw, .int .u64 hi] w fun e w' => e = .returned (.bool true) ∧ Below w.heap.size w w' := by
  unfold maxLen at l0 l1 l2 l3 l4 l5
  by_cases h0 : n0 ≤ 256
  rotate_left
  · clear h
    go_enter Try.func7, Try.ntmps7
    go_wp2
    all_goals (go_ret; exact ⟨rfl, Below.refl _ _⟩)
  by_cases h1 : n1 = n0
  rotate_left
  · have hb : ((n1 : Int) != (n0 : Int)) = true := by simp; omega
    clear h h1
    go_enter Try.func7, Try.ntmps7
    go_wp2
    all_goals (go_ret; exact ⟨rfl, Below.refl _ _⟩)
  subst h1
  by_cases h2 : n2 = n1
  rotate_left
  · have hb : ((n2 : Int) != (n1 : Int)) = true := by simp; omega
    clear h h2
    go_enter Try.func7, Try.ntmps7
    go_wp2
    all_goals (go_ret; exact ⟨rfl, Below.refl _ _⟩)
  subst h2
  by_cases h3 : n3 = n2
  rotate_left
  · have hb : ((n3 : Int) != (n2 : Int)) = true := by simp; omega
    clear h h3
    go_enter Try.func7, Try.ntmps7
    go_wp2
    all_goals (go_ret; exact ⟨rfl, Below.refl _ _⟩)
  subst h3
  by_cases h4 : n4 = n3
  rotate_left
  · have hb : ((n4 : Int) != (n3 : Int)) = true := by simp; omega
    clear h h4
    go_enter Try.func7, Try.ntmps7
    go_wp2
    all_goals (go_ret; exact ⟨rfl, Below.refl _ _⟩)
  subst h4
  have h5 : ¬ n5 = n4 := fun e => h ⟨h0, rfl, rfl, rfl, rfl, e⟩
  have hb : ((n5 : Int) != (n4 : Int)) = true := by simp; omega
  clear h h5
  go_enter Try.func7, Try.ntmps7
  go_wp2
  all_goals (go_ret; exact ⟨rfl, Below.refl _ _⟩)
end Go.Proofs.Qxb6003334a

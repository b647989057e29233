import Derived.Test.Qxb6604369aSplitWalk
namespace Go.Proofs.Qxb6604369a
open Go.RowKit

set_option maxRecDepth 100000 in
set_option maxHeartbeats 400000 in
theorem split_big (ao : Option Addr) (n cap : Nat) (f k : Int) (w : World) (hn : 1048576 < n) :
    Calls Try.prog 4 #[.slice ao n cap, .int .i64 f, .int .i64 k] w fun e w' => e = .returned (.bool true) ∧ Below w.heap.size w w' := by
  go_enter Try.func4, Try.ntmps4
  go_wp2
  go_ret
  exact ⟨rfl, Below.refl _ _⟩

set_option maxRecDepth 100000 in
set_option maxHeartbeats 400000 in
theorem split_neg (ao : Option Addr) (n cap : Nat) (f k : Int) (w : World) (hn : n ≤ 1048576) (hf : f < 0) :
    Calls Try.prog 4 #[.slice ao n cap, .int .i64 f, .int .i64 k] w fun e w' => e = .returned (.bool true) ∧ Below w.heap.size w w' := by
  go_enter Try.func4, Try.ntmps4
  go_wp2
  go_ret
  exact ⟨rfl, Below.refl _ _⟩

set_option maxRecDepth 100000 in
set_option maxHeartbeats 400000 in
theorem split_out (ao : Option Addr) (n cap : Nat) (f k : Int) (w : World) (hn : n ≤ 1048576) (hf0 : 0 ≤ f) (hf : (n : Int) < f) :
    Calls Try.prog 4 #[.slice ao n cap, .int .i64 f, .int .i64 k] w fun e w' => e = .returned (.bool true) ∧ Below w.heap.size w w' := by
  go_enter Try.func4, Try.ntmps4
  go_wp2
  go_ret
  exact ⟨rfl, Below.refl _ _⟩

set_option maxRecDepth 100000 in
set_option maxHeartbeats 400000 in
theorem split_end_k (ao : Option Addr) (n cap : Nat) (k : Int) (w : World) (hn : n ≤ 1048576) (hk : k < 0 ∨ 0 < k) :
    Calls Try.prog 4 #[.slice ao n cap, .int .i64 n, .int .i64 k] w fun e w' => e = .returned (.bool true) ∧ Below w.heap.size w w' := by
  rcases hk with hk | hk
  · go_enter Try.func4, Try.ntmps4
    go_wp2_with (first | (go_at_call 8; refine (ends_past _ _ _ _ _ (Int.le_refl _)).mono ?_; rintro e w1 ⟨rfl, rfl⟩) | go_in)
    go_ret
    exact ⟨rfl, Below.refl _ _⟩
  · have hk2 : ¬ k < 0 := by omega
    go_enter Try.func4, Try.ntmps4
    go_wp2_with (first | (go_at_call 8; refine (ends_past _ _ _ _ _ (Int.le_refl _)).mono ?_; rintro e w1 ⟨rfl, rfl⟩) | go_in)
    go_ret
    exact ⟨rfl, Below.refl _ _⟩

set_option maxRecDepth 100000 in
set_option maxHeartbeats 400000 in
theorem split_end (ao : Option Addr) (n cap : Nat) (w : World) (hn : n ≤ 1048576)
    (hcl : Calls Try.prog 9 #[.slice ao n cap] w fun e w' => ∃ a', e = .returned (.slice a' n n) ∧ Below w.heap.size w w') :
    Calls Try.prog 4 #[.slice ao n cap, .int .i64 n, .int .i64 0] w fun e w' => e = .returned (.bool true) ∧ Below w.heap.size w w' := by
  go_enter Try.func4, Try.ntmps4
  go_wp2_with (first | (go_at_call 8; refine (ends_past _ _ _ _ _ (Int.le_refl _)).mono ?_; rintro e w1 ⟨rfl, rfl⟩) | (go_at_call 9; refine hcl.mono ?_) | go_in)
  rintro e w2 ⟨a', rfl, hb2⟩
  go_wp2_with fail
  refine (pay_past _ _ _ _ _ (Int.le_refl _)).mono ?_
  rintro e w3 ⟨rfl, hb3⟩
  have hB3 := hb2.trans (hb3.mono hb2.size)
  clear hb2 hb3
  go_wp2_with fail
  refine (pay_past _ _ _ _ _ (Int.le_refl _)).mono ?_
  rintro e w4 ⟨rfl, hb4⟩
  have hB4 := hB3.trans (hb4.mono hB3.size)
  clear hB3 hb4
  go_wp2_with fail
  refine (pay_past _ _ _ _ _ (Int.le_refl _)).mono ?_
  rintro e w5 ⟨rfl, hb5⟩
  have hB5 := hB4.trans (hb5.mono hB4.size)
  clear hB4 hb5
  go_wp2
  refine wp_loop_rounds 1 ?_; rw [rounds_succ]
  go_wp2
  refine wp_loop_rounds 1 ?_; rw [rounds_succ]
  go_wp2
  go_ret
  exact ⟨rfl, hB5⟩
end Go.Proofs.Qxb6604369a

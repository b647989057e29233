import Derived.Test.Qxb6003334aRows
import Derived.WalkKit
import Derived.WalkSpells
import Derived.WalkLawsBesides
import Derived.BigQuiet
import Derived.Deep.RegionHeld
import Derived.Maps.OwnSet
namespace Go.Proofs.Qxb6003334a
open Go.RowKit

theorem ret_bool {a b : Bool} (h : a = b) : Ending.returned (.bool a) = .returned (.bool b) := by rw [h]
theorem hid {p : Prop} (h : p) : Hid p := h

/-- The numbers of a slice that begins at 'off' of block b. -/
def Cells (k : IntKind) (w : World) (b off len : Nat) (zs : List Int) : Prop := ∀ i, i < len → w.cell? ⟨b, off + i, none⟩ = some (.int k (zs[i]?.getD 0))

/-- What is known of a slice that is copied. -/
def Src (k : IntKind) (w : World) (a : Option Addr) (n : Nat) (zs : List Int) : Prop :=
  (a = none → n = 0) ∧ (0 < n → ∃ b off, a = some ⟨b, off, none⟩ ∧ b < w.heap.size ∧ Cells k w b off n zs)

/-- What is known of the copy. -/
def Cloned (k : IntKind) (w w' : World) (n : Nat) (zs : List Int) (e : Ending) : Prop :=
  ∃ a' c', e = .returned (.slice a' n c') ∧ (0 < n → ∃ b', a' = some ⟨b', 0, none⟩ ∧ w.heap.size ≤ b' ∧ b' < w'.heap.size ∧ Cells k w' b' 0 n zs)

theorem row_step {k : IntKind} {xs : List Value} {zs : List Int} {j n : Nat} (hl : xs.length = n) (hk : j < n) (h : ∀ i, i < j → xs[i]? = some (.int k (zs[i]?.getD 0))) :
    ∀ i, i < j + 1 → (xs.set j (.int k (zs[j]?.getD 0)))[i]? = some (.int k (zs[i]?.getD 0)) := by
  intro i hi
  rw [List.getElem?_set]
  by_cases e : j = i
  · subst e; rw [if_pos rfl, if_pos (by omega)]
  · rw [if_neg e]; exact h i (by omega)

theorem Try.info5 : (Try.prog.info? 5).map (fun i => (i.zero, i.size, i.bytes)) = some (some (.int .u8 0), 1, 1) := by kernel_rfl

set_option maxHeartbeats 400000 in
theorem clone20_any (b off n cap : Nat) (zs : List Int) (w : World) (hn : n ≤ 256) (hc : Cells .u8 w b off n zs) (hb : 0 < n → b < w.heap.size) :
    Calls Try.prog 20 #[.slice (some ⟨b, off, none⟩) n cap] w fun e w' => e = .returned (.slice (some ⟨w.heap.size, 0, none⟩) n n) ∧ Cells .u8 w' w.heap.size 0 n zs ∧ Below w.heap.size w w' ∧ w.heap.size < w'.heap.size := by
  have hne : ∀ w a n c, (binOp .eql 26 (.slice a n c) (.slice none 0 0)).run Try.prog w = .ok (.bool a.isNone) w := fun w a n c => Lib.run_eql_slice_nil w 26 5 a n c 0 0 Try.underlying26
  obtain ⟨i0, hi, hz0, hz1, hz2⟩ := info_parts Try.info5
  have HC : Hid (Cells .u8 w b off n zs) := hc
  clear hc
  have hby : i0.bytes * n ≤ 281474976710656 := by rw [hz2]; omega
  have hml : n ≤ maxLen := by unfold maxLen; omega
  go_enter Try.func20, Try.ntmps20
  go_wp2_with (at_make; refine wpList_make_full _ rfl _ _ 26 rfl w.heap.size 5 i0 (.int .u8 0) 1 Try.underlying26 hi hz0 hz1 .i64 .i64 _ _ n rfl rfl rfl rfl hby hml (Nat.le_refl _) ?_)
  intro w1 hown hgr
  have hb1 : Below w.heap.size w w1 := (Below.refl _ _).grown hgr (Nat.le_refl _) (fun k h => by cases h)
  clear hgr hz0 hz1 hz2 hi hby hml i0
  go_wp2
  go_loopw [4] (fun i wr => ∃ k : Nat, k ≤ n ∧ i = .int .i64 k ∧ (∃ xs, wr.ownsRow w.heap.size 5 1 (.slice (some ⟨w.heap.size, 0, none⟩) n n) n xs ∧ ∀ i, i < k → xs[i]? = some (.int .u8 (zs[i]?.getD 0))) ∧ Below w.heap.size w wr) (fun i _ => n - (intOf i).toNat)
  case atStart => exact ⟨0, Nat.zero_le _, rfl, ⟨_, hown, fun i h => absurd h (Nat.not_lt_zero _)⟩, hb1⟩
  case round =>
    clear hown hb1
    obtain ⟨k, hk, rfl, ⟨xs, hown, hxs⟩, hbr⟩ := hrel
    have hlen : xs.length = n := by have := hown.1; omega
    by_cases hlt : k < n
    · have hk1 : (k : Int) < (n : Int) := by omega
      have c0 : wr.cell? ⟨b, off + k, none⟩ = some (.int .u8 (zs[k]?.getD 0)) := (hbr.cell (p := ⟨b, off + k, none⟩) (hb (by omega))).trans (HC.out k hlt)
      have c1 : wr.cell? ⟨w.heap.size, k, none⟩ = some xs[k] := by rw [hown.cellAt k (by omega)]; simp [hlen, hlt]
      have f1 : wr.frozen? ⟨w.heap.size, k, none⟩ = false := hown.frozenAt k
      have hst := (hown.stored k (.int .u8 (zs[k]?.getD 0)))
      have Hx := row_step hlen hlt hxs
      have HS : Hid ((∃ xs, (wr.setCell ⟨w.heap.size, k, none⟩ (.int .u8 (zs[k]?.getD 0))).ownsRow w.heap.size 5 1 (.slice (some ⟨w.heap.size, 0, none⟩) n n) n xs ∧ ∀ i, i < k + 1 → xs[i]? = some (.int .u8 (zs[i]?.getD 0))) ∧ Below w.heap.size w (wr.setCell ⟨w.heap.size, k, none⟩ (.int .u8 (zs[k]?.getD 0)))) := ⟨⟨_, hst.1, Hx⟩, hbr.setCell (Nat.le_refl _) _⟩
      clear hst Hx hown hxs hbr
      go_wp2
      go_roundw
      case rel => exact ⟨k + 1, by omega, by go_num, HS.out.1, HS.out.2⟩
      case measure => simp [intOf]; omega
    · obtain rfl : k = n := by omega
      have hsz : w.heap.size < wr.heap.size := by
        rcases hown.2 with ⟨h, _⟩ | ⟨g, c, cur, h, _, hg, _⟩
        · simp at h
        · simp only [Value.slice.injEq, Option.some.injEq, Addr.mk.injEq, and_true, true_and] at h
          exact lt_of_block (h.1 ▸ hg)
      have HS : Hid (Cells .u8 wr w.heap.size 0 k zs) := fun i hi => by rw [Nat.zero_add, hown.cellAt i (by omega)]; exact hxs i hi
      clear hown hxs
      go_wp2
      go_ret
      exact ⟨rfl, HS.out, hbr, hsz⟩

set_option maxHeartbeats 400000 in
theorem clone20_gen (a : Option Addr) (n cap : Nat) (zs : List Int) (w : World) (hn : n ≤ 256) (hs : Src .u8 w a n zs) :
    Calls Try.prog 20 #[.slice a n cap] w fun e w' => Cloned .u8 w w' n zs e ∧ Below w.heap.size w w' := by
  have hne : ∀ w a n c, (binOp .eql 26 (.slice a n c) (.slice none 0 0)).run Try.prog w = .ok (.bool a.isNone) w := fun w a n c => Lib.run_eql_slice_nil w 26 5 a n c 0 0 Try.underlying26
  cases a with
  | none =>
    obtain rfl : n = 0 := hs.1 rfl
    clear hs
    go_enter Try.func20, Try.ntmps20
    go_wp2
    go_ret
    exact ⟨⟨_, _, rfl, fun h => absurd h (Nat.lt_irrefl _)⟩, Below.refl _ _⟩
  | some x =>
    by_cases h0 : n = 0
    · subst h0
      clear hs
      obtain ⟨i0, hi, hz0, hz1, hz2⟩ := info_parts Try.info5
      go_enter Try.func20, Try.ntmps20
      go_wp2_with (at_make; refine wpList_make_full _ rfl _ _ 26 rfl w.heap.size 5 i0 (.int .u8 0) 1 Try.underlying26 hi hz0 hz1 .i64 .i64 _ _ 0 rfl rfl rfl rfl (by omega) (by unfold maxLen; omega) (Nat.le_refl _) ?_)
      intro w1 hown hgr
      have hb1 : Below w.heap.size w w1 := (Below.refl _ _).grown hgr (Nat.le_refl _) (fun k h => by cases h)
      clear hgr hown
      go_wp2
      refine wp_loop_rounds 1 ?_; rw [rounds_succ]
      go_wp2
      go_ret
      exact ⟨⟨_, _, rfl, fun h => absurd h (Nat.lt_irrefl _)⟩, hb1⟩
    · obtain ⟨b, off, e, hb, hc⟩ := hs.2 (by omega)
      cases e
      exact (clone20_any b off n cap zs w hn hc (fun _ => hb)).mono fun e w' ⟨he, h1, h2, h3⟩ => ⟨⟨_, _, he, fun _ => ⟨_, rfl, Nat.le_refl _, h3, h1⟩⟩, h2⟩

theorem Try.info49 : (Try.prog.info? 49).map (fun i => (i.zero, i.size, i.bytes)) = some (some (.int .u32 0), 1, 4) := by kernel_rfl

set_option maxHeartbeats 400000 in
theorem clone21_any (b off n cap : Nat) (zs : List Int) (w : World) (hn : n ≤ 256) (hc : Cells .u32 w b off n zs) (hb : 0 < n → b < w.heap.size) :
    Calls Try.prog 21 #[.slice (some ⟨b, off, none⟩) n cap] w fun e w' => e = .returned (.slice (some ⟨w.heap.size, 0, none⟩) n n) ∧ Cells .u32 w' w.heap.size 0 n zs ∧ Below w.heap.size w w' ∧ w.heap.size < w'.heap.size := by
  have hne : ∀ w a n c, (binOp .eql 38 (.slice a n c) (.slice none 0 0)).run Try.prog w = .ok (.bool a.isNone) w := fun w a n c => Lib.run_eql_slice_nil w 38 49 a n c 0 0 Try.underlying38
  obtain ⟨i0, hi, hz0, hz1, hz2⟩ := info_parts Try.info49
  have HC : Hid (Cells .u32 w b off n zs) := hc
  clear hc
  have hby : i0.bytes * n ≤ 281474976710656 := by rw [hz2]; omega
  have hml : n ≤ maxLen := by unfold maxLen; omega
  go_enter Try.func21, Try.ntmps21
  go_wp2_with (at_make; refine wpList_make_full _ rfl _ _ 38 rfl w.heap.size 49 i0 (.int .u32 0) 1 Try.underlying38 hi hz0 hz1 .i64 .i64 _ _ n rfl rfl rfl rfl hby hml (Nat.le_refl _) ?_)
  intro w1 hown hgr
  have hb1 : Below w.heap.size w w1 := (Below.refl _ _).grown hgr (Nat.le_refl _) (fun k h => by cases h)
  clear hgr hz0 hz1 hz2 hi hby hml i0
  go_wp2
  go_loopw [4] (fun i wr => ∃ k : Nat, k ≤ n ∧ i = .int .i64 k ∧ (∃ xs, wr.ownsRow w.heap.size 49 1 (.slice (some ⟨w.heap.size, 0, none⟩) n n) n xs ∧ ∀ i, i < k → xs[i]? = some (.int .u32 (zs[i]?.getD 0))) ∧ Below w.heap.size w wr) (fun i _ => n - (intOf i).toNat)
  case atStart => exact ⟨0, Nat.zero_le _, rfl, ⟨_, hown, fun i h => absurd h (Nat.not_lt_zero _)⟩, hb1⟩
  case round =>
    clear hown hb1
    obtain ⟨k, hk, rfl, ⟨xs, hown, hxs⟩, hbr⟩ := hrel
    have hlen : xs.length = n := by have := hown.1; omega
    by_cases hlt : k < n
    · have hk1 : (k : Int) < (n : Int) := by omega
      have c0 : wr.cell? ⟨b, off + k, none⟩ = some (.int .u32 (zs[k]?.getD 0)) := (hbr.cell (p := ⟨b, off + k, none⟩) (hb (by omega))).trans (HC.out k hlt)
      have c1 : wr.cell? ⟨w.heap.size, k, none⟩ = some xs[k] := by rw [hown.cellAt k (by omega)]; simp [hlen, hlt]
      have f1 : wr.frozen? ⟨w.heap.size, k, none⟩ = false := hown.frozenAt k
      have hst := (hown.stored k (.int .u32 (zs[k]?.getD 0)))
      have Hx := row_step hlen hlt hxs
      have HS : Hid ((∃ xs, (wr.setCell ⟨w.heap.size, k, none⟩ (.int .u32 (zs[k]?.getD 0))).ownsRow w.heap.size 49 1 (.slice (some ⟨w.heap.size, 0, none⟩) n n) n xs ∧ ∀ i, i < k + 1 → xs[i]? = some (.int .u32 (zs[i]?.getD 0))) ∧ Below w.heap.size w (wr.setCell ⟨w.heap.size, k, none⟩ (.int .u32 (zs[k]?.getD 0)))) := ⟨⟨_, hst.1, Hx⟩, hbr.setCell (Nat.le_refl _) _⟩
      clear hst Hx hown hxs hbr
      go_wp2
      go_roundw
      case rel => exact ⟨k + 1, by omega, by go_num, HS.out.1, HS.out.2⟩
      case measure => simp [intOf]; omega
    · obtain rfl : k = n := by omega
      have hsz : w.heap.size < wr.heap.size := by
        rcases hown.2 with ⟨h, _⟩ | ⟨g, c, cur, h, _, hg, _⟩
        · simp at h
        · simp only [Value.slice.injEq, Option.some.injEq, Addr.mk.injEq, and_true, true_and] at h
          exact lt_of_block (h.1 ▸ hg)
      have HS : Hid (Cells .u32 wr w.heap.size 0 k zs) := fun i hi => by rw [Nat.zero_add, hown.cellAt i (by omega)]; exact hxs i hi
      clear hown hxs
      go_wp2
      go_ret
      exact ⟨rfl, HS.out, hbr, hsz⟩

set_option maxHeartbeats 400000 in
theorem clone21_gen (a : Option Addr) (n cap : Nat) (zs : List Int) (w : World) (hn : n ≤ 256) (hs : Src .u32 w a n zs) :
    Calls Try.prog 21 #[.slice a n cap] w fun e w' => Cloned .u32 w w' n zs e ∧ Below w.heap.size w w' := by
  have hne : ∀ w a n c, (binOp .eql 38 (.slice a n c) (.slice none 0 0)).run Try.prog w = .ok (.bool a.isNone) w := fun w a n c => Lib.run_eql_slice_nil w 38 49 a n c 0 0 Try.underlying38
  cases a with
  | none =>
    obtain rfl : n = 0 := hs.1 rfl
    clear hs
    go_enter Try.func21, Try.ntmps21
    go_wp2
    go_ret
    exact ⟨⟨_, _, rfl, fun h => absurd h (Nat.lt_irrefl _)⟩, Below.refl _ _⟩
  | some x =>
    by_cases h0 : n = 0
    · subst h0
      clear hs
      obtain ⟨i0, hi, hz0, hz1, hz2⟩ := info_parts Try.info49
      go_enter Try.func21, Try.ntmps21
      go_wp2_with (at_make; refine wpList_make_full _ rfl _ _ 38 rfl w.heap.size 49 i0 (.int .u32 0) 1 Try.underlying38 hi hz0 hz1 .i64 .i64 _ _ 0 rfl rfl rfl rfl (by omega) (by unfold maxLen; omega) (Nat.le_refl _) ?_)
      intro w1 hown hgr
      have hb1 : Below w.heap.size w w1 := (Below.refl _ _).grown hgr (Nat.le_refl _) (fun k h => by cases h)
      clear hgr hown
      go_wp2
      refine wp_loop_rounds 1 ?_; rw [rounds_succ]
      go_wp2
      go_ret
      exact ⟨⟨_, _, rfl, fun h => absurd h (Nat.lt_irrefl _)⟩, hb1⟩
    · obtain ⟨b, off, e, hb, hc⟩ := hs.2 (by omega)
      cases e
      exact (clone21_any b off n cap zs w hn hc (fun _ => hb)).mono fun e w' ⟨he, h1, h2, h3⟩ => ⟨⟨_, _, he, fun _ => ⟨_, rfl, Nat.le_refl _, h3, h1⟩⟩, h2⟩

theorem Try.info2 : (Try.prog.info? 2).map (fun i => (i.zero, i.size, i.bytes)) = some (some (.int .i64 0), 1, 8) := by kernel_rfl

set_option maxHeartbeats 400000 in
theorem clone22_any (b off n cap : Nat) (zs : List Int) (w : World) (hn : n ≤ 256) (hc : Cells .i64 w b off n zs) (hb : 0 < n → b < w.heap.size) :
    Calls Try.prog 22 #[.slice (some ⟨b, off, none⟩) n cap] w fun e w' => e = .returned (.slice (some ⟨w.heap.size, 0, none⟩) n n) ∧ Cells .i64 w' w.heap.size 0 n zs ∧ Below w.heap.size w w' ∧ w.heap.size < w'.heap.size := by
  have hne : ∀ w a n c, (binOp .eql 39 (.slice a n c) (.slice none 0 0)).run Try.prog w = .ok (.bool a.isNone) w := fun w a n c => Lib.run_eql_slice_nil w 39 2 a n c 0 0 Try.underlying39
  obtain ⟨i0, hi, hz0, hz1, hz2⟩ := info_parts Try.info2
  have HC : Hid (Cells .i64 w b off n zs) := hc
  clear hc
  have hby : i0.bytes * n ≤ 281474976710656 := by rw [hz2]; omega
  have hml : n ≤ maxLen := by unfold maxLen; omega
  go_enter Try.func22, Try.ntmps22
  go_wp2_with (at_make; refine wpList_make_full _ rfl _ _ 39 rfl w.heap.size 2 i0 (.int .i64 0) 1 Try.underlying39 hi hz0 hz1 .i64 .i64 _ _ n rfl rfl rfl rfl hby hml (Nat.le_refl _) ?_)
  intro w1 hown hgr
  have hb1 : Below w.heap.size w w1 := (Below.refl _ _).grown hgr (Nat.le_refl _) (fun k h => by cases h)
  clear hgr hz0 hz1 hz2 hi hby hml i0
  go_wp2
  go_loopw [4] (fun i wr => ∃ k : Nat, k ≤ n ∧ i = .int .i64 k ∧ (∃ xs, wr.ownsRow w.heap.size 2 1 (.slice (some ⟨w.heap.size, 0, none⟩) n n) n xs ∧ ∀ i, i < k → xs[i]? = some (.int .i64 (zs[i]?.getD 0))) ∧ Below w.heap.size w wr) (fun i _ => n - (intOf i).toNat)
  case atStart => exact ⟨0, Nat.zero_le _, rfl, ⟨_, hown, fun i h => absurd h (Nat.not_lt_zero _)⟩, hb1⟩
  case round =>
    clear hown hb1
    obtain ⟨k, hk, rfl, ⟨xs, hown, hxs⟩, hbr⟩ := hrel
    have hlen : xs.length = n := by have := hown.1; omega
    by_cases hlt : k < n
    · have hk1 : (k : Int) < (n : Int) := by omega
      have c0 : wr.cell? ⟨b, off + k, none⟩ = some (.int .i64 (zs[k]?.getD 0)) := (hbr.cell (p := ⟨b, off + k, none⟩) (hb (by omega))).trans (HC.out k hlt)
      have c1 : wr.cell? ⟨w.heap.size, k, none⟩ = some xs[k] := by rw [hown.cellAt k (by omega)]; simp [hlen, hlt]
      have f1 : wr.frozen? ⟨w.heap.size, k, none⟩ = false := hown.frozenAt k
      have hst := (hown.stored k (.int .i64 (zs[k]?.getD 0)))
      have Hx := row_step hlen hlt hxs
      have HS : Hid ((∃ xs, (wr.setCell ⟨w.heap.size, k, none⟩ (.int .i64 (zs[k]?.getD 0))).ownsRow w.heap.size 2 1 (.slice (some ⟨w.heap.size, 0, none⟩) n n) n xs ∧ ∀ i, i < k + 1 → xs[i]? = some (.int .i64 (zs[i]?.getD 0))) ∧ Below w.heap.size w (wr.setCell ⟨w.heap.size, k, none⟩ (.int .i64 (zs[k]?.getD 0)))) := ⟨⟨_, hst.1, Hx⟩, hbr.setCell (Nat.le_refl _) _⟩
      clear hst Hx hown hxs hbr
      go_wp2
      go_roundw
      case rel => exact ⟨k + 1, by omega, by go_num, HS.out.1, HS.out.2⟩
      case measure => simp [intOf]; omega
    · obtain rfl : k = n := by omega
      have hsz : w.heap.size < wr.heap.size := by
        rcases hown.2 with ⟨h, _⟩ | ⟨g, c, cur, h, _, hg, _⟩
        · simp at h
        · simp only [Value.slice.injEq, Option.some.injEq, Addr.mk.injEq, and_true, true_and] at h
          exact lt_of_block (h.1 ▸ hg)
      have HS : Hid (Cells .i64 wr w.heap.size 0 k zs) := fun i hi => by rw [Nat.zero_add, hown.cellAt i (by omega)]; exact hxs i hi
      clear hown hxs
      go_wp2
      go_ret
      exact ⟨rfl, HS.out, hbr, hsz⟩

set_option maxHeartbeats 400000 in
theorem clone22_gen (a : Option Addr) (n cap : Nat) (zs : List Int) (w : World) (hn : n ≤ 256) (hs : Src .i64 w a n zs) :
    Calls Try.prog 22 #[.slice a n cap] w fun e w' => Cloned .i64 w w' n zs e ∧ Below w.heap.size w w' := by
  have hne : ∀ w a n c, (binOp .eql 39 (.slice a n c) (.slice none 0 0)).run Try.prog w = .ok (.bool a.isNone) w := fun w a n c => Lib.run_eql_slice_nil w 39 2 a n c 0 0 Try.underlying39
  cases a with
  | none =>
    obtain rfl : n = 0 := hs.1 rfl
    clear hs
    go_enter Try.func22, Try.ntmps22
    go_wp2
    go_ret
    exact ⟨⟨_, _, rfl, fun h => absurd h (Nat.lt_irrefl _)⟩, Below.refl _ _⟩
  | some x =>
    by_cases h0 : n = 0
    · subst h0
      clear hs
      obtain ⟨i0, hi, hz0, hz1, hz2⟩ := info_parts Try.info2
      go_enter Try.func22, Try.ntmps22
      go_wp2_with (at_make; refine wpList_make_full _ rfl _ _ 39 rfl w.heap.size 2 i0 (.int .i64 0) 1 Try.underlying39 hi hz0 hz1 .i64 .i64 _ _ 0 rfl rfl rfl rfl (by omega) (by unfold maxLen; omega) (Nat.le_refl _) ?_)
      intro w1 hown hgr
      have hb1 : Below w.heap.size w w1 := (Below.refl _ _).grown hgr (Nat.le_refl _) (fun k h => by cases h)
      clear hgr hown
      go_wp2
      refine wp_loop_rounds 1 ?_; rw [rounds_succ]
      go_wp2
      go_ret
      exact ⟨⟨_, _, rfl, fun h => absurd h (Nat.lt_irrefl _)⟩, hb1⟩
    · obtain ⟨b, off, e, hb, hc⟩ := hs.2 (by omega)
      cases e
      exact (clone22_any b off n cap zs w hn hc (fun _ => hb)).mono fun e w' ⟨he, h1, h2, h3⟩ => ⟨⟨_, _, he, fun _ => ⟨_, rfl, Nat.le_refl _, h3, h1⟩⟩, h2⟩

theorem Try.info22 : (Try.prog.info? 22).map (fun i => (i.zero, i.size, i.bytes)) = some (some (.int .u64 0), 1, 8) := by kernel_rfl

set_option maxHeartbeats 400000 in
theorem clone23_any (b off n cap : Nat) (zs : List Int) (w : World) (hn : n ≤ 256) (hc : Cells .u64 w b off n zs) (hb : 0 < n → b < w.heap.size) :
    Calls Try.prog 23 #[.slice (some ⟨b, off, none⟩) n cap] w fun e w' => e = .returned (.slice (some ⟨w.heap.size, 0, none⟩) n n) ∧ Cells .u64 w' w.heap.size 0 n zs ∧ Below w.heap.size w w' ∧ w.heap.size < w'.heap.size := by
  have hne : ∀ w a n c, (binOp .eql 34 (.slice a n c) (.slice none 0 0)).run Try.prog w = .ok (.bool a.isNone) w := fun w a n c => Lib.run_eql_slice_nil w 34 22 a n c 0 0 Try.underlying34
  obtain ⟨i0, hi, hz0, hz1, hz2⟩ := info_parts Try.info22
  have HC : Hid (Cells .u64 w b off n zs) := hc
  clear hc
  have hby : i0.bytes * n ≤ 281474976710656 := by rw [hz2]; omega
  have hml : n ≤ maxLen := by unfold maxLen; omega
  go_enter Try.func23, Try.ntmps23
  go_wp2_with (at_make; refine wpList_make_full _ rfl _ _ 34 rfl w.heap.size 22 i0 (.int .u64 0) 1 Try.underlying34 hi hz0 hz1 .i64 .i64 _ _ n rfl rfl rfl rfl hby hml (Nat.le_refl _) ?_)
  intro w1 hown hgr
  have hb1 : Below w.heap.size w w1 := (Below.refl _ _).grown hgr (Nat.le_refl _) (fun k h => by cases h)
  clear hgr hz0 hz1 hz2 hi hby hml i0
  go_wp2
  go_loopw [4] (fun i wr => ∃ k : Nat, k ≤ n ∧ i = .int .i64 k ∧ (∃ xs, wr.ownsRow w.heap.size 22 1 (.slice (some ⟨w.heap.size, 0, none⟩) n n) n xs ∧ ∀ i, i < k → xs[i]? = some (.int .u64 (zs[i]?.getD 0))) ∧ Below w.heap.size w wr) (fun i _ => n - (intOf i).toNat)
  case atStart => exact ⟨0, Nat.zero_le _, rfl, ⟨_, hown, fun i h => absurd h (Nat.not_lt_zero _)⟩, hb1⟩
  case round =>
    clear hown hb1
    obtain ⟨k, hk, rfl, ⟨xs, hown, hxs⟩, hbr⟩ := hrel
    have hlen : xs.length = n := by have := hown.1; omega
    by_cases hlt : k < n
    · have hk1 : (k : Int) < (n : Int) := by omega
      have c0 : wr.cell? ⟨b, off + k, none⟩ = some (.int .u64 (zs[k]?.getD 0)) := (hbr.cell (p := ⟨b, off + k, none⟩) (hb (by omega))).trans (HC.out k hlt)
      have c1 : wr.cell? ⟨w.heap.size, k, none⟩ = some xs[k] := by rw [hown.cellAt k (by omega)]; simp [hlen, hlt]
      have f1 : wr.frozen? ⟨w.heap.size, k, none⟩ = false := hown.frozenAt k
      have hst := (hown.stored k (.int .u64 (zs[k]?.getD 0)))
      have Hx := row_step hlen hlt hxs
      have HS : Hid ((∃ xs, (wr.setCell ⟨w.heap.size, k, none⟩ (.int .u64 (zs[k]?.getD 0))).ownsRow w.heap.size 22 1 (.slice (some ⟨w.heap.size, 0, none⟩) n n) n xs ∧ ∀ i, i < k + 1 → xs[i]? = some (.int .u64 (zs[i]?.getD 0))) ∧ Below w.heap.size w (wr.setCell ⟨w.heap.size, k, none⟩ (.int .u64 (zs[k]?.getD 0)))) := ⟨⟨_, hst.1, Hx⟩, hbr.setCell (Nat.le_refl _) _⟩
      clear hst Hx hown hxs hbr
      go_wp2
      go_roundw
      case rel => exact ⟨k + 1, by omega, by go_num, HS.out.1, HS.out.2⟩
      case measure => simp [intOf]; omega
    · obtain rfl : k = n := by omega
      have hsz : w.heap.size < wr.heap.size := by
        rcases hown.2 with ⟨h, _⟩ | ⟨g, c, cur, h, _, hg, _⟩
        · simp at h
        · simp only [Value.slice.injEq, Option.some.injEq, Addr.mk.injEq, and_true, true_and] at h
          exact lt_of_block (h.1 ▸ hg)
      have HS : Hid (Cells .u64 wr w.heap.size 0 k zs) := fun i hi => by rw [Nat.zero_add, hown.cellAt i (by omega)]; exact hxs i hi
      clear hown hxs
      go_wp2
      go_ret
      exact ⟨rfl, HS.out, hbr, hsz⟩

set_option maxHeartbeats 400000 in
theorem clone23_gen (a : Option Addr) (n cap : Nat) (zs : List Int) (w : World) (hn : n ≤ 256) (hs : Src .u64 w a n zs) :
    Calls Try.prog 23 #[.slice a n cap] w fun e w' => Cloned .u64 w w' n zs e ∧ Below w.heap.size w w' := by
  have hne : ∀ w a n c, (binOp .eql 34 (.slice a n c) (.slice none 0 0)).run Try.prog w = .ok (.bool a.isNone) w := fun w a n c => Lib.run_eql_slice_nil w 34 22 a n c 0 0 Try.underlying34
  cases a with
  | none =>
    obtain rfl : n = 0 := hs.1 rfl
    clear hs
    go_enter Try.func23, Try.ntmps23
    go_wp2
    go_ret
    exact ⟨⟨_, _, rfl, fun h => absurd h (Nat.lt_irrefl _)⟩, Below.refl _ _⟩
  | some x =>
    by_cases h0 : n = 0
    · subst h0
      clear hs
      obtain ⟨i0, hi, hz0, hz1, hz2⟩ := info_parts Try.info22
      go_enter Try.func23, Try.ntmps23
      go_wp2_with (at_make; refine wpList_make_full _ rfl _ _ 34 rfl w.heap.size 22 i0 (.int .u64 0) 1 Try.underlying34 hi hz0 hz1 .i64 .i64 _ _ 0 rfl rfl rfl rfl (by omega) (by unfold maxLen; omega) (Nat.le_refl _) ?_)
      intro w1 hown hgr
      have hb1 : Below w.heap.size w w1 := (Below.refl _ _).grown hgr (Nat.le_refl _) (fun k h => by cases h)
      clear hgr hown
      go_wp2
      refine wp_loop_rounds 1 ?_; rw [rounds_succ]
      go_wp2
      go_ret
      exact ⟨⟨_, _, rfl, fun h => absurd h (Nat.lt_irrefl _)⟩, hb1⟩
    · obtain ⟨b, off, e, hb, hc⟩ := hs.2 (by omega)
      cases e
      exact (clone23_any b off n cap zs w hn hc (fun _ => hb)).mono fun e w' ⟨he, h1, h2, h3⟩ => ⟨⟨_, _, he, fun _ => ⟨_, rfl, Nat.le_refl _, h3, h1⟩⟩, h2⟩

/-- keyName. -/
def kn (j : Nat) : ByteArray := if j = 0 then ⟨#[97]⟩ else if j = 1 then ⟨#[98, 98]⟩ else if j = 2 then ⟨#[99, 47, 99]⟩ else ⟨#[]⟩

set_option maxHeartbeats 400000 in
theorem keyName_any (j : Nat) (hj : j < 4) (w : World) :
    Calls Try.prog 26 #[.int .i64 j] w fun e w' => e = .returned (.string (kn j)) ∧ w' = w := by
  match j, hj with
  | 0, _ => go_enter Try.func26, Try.ntmps26; go_wp2; go_ret; exact ⟨rfl, rfl⟩
  | 1, _ => go_enter Try.func26, Try.ntmps26; go_wp2; go_ret; exact ⟨rfl, rfl⟩
  | 2, _ => go_enter Try.func26, Try.ntmps26; go_wp2; go_ret; exact ⟨rfl, rfl⟩
  | 3, _ => go_enter Try.func26, Try.ntmps26; go_wp2; go_ret; exact ⟨rfl, rfl⟩
end Go.Proofs.Qxb6003334a

import Derived.Test.Qxb6604369aRows
import Derived.WalkKit
import Derived.WalkSpells
import Derived.WalkLawsBesides
import Derived.BigQuiet
import Derived.Deep.RegionWith
import Derived.OpenShut
namespace Go.Proofs.Qxb6604369a
open Go.RowKit

theorem ret_bool {a b : Bool} (h : a = b) : Ending.returned (.bool a) = .returned (.bool b) := by rw [h]
theorem ret_int {k : IntKind} {a b : Int} (h : a = b) : Ending.returned (.int k a) = .returned (.int k b) := by rw [h]

/-- The number that four bytes spell, as both functions of the program reckon it. -/
def leI (z0 z1 z2 z3 : Int) : Int :=
  bits BinOp.or IntKind.u32 (bits BinOp.or IntKind.u32 (bits BinOp.or IntKind.u32 (z0 % 4294967296) (z1 % 4294967296 * 256 % 4294967296)) (z2 % 4294967296 * 65536 % 4294967296)) (z3 % 4294967296 * 16777216 % 4294967296)

theorem leI_range (z0 z1 z2 z3 : Int) : 0 ≤ leI z0 z1 z2 z3 ∧ leI z0 z1 z2 z3 < 4294967296 := by
  have := bounds_u32 (wf_bits BinOp.or IntKind.u32 (bits BinOp.or IntKind.u32 (bits BinOp.or IntKind.u32 (z0 % 4294967296) (z1 % 4294967296 * 256 % 4294967296)) (z2 % 4294967296 * 65536 % 4294967296)) (z3 % 4294967296 * 16777216 % 4294967296))
  unfold leI
  omega

/-- The length field of a record that begins at k. -/
def leN (zs : List Int) (k : Nat) : Nat := (leI (zs[k]?.getD 0) (zs[k + 1]?.getD 0) (zs[k + 2]?.getD 0) (zs[k + 3]?.getD 0)).toNat

theorem leN_cast (zs : List Int) (k : Nat) : ((leN zs k : Nat) : Int) = leI (zs[k]?.getD 0) (zs[k + 1]?.getD 0) (zs[k + 2]?.getD 0) (zs[k + 3]?.getD 0) := by
  unfold leN; have := leI_range (zs[k]?.getD 0) (zs[k + 1]?.getD 0) (zs[k + 2]?.getD 0) (zs[k + 3]?.getD 0); omega

theorem leN_lt (zs : List Int) (k : Nat) : leN zs k < 4294967296 := by
  have := leI_range (zs[k]?.getD 0) (zs[k + 1]?.getD 0) (zs[k + 2]?.getD 0) (zs[k + 3]?.getD 0); unfold leN; omega

/-- The bytes of a slice that begins at 'off' of block b. -/
def Cells (w : World) (b off len : Nat) (zs : List Int) : Prop := ∀ i, i < len → w.cell? ⟨b, off + i, none⟩ = some (.int .u8 (zs[i]?.getD 0))

set_option maxHeartbeats 400000 in
theorem le32_any (b off len cap k : Nat) (zs : List Int) (w : World) (hl : len ≤ 1048576) (hk : k + 3 < len) (hc : Cells w b off len zs) :
    Calls Try.prog 11 #[.slice (some ⟨b, off, none⟩) len cap, .int .i64 k] w fun e w' => e = .returned (.int .u32 (leN zs k : Nat)) ∧ ∃ n, w' = w.drewN n := by
  rw [leN_cast]
  have c0 := hc k (by omega)
  have c1 := hc (k + 1) (by omega)
  have c2 := hc (k + 2) (by omega)
  have c3 := hc (k + 3) (by omega)
  clear hc
  generalize zs[k]?.getD 0 = z0 at *
  generalize zs[k + 1]?.getD 0 = z1 at *
  generalize zs[k + 2]?.getD 0 = z2 at *
  generalize zs[k + 3]?.getD 0 = z3 at *
  have i0 : (k : Int) < (len : Int) := by omega
  have i1 : (k : Int) + 1 < (len : Int) := by omega
  have i2 : (k : Int) + 2 < (len : Int) := by omega
  have i3 : (k : Int) + 3 < (len : Int) := by omega
  go_enter Try.func11, Try.ntmps11
  go_wp2
  go_quiet (fail)
  go_wp2
  go_ret
  exact ⟨rfl, _, rfl⟩

set_option maxHeartbeats 400000 in
theorem uint32_any (b off n cap k : Nat) (zs : List Int) (w : World) (hn : 4 ≤ n) (hl : n ≤ 1048576) (hb : b < w.heap.size) (hc : ∀ j, j < 4 → w.cell? ⟨b, off + j, none⟩ = some (.int .u8 (zs[k + j]?.getD 0))) :
    Calls Try.prog 25 #[.agg #[], .slice (some ⟨b, off, none⟩) n cap] w fun e w' => e = .returned (.int .u32 (leN zs k : Nat)) ∧ Below w.heap.size w w' := by
  rw [leN_cast]
  have c0 := hc 0 (by omega)
  have c1 := hc 1 (by omega)
  have c2 := hc 2 (by omega)
  have c3 := hc 3 (by omega)
  clear hc
  simp only [Nat.add_zero] at c0
  generalize zs[k]?.getD 0 = z0 at *
  generalize zs[k + 1]?.getD 0 = z1 at *
  generalize zs[k + 2]?.getD 0 = z2 at *
  generalize zs[k + 3]?.getD 0 = z3 at *
  have i0 : (3 : Int) < (n : Int) := by omega
  go_enter Try.func25, Try.ntmps25
  go_wp2
  go_quiet (fail)
  go_wp2
  go_ret
  exact ⟨rfl, below_drewN ((Below.refl _ _).alloc (Nat.le_refl _) _) _⟩

set_option maxHeartbeats 400000 in
/-- Two slices of one length that begin at one place: the same bytes. -/
theorem same_any (ao ao' : Option Addr) (n c1 c2 : Nat) (zs : List Int) (w : World) (hn : n ≤ 1048576)
    (ha : 0 < n → ∃ b off, ao = some ⟨b, off, none⟩ ∧ ao' = some ⟨b, off, none⟩ ∧ Cells w b off n zs) :
    Calls Try.prog 12 #[.slice ao n c1, .slice ao' n c2] w fun e w' => e = .returned (.bool true) ∧ ∃ m, w' = w.drewN m := by
  by_cases hpos : 0 < n
  · obtain ⟨b, off, rfl, rfl, hc⟩ := ha hpos
    clear ha
    have HC : Hid (Cells w b off n zs) := hc
    clear hc
    go_enter Try.func12, Try.ntmps12
    go_wp2
    go_loopw [5] (fun i wr => ∃ k m : Nat, k ≤ n ∧ i = .int .i64 k ∧ wr = w.drewN m) (fun i _ => n - (intOf i).toNat)
    case atStart => exact ⟨0, 0, Nat.zero_le _, rfl, rfl⟩
    case round =>
      obtain ⟨k, m, hk, rfl, rfl⟩ := hrel
      by_cases hlt : k < n
      · have hk1 : (k : Int) < (n : Int) := by omega
        have c0 := HC.out k hlt
        go_wp2
        go_quiet (fail)
        go_wp2
        go_roundw
        case rel => exact ⟨k + 1, _, by omega, by go_num, rfl⟩
        case measure => simp [intOf]; omega
      · go_wp2
        go_ret
        exact ⟨rfl, _, rfl⟩
  · obtain rfl : n = 0 := by omega
    clear ha
    go_enter Try.func12, Try.ntmps12
    go_wp2
    refine wp_loop_rounds 1 ?_; rw [rounds_succ]
    go_wp2
    go_ret
    exact ⟨rfl, 0, rfl⟩

theorem Try.info5 : (Try.prog.info? 5).map (fun i => (i.zero, i.size, i.bytes)) = some (some (.int .u8 0), 1, 1) := by kernel_rfl

theorem row_step {xs : List Value} {zs : List Int} {k n : Nat} (hl : xs.length = n) (hk : k < n) (h : ∀ i, i < k → xs[i]? = some (.int .u8 (zs[i]?.getD 0))) :
    ∀ i, i < k + 1 → (xs.set k (.int .u8 (zs[k]?.getD 0)))[i]? = some (.int .u8 (zs[i]?.getD 0)) := by
  intro i hi
  rw [List.getElem?_set]
  by_cases e : k = i
  · subst e; rw [if_pos rfl, if_pos (by omega)]
  · rw [if_neg e]; exact h i (by omega)

set_option maxHeartbeats 400000 in
/-- The copy: a new block, which holds the slice's bytes. -/
theorem clone_any (b off n cap : Nat) (zs : List Int) (w : World) (hn : n ≤ 1048576) (hc : Cells w b off n zs) (hb : 0 < n → b < w.heap.size) :
    Calls Try.prog 9 #[.slice (some ⟨b, off, none⟩) n cap] w fun e w' => e = .returned (.slice (some ⟨w.heap.size, 0, none⟩) n n) ∧ Cells w' w.heap.size 0 n zs ∧ Below w.heap.size w w' ∧ w.heap.size < w'.heap.size := by
  have hne : ∀ w a n c, (binOp .eql 22 (.slice a n c) (.slice none 0 0)).run Try.prog w = .ok (.bool a.isNone) w := fun w a n c => Lib.run_eql_slice_nil w 22 5 a n c 0 0 Try.underlying22
  obtain ⟨i0, hi, hz0, hz1, hz2⟩ := info_parts Try.info5
  have HC : Hid (Cells w b off n zs) := hc
  clear hc
  have hby : i0.bytes * n ≤ 281474976710656 := by rw [hz2]; omega
  have hml : n ≤ maxLen := by unfold maxLen; omega
  go_enter Try.func9, Try.ntmps9
  go_wp2_with (at_make; refine wpList_make_full _ rfl _ _ 22 rfl w.heap.size 5 i0 (.int .u8 0) 1 Try.underlying22 hi hz0 hz1 .i64 .i64 _ _ n rfl rfl rfl rfl hby hml (Nat.le_refl _) ?_)
  intro w1 hown hgr
  have hb1 : Below w.heap.size w w1 := (Below.refl _ _).grown hgr (Nat.le_refl _) (fun k h => by cases h)
  clear hgr hz0 hz1 hz2 hi hby hml i0
  go_wp2
  go_loopw [4] (fun i wr => ∃ k : Nat, k ≤ n ∧ i = .int .i64 k ∧ (∃ xs, wr.ownsRow w.heap.size 5 1 (.slice (some ⟨w.heap.size, 0, none⟩) n n) n xs ∧ ∀ i, i < k → xs[i]? = some (.int .u8 (zs[i]?.getD 0))) ∧ Below w.heap.size w wr) (fun i _ => n - (intOf i).toNat)
  case atStart => exact ⟨0, Nat.zero_le _, rfl, ⟨_, hown, fun i h => absurd h (Nat.not_lt_zero _)⟩, hb1⟩
  case round =>
    clear hown hb1
    obtain ⟨k, hk, rfl, ⟨xs, hown, hxs⟩, hbr⟩ := hrel
    have hlen : xs.length = n := by have := hown.1; omega
    by_cases hlt : k < n
    · have hk1 : (k : Int) < (n : Int) := by omega
      have c0 : wr.cell? ⟨b, off + k, none⟩ = some (.int .u8 (zs[k]?.getD 0)) := (hbr.cell (p := ⟨b, off + k, none⟩) (hb (by omega))).trans (HC.out k hlt)
      have c1 : wr.cell? ⟨w.heap.size, k, none⟩ = some xs[k] := by rw [hown.cellAt k (by omega)]; simp [hlen, hlt]
      have f1 : wr.frozen? ⟨w.heap.size, k, none⟩ = false := hown.frozenAt k
      have hst := (hown.stored k (.int .u8 (zs[k]?.getD 0)))
      have Hx := row_step hlen hlt hxs
      have HS : Hid ((∃ xs, (wr.setCell ⟨w.heap.size, k, none⟩ (.int .u8 (zs[k]?.getD 0))).ownsRow w.heap.size 5 1 (.slice (some ⟨w.heap.size, 0, none⟩) n n) n xs ∧ ∀ i, i < k + 1 → xs[i]? = some (.int .u8 (zs[i]?.getD 0))) ∧ Below w.heap.size w (wr.setCell ⟨w.heap.size, k, none⟩ (.int .u8 (zs[k]?.getD 0)))) := ⟨⟨_, hst.1, Hx⟩, hbr.setCell (Nat.le_refl _) _⟩
      clear hst Hx hown hxs hbr
      go_wp2
      go_roundw
      case rel => exact ⟨k + 1, by omega, by go_num, HS.out.1, HS.out.2⟩
      case measure => simp [intOf]; omega
    · obtain rfl : k = n := by omega
      have hsz : w.heap.size < wr.heap.size := by
        rcases hown.2 with ⟨h, _⟩ | ⟨g, c, cur, h, _, hg, _⟩
        · simp at h
        · simp only [Value.slice.injEq, Option.some.injEq, Addr.mk.injEq, and_true, true_and] at h
          exact lt_of_block (h.1 ▸ hg)
      have HS : Hid (Cells wr w.heap.size 0 k zs) := fun i hi => by rw [Nat.zero_add, hown.cellAt i (by omega)]; exact hxs i hi
      clear hown hxs
      go_wp2
      go_ret
      exact ⟨rfl, HS.out, hbr, hsz⟩

set_option maxHeartbeats 400000 in
theorem clone_empty (x : Addr) (cap : Nat) (w : World) :
    Calls Try.prog 9 #[.slice (some x) 0 cap] w fun e w' => e = .returned (.slice (some ⟨w.heap.size, 0, none⟩) 0 0) ∧ Below w.heap.size w w' := by
  have hne : ∀ w a n c, (binOp .eql 22 (.slice a n c) (.slice none 0 0)).run Try.prog w = .ok (.bool a.isNone) w := fun w a n c => Lib.run_eql_slice_nil w 22 5 a n c 0 0 Try.underlying22
  obtain ⟨i0, hi, hz0, hz1, hz2⟩ := info_parts Try.info5
  go_enter Try.func9, Try.ntmps9
  go_wp2_with (at_make; refine wpList_make_full _ rfl _ _ 22 rfl w.heap.size 5 i0 (.int .u8 0) 1 Try.underlying22 hi hz0 hz1 .i64 .i64 _ _ 0 rfl rfl rfl rfl (by omega) (by unfold maxLen; omega) (Nat.le_refl _) ?_)
  intro w1 hown hgr
  have hb1 : Below w.heap.size w w1 := (Below.refl _ _).grown hgr (Nat.le_refl _) (fun k h => by cases h)
  clear hgr hown
  go_wp2
  refine wp_loop_rounds 1 ?_; rw [rounds_succ]
  go_wp2
  go_ret
  exact ⟨rfl, hb1⟩

set_option maxHeartbeats 400000 in
theorem clone_nil (w : World) :
    Calls Try.prog 9 #[.slice none 0 0] w fun e w' => e = .returned (.slice none 0 0) ∧ w' = w := by
  have hne : ∀ w a n c, (binOp .eql 22 (.slice a n c) (.slice none 0 0)).run Try.prog w = .ok (.bool a.isNone) w := fun w a n c => Lib.run_eql_slice_nil w 22 5 a n c 0 0 Try.underlying22
  go_enter Try.func9, Try.ntmps9
  go_wp2
  go_ret
  exact ⟨rfl, rfl⟩
end Go.Proofs.Qxb6604369a

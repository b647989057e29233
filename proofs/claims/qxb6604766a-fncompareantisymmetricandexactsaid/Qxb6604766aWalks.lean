import Derived.Test.Qxb6604766aRows
import Derived.WalkKit
import Derived.WalkSpells
import Derived.WalkLawsBesides
import Derived.BigQuiet
import Derived.Deep.RegionHeld
namespace Go.Proofs.Qxb6604766a
open Go.RowKit

theorem ret_int {k : IntKind} {a b : Int} (h : a = b) : Ending.returned (.int k a) = .returned (.int k b) := by rw [h]

/-- cmp.Compare on ints, and on strings. -/
def cI (x y : Int) : Int := if x < y then -1 else if y < x then 1 else 0
def cS (x y : ByteArray) : Int := if Op.bytesLess x.toList y.toList = true then -1 else if (!x.toList == y.toList) = true then 1 else 0

theorem bytesLess_irrefl : ∀ x : List UInt8, Op.bytesLess x x = false
  | [] => rfl
  | a :: x => by simp [Op.bytesLess, bytesLess_irrefl x]

theorem bytesLess_asymm : ∀ x y : List UInt8, Op.bytesLess x y = true → Op.bytesLess y x = false
  | [], y, h => by cases y <;> simp_all [Op.bytesLess]
  | a :: x, [], h => by simp [Op.bytesLess] at h
  | a :: x, b :: y, h => by
    have ih := bytesLess_asymm x y
    simp [Op.bytesLess] at h ⊢
    rcases h with h | ⟨h, h'⟩
    · exact ⟨UInt8.le_of_lt h, fun e => by subst e; exact absurd h (UInt8.lt_irrefl _)⟩
    · subst h; exact ⟨UInt8.le_refl _, fun _ => ih h'⟩

theorem bytesLess_total : ∀ x y : List UInt8, Op.bytesLess x y = false → Op.bytesLess y x = false → x = y
  | [], [], _, _ => rfl
  | [], b :: y, h, _ => by simp [Op.bytesLess] at h
  | a :: x, [], _, h => by simp [Op.bytesLess] at h
  | a :: x, b :: y, h1, h2 => by
    have ih := bytesLess_total x y
    simp [Op.bytesLess] at h1 h2
    have e : a = b := UInt8.le_antisymm h2.1 h1.1
    subst e
    rw [ih (h1.2 rfl) (h2.2 rfl)]

theorem cI_bd (x y : Int) : -1 ≤ cI x y ∧ cI x y ≤ 1 := by unfold cI; split <;> (try split) <;> omega
theorem cS_bd (x y : ByteArray) : -1 ≤ cS x y ∧ cS x y ≤ 1 := by unfold cS; split <;> (try split) <;> omega
theorem cI_swap (x y : Int) : cI y x = - cI x y := by unfold cI; split <;> split <;> (try split) <;> omega
theorem cI_zero (x y : Int) : cI x y = 0 ↔ x = y := by unfold cI; split <;> (try split) <;> omega

set_option maxHeartbeats 400000 in
theorem cmpI_any (x y : Int) (w : World) :
    Calls Try.prog 19 #[.int .i64 x, .int .i64 y] w fun e w' => e = .returned (.int .i64 (cI x y)) ∧ w' = w := by
  go_enter Try.func19, Try.ntmps19
  go_wp2
  all_goals go_ret
  · exact ⟨ret_int (by unfold cI; rw [if_pos ‹_›]), rfl⟩
  · exact ⟨ret_int (by unfold cI; rw [if_neg (by omega), if_pos ‹_›]), rfl⟩
  · exact ⟨ret_int (by unfold cI; rw [if_neg (by omega), if_neg (by omega)]), rfl⟩

set_option maxHeartbeats 400000 in
theorem cmpS_any (x y : ByteArray) (w : World) :
    Calls Try.prog 18 #[.string x, .string y] w fun e w' => e = .returned (.int .i64 (cS x y)) ∧ w' = w := by
  go_enter Try.func18, Try.ntmps18
  go_wp2
  all_goals go_ret
  · exact ⟨ret_int (by unfold cS; rw [if_pos ‹_›]), rfl⟩
  · have h1 : Op.bytesLess x.toList y.toList = false := by assumption
    have h2 : (!x.toList == y.toList) = true := by assumption
    exact ⟨ret_int (by unfold cS; rw [h1, h2]; rfl), rfl⟩
  · have h1 : Op.bytesLess x.toList y.toList = false := by assumption
    have h2 : (!x.toList == y.toList) = false := by assumption
    exact ⟨ret_int (by unfold cS; rw [h1, h2]; rfl), rfl⟩

/-- cmp.Or: the first that is not zero. -/
def or5 (c0 c1 c2 c3 c4 : Int) : Int := if c0 ≠ 0 then c0 else if c1 ≠ 0 then c1 else if c2 ≠ 0 then c2 else if c3 ≠ 0 then c3 else c4

set_option maxHeartbeats 400000 in
theorem or_any (g cap : Nat) (c0 c1 c2 c3 c4 : Int) (w : World) (h0 : w.cell? ⟨g, 0, none⟩ = some (.int .i64 c0)) (h1 : w.cell? ⟨g, 1, none⟩ = some (.int .i64 c1)) (h2 : w.cell? ⟨g, 2, none⟩ = some (.int .i64 c2)) (h3 : w.cell? ⟨g, 3, none⟩ = some (.int .i64 c3)) (h4 : w.cell? ⟨g, 4, none⟩ = some (.int .i64 c4)) :
    Calls Try.prog 17 #[.slice (some ⟨g, 0, none⟩) 5 cap] w fun e w' => e = .returned (.int .i64 (or5 c0 c1 c2 c3 c4)) ∧ w' = w := by
  go_enter Try.func17, Try.ntmps17
  go_wp2
  refine wp_loop_rounds 6 ?_
  rw [rounds_succ]
  go_wp2
  · go_ret
    exact ⟨ret_int (by have h : (c0 != 0) = true := by assumption
                       unfold or5; rw [if_pos (by simpa using h)]), rfl⟩
  have e0 : (c0 != 0) = false := by assumption
  rw [rounds_succ]
  go_wp2
  · go_ret
    exact ⟨ret_int (by have h : (c1 != 0) = true := by assumption
                       unfold or5; rw [if_neg (by simpa using e0), if_pos (by simpa using h)]), rfl⟩
  have e1 : (c1 != 0) = false := by assumption
  rw [rounds_succ]
  go_wp2
  · go_ret
    exact ⟨ret_int (by have h : (c2 != 0) = true := by assumption
                       unfold or5; rw [if_neg (by simpa using e0), if_neg (by simpa using e1), if_pos (by simpa using h)]), rfl⟩
  have e2 : (c2 != 0) = false := by assumption
  rw [rounds_succ]
  go_wp2
  · go_ret
    exact ⟨ret_int (by have h : (c3 != 0) = true := by assumption
                       unfold or5; rw [if_neg (by simpa using e0), if_neg (by simpa using e1), if_neg (by simpa using e2), if_pos (by simpa using h)]), rfl⟩
  have e3 : (c3 != 0) = false := by assumption
  rw [rounds_succ]
  go_wp2
  · go_ret
    exact ⟨ret_int (by unfold or5; rw [if_neg (by simpa using e0), if_neg (by simpa using e1), if_neg (by simpa using e2), if_neg (by simpa using e3)]), rfl⟩
  have e4 : (c4 != 0) = false := by assumption
  rw [rounds_succ]
  go_wp2
  go_ret
  exact ⟨ret_int (by unfold or5; rw [if_neg (by simpa using e0), if_neg (by simpa using e1), if_neg (by simpa using e2), if_neg (by simpa using e3)]; exact (by simpa using e4 : c4 = 0).symm), rfl⟩

theorem cS_swap (x y : ByteArray) : cS y x = - cS x y := by
  unfold cS
  cases h1 : Op.bytesLess x.toList y.toList
  · cases h2 : Op.bytesLess y.toList x.toList
    · have e := bytesLess_total _ _ h1 h2
      simp [e]
    · have hne : x.toList ≠ y.toList := fun e => by rw [e, bytesLess_irrefl] at h2; cases h2
      simp [hne]
  · have h2 := bytesLess_asymm _ _ h1
    have hne : y.toList ≠ x.toList := fun e => by rw [e, bytesLess_irrefl] at h1; cases h1
    simp [h2, hne]

theorem cS_zero (x y : ByteArray) : cS x y = 0 ↔ (x.toList == y.toList) = true := by
  unfold cS
  cases h1 : Op.bytesLess x.toList y.toList
  · cases (x.toList == y.toList) <;> simp
  · have hne : x.toList ≠ y.toList := fun e => by rw [e, bytesLess_irrefl] at h1; cases h1
    simp [hne]

set_option maxRecDepth 100000 in
set_option maxHeartbeats 1000000 in
theorem compare_any (f1 : ByteArray) (l1 k1 : Int) (r1 m1 : ByteArray) (f2 : ByteArray) (l2 k2 : Int) (r2 m2 : ByteArray) (w : World) :
    Calls Try.prog 14 #[.agg #[.string f1, .int .i64 l1, .int .i64 k1, .string r1, .string m1], .agg #[.string f2, .int .i64 l2, .int .i64 k2, .string r2, .string m2]] w
      fun e w' => e = .returned (.int .i64 (or5 (cS f1 f2) (cI l1 l2) (cI k1 k2) (cS r1 r2) (cS m1 m2))) ∧ Grown w w' ∧ Below w.heap.size w w' := by
  go_enter Try.func14, Try.ntmps14
  go_wp2
  go_region_held (fun w' => w'.cell? ⟨w.heap.size, 0, none⟩ = some (.string f1) ∧ w'.cell? ⟨w.heap.size, 1, none⟩ = some (.int .i64 l1) ∧ w'.cell? ⟨w.heap.size, 2, none⟩ = some (.int .i64 k1) ∧ w'.cell? ⟨w.heap.size, 3, none⟩ = some (.string r1) ∧ w'.cell? ⟨w.heap.size, 4, none⟩ = some (.string m1) ∧
      w'.cell? ⟨w.heap.size + 1, 0, none⟩ = some (.string f2) ∧ w'.cell? ⟨w.heap.size + 1, 1, none⟩ = some (.int .i64 l2) ∧ w'.cell? ⟨w.heap.size + 1, 2, none⟩ = some (.int .i64 k2) ∧ w'.cell? ⟨w.heap.size + 1, 3, none⟩ = some (.string r2) ∧ w'.cell? ⟨w.heap.size + 1, 4, none⟩ = some (.string m2)) (go_keep)
    (first | (go_at_call 18; refine (cmpS_any _ _ _).mono ?_; rintro e w' ⟨rfl, rfl⟩) | (go_at_call 19; refine (cmpI_any _ _ _).mono ?_; rintro e w' ⟨rfl, rfl⟩) | (go_at_call 17; refine (or_any (w.heap.size + 1 + 1) 5 (cS f1 f2) (cI l1 l2) (cI k1 k2) (cS r1 r2) (cS m1 m2) _ ?_ ?_ ?_ ?_ ?_).mono ?_; (go_simp); (go_simp); (go_simp); (go_simp); (go_simp); rintro e w' ⟨rfl, rfl⟩))
  go_wp2
  go_ret
  exact ⟨rfl, ((((Grown.refl _).alloc _ _).alloc _ _).alloc _ _).drew, ((((Below.refl _ _).alloc (Nat.le_refl _) _).alloc (by simp) _).alloc (by simp; omega) _).drew⟩

end Go.Proofs.Qxb6604766a

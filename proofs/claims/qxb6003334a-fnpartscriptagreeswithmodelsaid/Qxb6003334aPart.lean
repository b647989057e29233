import Derived.Test.Qxb6003334aLeaves
import Derived.BigRegion
namespace Go.Proofs.Qxb6003334a
open Go.RowKit Go.Maps

/-- The part's cells. -/
def partV (B : Nat) (fl vw : Int) (hd : Bool) (hi : Int) : Array Value :=
  #[.int .i32 0, .int .u32 0, .int .u32 0, .int .u32 0, .int .i32 0, .int .i32 0, .map (some B), .int .i64 fl, .int .u64 vw, .bool hd, .int .u64 hi, .map none, .int .u64 0, .bool false, .int .i64 0, .int .u64 0, .int .i64 0, .pointer none]

/-- Block B + 1 is the part. -/
def PartIs (w : World) (B : Nat) (fl vw : Int) (hd : Bool) (hi : Int) : Prop := w.heap[B + 1]? = some (.cells (partV B fl vw hd hi) 84 (0, 0))

set_option maxRecDepth 100000 in
set_option maxHeartbeats 400000 in
theorem newPart_any (fl vw hi : Int) (w : World) :
    Calls Try.prog 24 #[.int .i64 fl, .int .u64 vw, .int .u64 hi] w fun e w' => e = .returned (.pointer (some ⟨w.heap.size + 1, 0, none⟩)) ∧ w' = (w.alloc (Obj.map #[] 0)).alloc (.cells (partV w.heap.size fl vw false hi) 84) := by
  have hmm := @run_makeMap Try.prog
  go_enter Try.func24, Try.ntmps24
  go_wp2
  go_ret
  exact ⟨rfl, rfl⟩

theorem part_cell {w : World} {B : Nat} {fl vw : Int} {hd : Bool} {hi : Int} (h : PartIs w B fl vw hd hi) (j : Nat) : w.cell? ⟨B + 1, j, none⟩ = (partV B fl vw hd hi)[j]? := cell_of_row w (B + 1) j _ 84 (0, 0) h
theorem part_free {w : World} {B : Nat} {fl vw : Int} {hd : Bool} {hi : Int} (h : PartIs w B fl vw hd hi) (j : Nat) : w.frozen? ⟨B + 1, j, none⟩ = false := frozen_of_row w (B + 1) j _ 84 h

theorem grown_setCell (w : World) (a : Addr) (u : Value) : w.grownBy (w.setCell a u) (some a.block) :=
  ⟨rfl, rfl, rfl, by simp, fun k _ hk => Below.heap_setCell w a u k (fun e => hk (by rw [e]))⟩

set_option maxRecDepth 100000 in
set_option maxHeartbeats 400000 in
theorem hold_any (B : Nat) (fl vw : Int) (hd : Bool) (hi : Int) (w : World) (h : PartIs w B fl vw hd hi) :
    Calls Try.prog 27 #[.pointer (some ⟨B + 1, 0, none⟩)] w fun e w' => e = .returned (.tuple #[]) ∧ PartIs w' B fl vw true hi ∧ w.grownBy w' (some (B + 1)) := by
  have c9 : w.cell? ⟨B + 1, 9, none⟩ = some (.bool hd) := part_cell h 9
  have c11 : w.cell? ⟨B + 1, 11, none⟩ = some (.map none) := part_cell h 11
  have c12 : w.cell? ⟨B + 1, 12, none⟩ = some (.int .u64 0) := part_cell h 12
  have c14 : w.cell? ⟨B + 1, 14, none⟩ = some (.int .i64 0) := part_cell h 14
  have f9 := part_free h 9
  have f11 := part_free h 11
  have f12 := part_free h 12
  have f14 := part_free h 14
  have H := hid h
  clear h
  go_enter Try.func27, Try.ntmps27
  go_wp2
  go_end0
  go_wp2
  go_end0
  refine ⟨rfl, ?_, ?_⟩
  · have h1 := heap_setCell_same w (B + 1) 9 _ 84 (.bool true) H.out
    have h2 := heap_setCell_same _ (B + 1) 11 _ 84 (.map none) h1
    have h3 := heap_setCell_same _ (B + 1) 12 _ 84 (.int .u64 0) h2
    have h4 := heap_setCell_same _ (B + 1) 14 _ 84 (.int .i64 0) h3
    exact h4
  · exact ((((grown_setCell w ⟨B + 1, 9, none⟩ _).trans (grown_setCell _ ⟨B + 1, 11, none⟩ _)).trans (grown_setCell _ ⟨B + 1, 12, none⟩ _)).trans (grown_setCell _ ⟨B + 1, 14, none⟩ _))

/-! ### the map -/
/-- A value of the map reads as itself. -/
def raw (v : Value) : Option (DataW Value × List MemPlace) := some (.held v, [])
def kl (j : Nat) : Lit := .string (kn j).data.toList
/-- Block B is a map of at most n entries that holds, at the four keys, what M says. -/
def MapIs (w : World) (B n : Nat) (M : Nat → Option Value) : Prop :=
  ∃ D, w.ownsMap Try.prog 9 raw B n D ∧ ∀ j, j < 4 → Maps.has D (kl j) = (M j).isSome ∧ ∀ v, M j = some v → ∀ z, D.atKey (kl j) z = .held v

theorem law9 : Keyed Try.prog 9 := string_keyed Try.underlying9
theorem kn_size (j : Nat) : (kn j).size ≤ 3 := by unfold kn; repeat (first | split | decide)
theorem hkey (j : Nat) : keyOf Try.prog 9 (.string (kn j)) = some (kl j) := WideMaps.keyOf_string_mk Try.underlying9 (by have := kn_size j; unfold maxLen; omega)
def zeroE : Value := .agg #[.slice none 0 0, .int .u32 0, .int .i64 0, .int .u64 0]
theorem zeroE_run (w : World) : (zeroValue 87).run Try.prog w = .ok zeroE w := by kernel_rfl

theorem map_look {w : World} {B n : Nat} {M : Nat → Option Value} (h : MapIs w B n M) {j : Nat} (hj : j < 4) :
    (Instr.lookup 67 (.map (some B)) (.string (kn j)) true).run Try.prog w = .ok (.tuple #[(M j).getD zeroE, .bool (M j).isSome]) w := by
  obtain ⟨D, hown, hM⟩ := h
  obtain ⟨v, ps, hrun, hv⟩ := hown.look_ok law9 Try.underlying67 (zeroE_run w) (zd := .held zeroE) (zp := []) rfl (hkey j)
  obtain ⟨h1, h2⟩ := hM j hj
  rw [hrun, h1]
  simp only [raw, Option.some.injEq, Prod.mk.injEq] at hv
  cases hMj : M j with
  | none =>
    rw [hMj] at h1
    rw [atKey_of_not_has (by simpa using h1)] at hv
    simp only [DataW.held.injEq] at hv
    simp [hv.1]
  | some x =>
    rw [h2 x hMj] at hv
    simp only [DataW.held.injEq] at hv
    simp [hv.1]

theorem kl_ne {i j : Nat} (hi : i < 4) (hj : j < 4) (h : i ≠ j) : kl i ≠ kl j := by
  have : ∀ i, i < 4 → ∀ j, j < 4 → i ≠ j → (kn i).data.toList ≠ (kn j).data.toList := by decide
  intro e
  exact this i hi j hj h (by injection e)

def upd (M : Nat → Option Value) (j : Nat) (v : Option Value) : Nat → Option Value := fun i => if i = j then v else M i

theorem key_lit (i : Nat) : WideAt.IsKeyLit (kl i) := by unfold kl; trivial
theorem map_store {w : World} {B n : Nat} {M : Nat → Option Value} (h : MapIs w B n M) (hn : n < maxLen) {j : Nat} (hj : j < 4) (v : Value) :
    ∃ w', (Instr.mapUpdate 67 (.map (some B)) (.string (kn j)) v).run Try.prog w = .ok () w' ∧ MapIs w' B (n + 1) (upd M j (some v)) ∧ w.grownBy w' (some B) := by
  obtain ⟨D, hown, hM⟩ := h
  obtain ⟨w', hrun, hown', ht⟩ := hown.store law9 Try.underlying67 hn (hkey j) (d := .held v) (ps := []) rfl
  refine ⟨w', hrun, ⟨_, hown', fun i hi => ?_⟩, ht.grown⟩
  unfold upd
  by_cases e : i = j
  · subst e
    rw [if_pos rfl]
    exact ⟨by rw [has_put_same hown.isMap (key_lit i)]; rfl, fun x hx z => by cases hx; exact atKey_put_same hown.isMap (key_lit i) _ _⟩
  · rw [if_neg e, has_put_other (kl_ne hi hj e)]
    exact ⟨(hM i hi).1, fun x hx z => by rw [atKey_put_other (kl_ne hi hj e)]; exact (hM i hi).2 x hx z⟩

theorem map_drop {w : World} {B n : Nat} {M : Nat → Option Value} (h : MapIs w B n M) {j : Nat} (hj : j < 4) (ty : TypeId) :
    ∃ w', (Builtin.delete_ #[67, 9] ty #[.map (some B), .string (kn j)]).run Try.prog w = .ok (.tuple #[]) w' ∧ MapIs w' B n (upd M j none) ∧ w.grownBy w' (some B) := by
  obtain ⟨D, hown, hM⟩ := h
  obtain ⟨w', hrun, hown', ht⟩ := hown.drop law9 Try.underlying67 (hkey j) ty
  refine ⟨w', hrun, ⟨_, hown', fun i hi => ?_⟩, ht.grown⟩
  unfold upd
  by_cases e : i = j
  · subst e
    rw [if_pos rfl]
    exact ⟨by rw [has_del_same]; rfl, fun x hx z => by cases hx⟩
  · rw [if_neg e, has_del_other (kl_ne hi hj e)]
    exact ⟨(hM i hi).1, fun x hx z => by rw [atKey_del_other (kl_ne hi hj e)]; exact (hM i hi).2 x hx z⟩

theorem map_kept {w w' : World} {B n : Nat} {M : Nat → Option Value} {row : Option Nat} (h : MapIs w B n M) (hg : w.grownBy w' row) (hne : some B ≠ row) : MapIs w' B n M := by
  obtain ⟨D, hown, hM⟩ := h
  exact ⟨D, hown.kept hg hne, hM⟩
theorem part_kept {w w' : World} {B : Nat} {fl vw : Int} {hd : Bool} {hi : Int} {row : Option Nat} (h : PartIs w B fl vw hd hi) (hg : w.grownBy w' row) (hne : some (B + 1) ≠ row) : PartIs w' B fl vw hd hi :=
  (hg.block (B + 1) (lt_of_block h) hne).trans h

theorem grown_to {a b c : World} {r : Nat} (h : a.grownBy b none) (k : b.grownBy c (some r)) : a.grownBy c (some r) :=
  ⟨k.os.trans h.os, k.tape.trans h.tape, k.output.trans h.output, Nat.le_trans h.size k.size, fun i hi hne => (k.block i (Nat.lt_of_lt_of_le hi h.size) hne).trans (h.block i hi (by simp))⟩

/-- The entry that is put. -/
def ent (bj : Nat) (f e c : Int) : Value := .agg #[.slice (some ⟨bj, 0, none⟩) 1 1, .int .u32 f, .int .i64 e, .int .u64 c]

set_option maxRecDepth 100000 in
set_option maxHeartbeats 400000 in
theorem put_any (B n j bj : Nat) (f e c fl vw : Int) (hd : Bool) (hi : Int) (M : Nat → Option Value) (w : World) (hj : j < 4) (hn : n < maxLen) (hm : MapIs w B n M) (hp : PartIs w B fl vw hd hi) :
    Calls Try.prog 25 #[.pointer (some ⟨B + 1, 0, none⟩), .string (kn j), .bool false, .slice (some ⟨bj, 0, none⟩) 1 1, .int .u32 f, .int .i64 e, .int .u64 c] w
      fun e' w' => e' = .returned (.tuple #[]) ∧ MapIs w' B (n + 1) (upd M j (some (ent bj f e c))) ∧ w.grownBy w' (some B) := by
  have c6 : w.cell? ⟨B + 1, 6, none⟩ = some (.map (some B)) := part_cell hp 6
  have hlt := lt_of_block hp
  have hg0 : w.grownBy ((w.alloc (Obj.cells #[Value.bool false, Value.slice (some ⟨bj, 0, none⟩) 1 1, Value.int IntKind.u32 f, Value.int IntKind.i64 e, Value.int IntKind.u64 c, Value.bool false] 89)).drew) none := ⟨rfl, rfl, rfl, (World.grownBy_alloc w _ none).size, (World.grownBy_alloc w _ none).block⟩
  obtain ⟨w', hrun, hm', hg'⟩ := map_store (map_kept hm hg0 (by simp)) hn hj (ent bj f e c)
  have HM := hid hm'
  have HG : Hid (w.grownBy w' (some B)) := grown_to hg0 hg'
  clear hm' hg' hg0 hm hp
  unfold ent at hrun
  generalize kn j = key at *
  go_enter Try.func25, Try.ntmps25
  go_wp2
  go_region
  all_goals go_end0
  all_goals go_wp2
  all_goals go_end0
  all_goals exact ⟨rfl, HM.out, HG.out⟩

set_option maxRecDepth 100000 in
set_option maxHeartbeats 400000 in
theorem remove_any (B n j : Nat) (fl vw : Int) (hd : Bool) (hi : Int) (M : Nat → Option Value) (w : World) (hj : j < 4) (hm : MapIs w B n M) (hp : PartIs w B fl vw hd hi) :
    Calls Try.prog 25 #[.pointer (some ⟨B + 1, 0, none⟩), .string (kn j), .bool true, .slice none 0 0, .int .u32 0, .int .i64 0, .int .u64 0] w
      fun e' w' => e' = .returned (.tuple #[]) ∧ MapIs w' B n (upd M j none) ∧ w.grownBy w' (some B) := by
  have c6 : w.cell? ⟨B + 1, 6, none⟩ = some (.map (some B)) := part_cell hp 6
  have hlt := lt_of_block hp
  have hg0 : w.grownBy (w.alloc (Obj.cells #[Value.bool true, Value.slice none 0 0, Value.int IntKind.u32 0, Value.int IntKind.i64 0, Value.int IntKind.u64 0, Value.bool false] 89)) none := World.grownBy_alloc w _ none
  obtain ⟨w', hrun, hm', hg'⟩ := map_drop (map_kept hm hg0 (by simp)) hj 0
  have HM := hid hm'
  have HG : Hid (w.grownBy w' (some B)) := grown_to hg0 hg'
  clear hm' hg' hg0 hm hp
  generalize kn j = key at *
  go_enter Try.func25, Try.ntmps25
  go_wp2
  go_end0
  go_wp2
  go_end0
  exact ⟨rfl, HM.out, HG.out⟩

/-- gone, turned round: is an entry that expires at e seen at now? -/
def liveB (fl now e : Int) : Bool := !((fl != 0 && decide (fl ≤ now)) || (e != 0 && decide (e ≤ now)))

set_option maxRecDepth 100000 in
set_option maxHeartbeats 400000 in
theorem gone_any (B : Nat) (f e c fl vw now : Int) (hd : Bool) (hi : Int) (sa : Option Addr) (sn sc : Nat) (w : World) (hp : PartIs w B fl vw hd hi) :
    Calls Try.prog 42 #[.pointer (some ⟨B + 1, 0, none⟩), .agg #[.slice sa sn sc, .int .u32 f, .int .i64 e, .int .u64 c], .int .i64 now] w
      fun e' w' => e' = .returned (.bool (!liveB fl now e)) ∧ Below w.heap.size w w' := by
  have c7 : w.cell? ⟨B + 1, 7, none⟩ = some (.int .i64 fl) := part_cell hp 7
  have hlt := lt_of_block hp
  clear hp
  go_enter Try.func42, Try.ntmps42
  go_wp2
  all_goals (go_ret; refine ⟨ret_bool ?_, (Below.refl _ _).alloc (Nat.le_refl _) _⟩)
  all_goals (clear c7 hlt; simp [liveB, *])

theorem laid2 {w w1 : World} (A B : Array Value) (t : TypeId) (hb : Below ((w.alloc (.cells A t)).alloc (.cells B t)).heap.size ((w.alloc (.cells A t)).alloc (.cells B t)) w1) (j : Nat) :
    w1.cell? ⟨w.heap.size, j, none⟩ = A[j]? ∧ w1.cell? ⟨w.heap.size + 1, j, none⟩ = B[j]? := by
  constructor
  · rw [hb.cell (p := ⟨w.heap.size, j, none⟩) (by simp; omega)]
    rw [World.cell?_alloc_lt _ _ _ (by simp)]
    exact cell_of_row _ _ _ _ t (0, 0) (heap_alloc_new _ _)
  · rw [hb.cell (p := ⟨w.heap.size + 1, j, none⟩) (by simp)]
    simp
theorem free2 {w w1 : World} (A B : Array Value) (t : TypeId) (hb : Below ((w.alloc (.cells A t)).alloc (.cells B t)).heap.size ((w.alloc (.cells A t)).alloc (.cells B t)) w1) (j : Nat) :
    w1.frozen? ⟨w.heap.size, j, none⟩ = false := by
  rw [hb.frozen (p := ⟨w.heap.size, j, none⟩) (by simp; omega)]
  rw [World.frozen?_alloc_old _ _ _ (by simp)]
  exact frozen_of_row _ _ _ _ t (heap_alloc_new _ _)

set_option maxRecDepth 100000 in
set_option maxHeartbeats 1000000 in
theorem live39_yes (B n j bj : Nat) (f e c fl vw now : Int) (hd : Bool) (hi : Int) (M : Nat → Option Value) (w : World) (hj : j < 4) (hm : MapIs w B n M) (hp : PartIs w B fl vw hd hi) (hM : M j = some (ent bj f e c)) (hl : liveB fl now e = true) :
    Calls Try.prog 39 #[.pointer (some ⟨B + 1, 0, none⟩), .string (kn j), .int .i64 now] w
      fun e' w' => e' = .returned (.tuple #[ent bj f e c, .bool true]) ∧ Below w.heap.size w w' := by
  have c6 : w.cell? ⟨B + 1, 6, none⟩ = some (.map (some B)) := part_cell hp 6
  have hlt := lt_of_block hp
  have hlk := fun (xs : Array Value) => map_look (map_kept hm (World.grownBy_alloc w (.cells xs 87) none) (by simp)) hj
  rw [hM] at hlk
  simp only [Option.getD_some, Option.isSome_some, ent] at hlk
  have hp2 : ∀ xs ys, PartIs ((w.alloc (.cells xs 87)).alloc (.cells ys 87)) B fl vw hd hi := fun xs ys => part_kept (part_kept hp (World.grownBy_alloc w (.cells xs 87) none) (by simp)) (World.grownBy_alloc _ _ none) (by simp)
  have HP := hid hp2
  clear hp2 hm hp hM
  generalize kn j = key at *
  go_enter Try.func39, Try.ntmps39
  go_wp2_with (first | (go_at_call 42; refine (gone_any B f e c fl vw now hd hi _ 1 1 _ (by exact HP.out _ _)).mono ?_) | go_in)
  rintro e1 w1 ⟨rfl, hb1⟩
  rw [hl]
  have hB := ((Below.refl w.heap.size w).alloc (Nat.le_refl _) (.cells #[Value.slice none 0 0, Value.int IntKind.u32 0, Value.int IntKind.i64 0, Value.int IntKind.u64 0] 87)).alloc (by simp) (.cells #[Value.slice (some ⟨bj, 0, none⟩) 1 1, Value.int IntKind.u32 f, Value.int IntKind.i64 e, Value.int IntKind.u64 c] 87) |>.trans (hb1.mono (by simp; omega))
  have hl2 := laid2 _ _ _ hb1
  have hf2 := free2 _ _ _ hb1
  have hsz : w.heap.size + 1 < w1.heap.size := by have := hb1.size; simp at this; omega
  have x0 := (hl2 0).1; have x1 := (hl2 1).1; have x2 := (hl2 2).1; have x3 := (hl2 3).1
  have y0 := (hl2 0).2; have y1 := (hl2 1).2; have y2 := (hl2 2).2; have y3 := (hl2 3).2
  simp at x0 x1 x2 x3 y0 y1 y2 y3
  have f0 := hf2 0; have f1 := hf2 1; have f2 := hf2 2; have f3 := hf2 3
  clear hl2 hf2 hb1 hlk HP hlt c6
  go_wp2
  refine bodyPost_ret (v := .tuple #[ent bj f e c, .bool true]) (by simp [results, Try.results39, go_sem, ent, x0, x1, x2, x3]) rfl ⟨rfl, ?_⟩
  exact (((hB.setCell (Nat.le_refl _) _).setCell (Nat.le_refl _) _).setCell (Nat.le_refl _) _).setCell (Nat.le_refl _) _

set_option maxRecDepth 100000 in
set_option maxHeartbeats 1000000 in
theorem live39_dead (B n j bj : Nat) (f e c fl vw now : Int) (hd : Bool) (hi : Int) (M : Nat → Option Value) (w : World) (hj : j < 4) (hm : MapIs w B n M) (hp : PartIs w B fl vw hd hi) (hM : M j = some (ent bj f e c)) (hl : liveB fl now e = false) :
    Calls Try.prog 39 #[.pointer (some ⟨B + 1, 0, none⟩), .string (kn j), .int .i64 now] w
      fun e' w' => e' = .returned (.tuple #[zeroE, .bool false]) ∧ Below w.heap.size w w' := by
  have c6 : w.cell? ⟨B + 1, 6, none⟩ = some (.map (some B)) := part_cell hp 6
  have hlt := lt_of_block hp
  have hlk := fun (xs : Array Value) => map_look (map_kept hm (World.grownBy_alloc w (.cells xs 87) none) (by simp)) hj
  rw [hM] at hlk
  simp only [Option.getD_some, Option.isSome_some, ent] at hlk
  have hp2 : ∀ xs ys, PartIs ((w.alloc (.cells xs 87)).alloc (.cells ys 87)) B fl vw hd hi := fun xs ys => part_kept (part_kept hp (World.grownBy_alloc w (.cells xs 87) none) (by simp)) (World.grownBy_alloc _ _ none) (by simp)
  have HP := hid hp2
  clear hp2 hm hp hM
  generalize kn j = key at *
  go_enter Try.func39, Try.ntmps39
  go_wp2_with (first | (go_at_call 42; refine (gone_any B f e c fl vw now hd hi _ 1 1 _ (by exact HP.out _ _)).mono ?_) | go_in)
  rintro e1 w1 ⟨rfl, hb1⟩
  rw [hl]
  have hB := ((Below.refl w.heap.size w).alloc (Nat.le_refl _) (.cells #[Value.slice none 0 0, Value.int IntKind.u32 0, Value.int IntKind.i64 0, Value.int IntKind.u64 0] 87)).alloc (by simp) (.cells #[Value.slice (some ⟨bj, 0, none⟩) 1 1, Value.int IntKind.u32 f, Value.int IntKind.i64 e, Value.int IntKind.u64 c] 87) |>.trans (hb1.mono (by simp; omega))
  have hl2 := laid2 _ _ _ hb1
  have hf2 := free2 _ _ _ hb1
  have hsz : w.heap.size + 1 < w1.heap.size := by have := hb1.size; simp at this; omega
  have x0 := (hl2 0).1; have x1 := (hl2 1).1; have x2 := (hl2 2).1; have x3 := (hl2 3).1
  have y0 := (hl2 0).2; have y1 := (hl2 1).2; have y2 := (hl2 2).2; have y3 := (hl2 3).2
  simp at x0 x1 x2 x3 y0 y1 y2 y3
  have f0 := hf2 0; have f1 := hf2 1; have f2 := hf2 2; have f3 := hf2 3
  clear hl2 hf2 hb1 hlk HP hlt c6
  go_wp2
  refine bodyPost_ret (v := .tuple #[zeroE, .bool false]) (by simp [results, Try.results39, go_sem, zeroE, x0, x1, x2, x3]) rfl ⟨rfl, ?_⟩
  exact (((hB.setCell (Nat.le_refl _) _).setCell (Nat.le_refl _) _).setCell (Nat.le_refl _) _).setCell (Nat.le_refl _) _

set_option maxRecDepth 100000 in
set_option maxHeartbeats 1000000 in
theorem live39_none (B n j : Nat) (fl vw now : Int) (hd : Bool) (hi : Int) (M : Nat → Option Value) (w : World) (hj : j < 4) (hm : MapIs w B n M) (hp : PartIs w B fl vw hd hi) (hM : M j = none) :
    Calls Try.prog 39 #[.pointer (some ⟨B + 1, 0, none⟩), .string (kn j), .int .i64 now] w
      fun e' w' => e' = .returned (.tuple #[zeroE, .bool false]) ∧ Below w.heap.size w w' := by
  have c6 : w.cell? ⟨B + 1, 6, none⟩ = some (.map (some B)) := part_cell hp 6
  have hlt := lt_of_block hp
  have hlk := fun (xs : Array Value) => map_look (map_kept hm (World.grownBy_alloc w (.cells xs 87) none) (by simp)) hj
  rw [hM] at hlk
  simp only [Option.getD_none, Option.isSome_none, zeroE] at hlk
  clear hm hp hM
  generalize kn j = key at *
  go_enter Try.func39, Try.ntmps39
  go_wp2
  refine bodyPost_ret (v := .tuple #[zeroE, .bool false]) (by simp [results, Try.results39, go_sem, zeroE]) rfl ⟨rfl, ?_⟩
  exact ((Below.refl _ _).alloc (Nat.le_refl _) _).alloc (by simp) _

set_option maxRecDepth 100000 in
set_option maxHeartbeats 1000000 in
theorem zzlive (B : Nat) (key : ByteArray) (now : Int) (sa : Option Addr) (sn sc : Nat) (f e c : Int) (ok : Bool) (w : World)
    (h39 : Calls Try.prog 39 #[.pointer (some ⟨B + 1, 0, none⟩), .string key, .int .i64 now] w fun e' w' => e' = .returned (.tuple #[.agg #[.slice sa sn sc, .int .u32 f, .int .i64 e, .int .u64 c], .bool ok]) ∧ Below w.heap.size w w') :
    Calls Try.prog 28 #[.pointer (some ⟨B + 1, 0, none⟩), .string key, .int .i64 now] w
      fun e' w' => e' = .returned (.tuple #[.slice sa sn sc, .int .u32 f, .int .i64 e, .int .u64 c, .bool ok]) ∧ Below w.heap.size w w' := by
  have H := hid h39
  clear h39
  go_enter Try.func28, Try.ntmps28
  go_wp2_with (go_at_call 39; refine H.out.mono ?_)
  rintro e1 w1 ⟨rfl, hb1⟩
  clear H
  go_wp2
  go_quiet (fail)
  go_wp2
  refine bodyPost_ret (v := .tuple #[.slice sa sn sc, .int .u32 f, .int .i64 e, .int .u64 c, .bool ok]) (by simp [results, Try.results28, go_sem]) rfl ⟨rfl, ?_⟩
  exact below_drewN (hb1.alloc hb1.size _) _

set_option maxRecDepth 100000 in
set_option maxHeartbeats 400000 in
theorem copyView_any (B : Nat) (fl vw : Int) (hd : Bool) (hi : Int) (w : World) (hp : PartIs w B fl vw hd hi) :
    Calls Try.prog 29 #[.pointer (some ⟨B + 1, 0, none⟩)] w fun e' w' => e' = .returned (.int .u64 (if hd then vw else hi)) ∧ w' = w := by
  have c8 : w.cell? ⟨B + 1, 8, none⟩ = some (.int .u64 vw) := part_cell hp 8
  have c9 : w.cell? ⟨B + 1, 9, none⟩ = some (.bool hd) := part_cell hp 9
  have c10 : w.cell? ⟨B + 1, 10, none⟩ = some (.int .u64 hi) := part_cell hp 10
  clear hp
  cases hd
  · go_enter Try.func29, Try.ntmps29
    go_wp2
    go_ret
    exact ⟨rfl, rfl⟩
  · go_enter Try.func29, Try.ntmps29
    go_wp2
    go_ret
    exact ⟨rfl, rfl⟩
end Go.Proofs.Qxb6003334a

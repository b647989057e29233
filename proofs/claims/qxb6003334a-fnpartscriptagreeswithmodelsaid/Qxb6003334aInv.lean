import Derived.Test.Qxb6003334aPart
namespace Go.Proofs.Qxb6003334a
open Go.RowKit

/-- An array of four cells. -/
def arr4 (f : Nat → Value) : Array Value := #[f 0, f 1, f 2, f 3]

theorem arr4_get (f : Nat → Value) {j : Nat} (hj : j < 4) : (arr4 f)[j]? = some (f j) := by
  match j, hj with
  | 0, _ => rfl
  | 1, _ => rfl
  | 2, _ => rfl
  | 3, _ => rfl

theorem arr4_set {f g : Nat → Value} {k : Nat} {v : Value} (hk : k < 4) (h : ∀ i, g i = if i = k then v else f i) : (arr4 f).setIfInBounds k v = arr4 g := by
  match k, hk with
  | 0, _ => simp [arr4, h]
  | 1, _ => simp [arr4, h]
  | 2, _ => simp [arr4, h]
  | 3, _ => simp [arr4, h]

def updB (P : Nat → Bool) (k : Nat) (b : Bool) : Nat → Bool := fun i => if i = k then b else P i
def updI (V : Nat → Int) (k : Nat) (v : Int) : Nat → Int := fun i => if i = k then v else V i
def updN (V : Nat → Nat) (k : Nat) (v : Nat) : Nat → Nat := fun i => if i = k then v else V i

/-- The five arrays of the model. -/
structure Arrs (w : World) (B : Nat) (P : Nat → Bool) (V F E C : Nat → Int) : Prop where
  aP : w.heap[B + 1 + 1]? = some (.cells (arr4 fun i => .bool (P i)) 47 (0, 0))
  aV : w.heap[B + 1 + 1 + 1]? = some (.cells (arr4 fun i => .int .u8 (V i)) 48 (0, 0))
  aF : w.heap[B + 1 + 1 + 1 + 1]? = some (.cells (arr4 fun i => .int .u32 (F i)) 50 (0, 0))
  aE : w.heap[B + 1 + 1 + 1 + 1 + 1]? = some (.cells (arr4 fun i => .int .i64 (E i)) 51 (0, 0))
  aC : w.heap[B + 1 + 1 + 1 + 1 + 1 + 1]? = some (.cells (arr4 fun i => .int .u64 (C i)) 52 (0, 0))

/-- The part, its map, and the bytes that the entries lead to. -/
structure Core (w0 w : World) (B n : Nat) (fl vw : Int) (hd : Bool) (hi : Int) (M : Nat → Option Value) (bs : Nat → Nat) (P : Nat → Bool) (V : Nat → Int) : Prop where
  bel : Below B w0 w
  size : B + 7 ≤ w.heap.size
  part : PartIs w B fl vw hd hi
  map : MapIs w B n M
  val : ∀ j, j < 4 → P j = true → B + 7 ≤ bs j ∧ w.cell? ⟨bs j, 0, none⟩ = some (.int .u8 (V j))

/-- The map holds what the model says. -/
def Link (M : Nat → Option Value) (bs : Nat → Nat) (P : Nat → Bool) (F E C : Nat → Int) : Prop :=
  ∀ j, j < 4 → (P j = false → M j = none) ∧ (P j = true → M j = some (ent (bs j) (F j) (E j) (C j)))

def Inv (w0 w : World) (B n : Nat) (fl vw : Int) (hd : Bool) (hi : Int) (P : Nat → Bool) (V F E C : Nat → Int) : Prop :=
  ∃ M bs, Core w0 w B n fl vw hd hi M bs P V ∧ Arrs w B P V F E C ∧ Link M bs P F E C

section
variable {w0 w w' : World} {B n : Nat} {fl vw : Int} {hd : Bool} {hi : Int} {M : Nat → Option Value} {bs : Nat → Nat} {P : Nat → Bool} {V F E C : Nat → Int}

theorem Arrs.keep (h : Arrs w B P V F E C) (hs : B + 7 ≤ w.heap.size) {row : Option Nat} (hg : w.grownBy w' row) (hne : row = none ∨ row = some B ∨ row = some (B + 1)) : Arrs w' B P V F E C := by
  have ne : ∀ b, B + 1 + 1 ≤ b → some b ≠ row := by
    intro b hb e
    rcases hne with r | r | r
    · rw [r] at e; cases e
    · rw [r] at e; injection e; omega
    · rw [r] at e; injection e; omega
  exact ⟨(hg.block _ (by omega) (ne _ (by omega))).trans h.aP, (hg.block _ (by omega) (ne _ (by omega))).trans h.aV, (hg.block _ (by omega) (ne _ (by omega))).trans h.aF, (hg.block _ (by omega) (ne _ (by omega))).trans h.aE, (hg.block _ (by omega) (ne _ (by omega))).trans h.aC⟩

theorem Arrs.setP (h : Arrs w B P V F E C) {k : Nat} (hk : k < 4) (b : Bool) : Arrs (w.setCell ⟨B + 1 + 1, k, none⟩ (.bool b)) B (updB P k b) V F E C := by
  have o : ∀ x, x ≠ B + 1 + 1 → (w.setCell ⟨B + 1 + 1, k, none⟩ (.bool b)).heap[x]? = w.heap[x]? := fun x hx => Below.heap_setCell w _ _ x hx
  refine ⟨?_, (o _ (by omega)).trans h.aV, (o _ (by omega)).trans h.aF, (o _ (by omega)).trans h.aE, (o _ (by omega)).trans h.aC⟩
  rw [heap_setCell_same w (B + 1 + 1) k _ 47 (.bool b) h.aP, arr4_set hk]
  intro i; unfold updB; split <;> rfl
theorem Arrs.setV (h : Arrs w B P V F E C) {k : Nat} (hk : k < 4) (v : Int) : Arrs (w.setCell ⟨B + 1 + 1 + 1, k, none⟩ (.int .u8 v)) B P (updI V k v) F E C := by
  have o : ∀ x, x ≠ B + 1 + 1 + 1 → (w.setCell ⟨B + 1 + 1 + 1, k, none⟩ (.int .u8 v)).heap[x]? = w.heap[x]? := fun x hx => Below.heap_setCell w _ _ x hx
  refine ⟨(o _ (by omega)).trans h.aP, ?_, (o _ (by omega)).trans h.aF, (o _ (by omega)).trans h.aE, (o _ (by omega)).trans h.aC⟩
  rw [heap_setCell_same w (B + 1 + 1 + 1) k _ 48 (.int .u8 v) h.aV, arr4_set hk]
  intro i; unfold updI; split <;> rfl
theorem Arrs.setF (h : Arrs w B P V F E C) {k : Nat} (hk : k < 4) (v : Int) : Arrs (w.setCell ⟨B + 1 + 1 + 1 + 1, k, none⟩ (.int .u32 v)) B P V (updI F k v) E C := by
  have o : ∀ x, x ≠ B + 1 + 1 + 1 + 1 → (w.setCell ⟨B + 1 + 1 + 1 + 1, k, none⟩ (.int .u32 v)).heap[x]? = w.heap[x]? := fun x hx => Below.heap_setCell w _ _ x hx
  refine ⟨(o _ (by omega)).trans h.aP, (o _ (by omega)).trans h.aV, ?_, (o _ (by omega)).trans h.aE, (o _ (by omega)).trans h.aC⟩
  rw [heap_setCell_same w (B + 1 + 1 + 1 + 1) k _ 50 (.int .u32 v) h.aF, arr4_set hk]
  intro i; unfold updI; split <;> rfl
theorem Arrs.setE (h : Arrs w B P V F E C) {k : Nat} (hk : k < 4) (v : Int) : Arrs (w.setCell ⟨B + 1 + 1 + 1 + 1 + 1, k, none⟩ (.int .i64 v)) B P V F (updI E k v) C := by
  have o : ∀ x, x ≠ B + 1 + 1 + 1 + 1 + 1 → (w.setCell ⟨B + 1 + 1 + 1 + 1 + 1, k, none⟩ (.int .i64 v)).heap[x]? = w.heap[x]? := fun x hx => Below.heap_setCell w _ _ x hx
  refine ⟨(o _ (by omega)).trans h.aP, (o _ (by omega)).trans h.aV, (o _ (by omega)).trans h.aF, ?_, (o _ (by omega)).trans h.aC⟩
  rw [heap_setCell_same w (B + 1 + 1 + 1 + 1 + 1) k _ 51 (.int .i64 v) h.aE, arr4_set hk]
  intro i; unfold updI; split <;> rfl
theorem Arrs.setC (h : Arrs w B P V F E C) {k : Nat} (hk : k < 4) (v : Int) : Arrs (w.setCell ⟨B + 1 + 1 + 1 + 1 + 1 + 1, k, none⟩ (.int .u64 v)) B P V F E (updI C k v) := by
  have o : ∀ x, x ≠ B + 1 + 1 + 1 + 1 + 1 + 1 → (w.setCell ⟨B + 1 + 1 + 1 + 1 + 1 + 1, k, none⟩ (.int .u64 v)).heap[x]? = w.heap[x]? := fun x hx => Below.heap_setCell w _ _ x hx
  refine ⟨(o _ (by omega)).trans h.aP, (o _ (by omega)).trans h.aV, (o _ (by omega)).trans h.aF, (o _ (by omega)).trans h.aE, ?_⟩
  rw [heap_setCell_same w (B + 1 + 1 + 1 + 1 + 1 + 1) k _ 52 (.int .u64 v) h.aC, arr4_set hk]
  intro i; unfold updI; split <;> rfl

theorem Arrs.cP (h : Arrs w B P V F E C) {k : Nat} (hk : k < 4) : w.cell? ⟨B + 1 + 1, k, none⟩ = some (.bool (P k)) := (cell_of_row w (B + 1 + 1) k _ 47 (0, 0) h.aP).trans (arr4_get _ hk)
theorem Arrs.fP (h : Arrs w B P V F E C) (k : Nat) : w.frozen? ⟨B + 1 + 1, k, none⟩ = false := frozen_of_row w (B + 1 + 1) k _ 47 h.aP
theorem Arrs.cV (h : Arrs w B P V F E C) {k : Nat} (hk : k < 4) : w.cell? ⟨B + 1 + 1 + 1, k, none⟩ = some (.int .u8 (V k)) := (cell_of_row w (B + 1 + 1 + 1) k _ 48 (0, 0) h.aV).trans (arr4_get _ hk)
theorem Arrs.fV (h : Arrs w B P V F E C) (k : Nat) : w.frozen? ⟨B + 1 + 1 + 1, k, none⟩ = false := frozen_of_row w (B + 1 + 1 + 1) k _ 48 h.aV
theorem Arrs.cF (h : Arrs w B P V F E C) {k : Nat} (hk : k < 4) : w.cell? ⟨B + 1 + 1 + 1 + 1, k, none⟩ = some (.int .u32 (F k)) := (cell_of_row w (B + 1 + 1 + 1 + 1) k _ 50 (0, 0) h.aF).trans (arr4_get _ hk)
theorem Arrs.fF (h : Arrs w B P V F E C) (k : Nat) : w.frozen? ⟨B + 1 + 1 + 1 + 1, k, none⟩ = false := frozen_of_row w (B + 1 + 1 + 1 + 1) k _ 50 h.aF
theorem Arrs.cE (h : Arrs w B P V F E C) {k : Nat} (hk : k < 4) : w.cell? ⟨B + 1 + 1 + 1 + 1 + 1, k, none⟩ = some (.int .i64 (E k)) := (cell_of_row w (B + 1 + 1 + 1 + 1 + 1) k _ 51 (0, 0) h.aE).trans (arr4_get _ hk)
theorem Arrs.fE (h : Arrs w B P V F E C) (k : Nat) : w.frozen? ⟨B + 1 + 1 + 1 + 1 + 1, k, none⟩ = false := frozen_of_row w (B + 1 + 1 + 1 + 1 + 1) k _ 51 h.aE
theorem Arrs.cC (h : Arrs w B P V F E C) {k : Nat} (hk : k < 4) : w.cell? ⟨B + 1 + 1 + 1 + 1 + 1 + 1, k, none⟩ = some (.int .u64 (C k)) := (cell_of_row w (B + 1 + 1 + 1 + 1 + 1 + 1) k _ 52 (0, 0) h.aC).trans (arr4_get _ hk)
theorem Arrs.fC (h : Arrs w B P V F E C) (k : Nat) : w.frozen? ⟨B + 1 + 1 + 1 + 1 + 1 + 1, k, none⟩ = false := frozen_of_row w (B + 1 + 1 + 1 + 1 + 1 + 1) k _ 52 h.aC

theorem cell_grown {row : Option Nat} (hg : w.grownBy w' row) {p : Addr} {v : Value} (h : w.cell? p = some v) (hne : some p.block ≠ row) : w'.cell? p = some v :=
  (World.cell?_of_block (w := w) (hg.block p.block (block_lt_of_cell h) hne)).trans h

theorem Core.keep (h : Core w0 w B n fl vw hd hi M bs P V) (hg : w.grownBy w' none) : Core w0 w' B n fl vw hd hi M bs P V :=
  ⟨h.bel.grown hg (by have := h.size; omega) (fun k e => by cases e), Nat.le_trans h.size hg.size, part_kept h.part hg (by simp), map_kept h.map hg (by simp), fun j hj hp => ⟨(h.val j hj hp).1, cell_grown hg (h.val j hj hp).2 (by simp)⟩⟩

theorem Core.setCell (h : Core w0 w B n fl vw hd hi M bs P V) {a : Addr} (h1 : B + 1 + 1 ≤ a.block) (h2 : a.block < B + 7) (u : Value) : Core w0 (w.setCell a u) B n fl vw hd hi M bs P V := by
  have hg := grown_setCell w a u
  exact ⟨h.bel.setCell (by omega) u, Nat.le_trans h.size hg.size, part_kept h.part hg (by simp; omega), map_kept h.map hg (by simp; omega), fun j hj hp => ⟨(h.val j hj hp).1, cell_grown hg (h.val j hj hp).2 (by have := (h.val j hj hp).1; simp; omega)⟩⟩

theorem grown_of_below (hb : Below w.heap.size w w') : w.grownBy w' none := ⟨hb.os, hb.tape, hb.output, hb.size, fun i hi _ => hb.block i hi⟩

theorem Inv.below (h : Inv w0 w B n fl vw hd hi P V F E C) (hb : Below w.heap.size w w') : Inv w0 w' B n fl vw hd hi P V F E C := by
  obtain ⟨M, bs, hc, ha, hl⟩ := h
  exact ⟨M, bs, hc.keep (grown_of_below hb), ha.keep hc.size (grown_of_below hb) (.inl rfl), hl⟩

/-- A put. -/
theorem inv_put (hc : Core w0 w B n fl vw hd hi M bs P V) (ha : Arrs w B P V F E C) (hl : Link M bs P F E C) {k bj : Nat} (hk : k < 4) {v f e c : Int} {w1 w2 : World} (hg1 : w.grownBy w1 none) (hbj : w.heap.size ≤ bj) (hcell : w1.cell? ⟨bj, 0, none⟩ = some (.int .u8 v))
    (hM2 : MapIs w2 B (n + 1) (upd M k (some (ent bj f e c)))) (hg2 : w1.grownBy w2 (some B)) :
    Inv w0 (((((w2.setCell ⟨B + 1 + 1, k, none⟩ (.bool true)).setCell ⟨B + 1 + 1 + 1, k, none⟩ (.int .u8 v)).setCell ⟨B + 1 + 1 + 1 + 1, k, none⟩ (.int .u32 f)).setCell ⟨B + 1 + 1 + 1 + 1 + 1, k, none⟩ (.int .i64 e)).setCell ⟨B + 1 + 1 + 1 + 1 + 1 + 1, k, none⟩ (.int .u64 c))
      B (n + 1) fl vw hd hi (updB P k true) (updI V k v) (updI F k f) (updI E k e) (updI C k c) := by
  have hs := hc.size
  have hc1 := hc.keep hg1
  have ha1 := ha.keep hs hg1 (.inl rfl)
  have ha2 := ha1.keep hc1.size hg2 (.inr (.inl rfl))
  have hc2 : Core w0 w2 B (n + 1) fl vw hd hi (upd M k (some (ent bj f e c))) (updN bs k bj) (updB P k true) (updI V k v) := by
    refine ⟨hc1.bel.grown hg2 (by have := hc1.size; omega) (fun i e => by injection e; omega), Nat.le_trans hc1.size hg2.size, part_kept hc1.part hg2 (by simp), hM2, fun j hj hp => ?_⟩
    unfold updN updI
    by_cases ej : j = k
    · rw [if_pos ej, if_pos ej]
      exact ⟨by omega, cell_grown hg2 hcell (by simp; omega)⟩
    · rw [if_neg ej, if_neg ej]
      have hp' : P j = true := by simpa [updB, ej] using hp
      exact ⟨(hc1.val j hj hp').1, cell_grown hg2 (hc1.val j hj hp').2 (by have := (hc1.val j hj hp').1; simp; omega)⟩
  refine ⟨_, _, ((((hc2.setCell (by simp) (by simp) _).setCell (by simp) (by simp) _).setCell (by simp) (by simp) _).setCell (by simp) (by simp) _).setCell (by simp) (by simp) _, ((((ha2.setP hk true).setV hk v).setF hk f).setE hk e).setC hk c, ?_⟩
  intro j hj
  unfold updB upd updN updI
  by_cases ej : j = k
  · simp [ej]
  · simp only [if_neg ej]; exact hl j hj

/-- A remove. -/
theorem inv_remove (hc : Core w0 w B n fl vw hd hi M bs P V) (ha : Arrs w B P V F E C) (hl : Link M bs P F E C) {k : Nat} (hk : k < 4) {w2 : World} (hM2 : MapIs w2 B n (upd M k none)) (hg2 : w.grownBy w2 (some B)) :
    Inv w0 (w2.setCell ⟨B + 1 + 1, k, none⟩ (.bool false)) B n fl vw hd hi (updB P k false) V F E C := by
  have hs := hc.size
  have ha2 := ha.keep hs hg2 (.inr (.inl rfl))
  have hc2 : Core w0 w2 B n fl vw hd hi (upd M k none) bs (updB P k false) V := by
    refine ⟨hc.bel.grown hg2 (by omega) (fun i e => by injection e; omega), Nat.le_trans hs hg2.size, part_kept hc.part hg2 (by simp), hM2, fun j hj hp => ?_⟩
    have hp' : P j = true := by
      by_cases ej : j = k
      · simp [updB, ej] at hp
      · simpa [updB, ej] using hp
    exact ⟨(hc.val j hj hp').1, cell_grown hg2 (hc.val j hj hp').2 (by have := (hc.val j hj hp').1; simp; omega)⟩
  refine ⟨_, _, hc2.setCell (by simp) (by simp) _, ha2.setP hk false, ?_⟩
  intro j hj
  unfold updB upd
  by_cases ej : j = k
  · simp [ej]
  · simp only [if_neg ej]; exact hl j hj

/-- A hold. -/
theorem inv_hold (h : Inv w0 w B n fl vw hd hi P V F E C) (hp : PartIs w' B fl vw true hi) (hg : w.grownBy w' (some (B + 1))) : Inv w0 w' B n fl vw true hi P V F E C := by
  obtain ⟨M, bs, hc, ha, hl⟩ := h
  have hs := hc.size
  refine ⟨M, bs, ⟨hc.bel.grown hg (by omega) (fun i e => by injection e; omega), Nat.le_trans hs hg.size, hp, map_kept hc.map hg (by simp), fun j hj hpj => ⟨(hc.val j hj hpj).1, cell_grown hg (hc.val j hj hpj).2 (by have := (hc.val j hj hpj).1; simp; omega)⟩⟩, ha.keep hs hg (.inr (.inr rfl)), hl⟩

/-- One round more. -/
theorem Inv.mono (h : Inv w0 w B n fl vw hd hi P V F E C) {n' : Nat} (hn : n ≤ n') : Inv w0 w B n' fl vw hd hi P V F E C := by
  obtain ⟨M, bs, hc, ha, hl⟩ := h
  obtain ⟨D, ho, hD⟩ := hc.map
  exact ⟨M, bs, ⟨hc.bel, hc.size, hc.part, ⟨D, ho.mono hn, hD⟩, hc.val⟩, ha, hl⟩
end

/-- At the start. -/
theorem inv_start (w : World) (fl vw hi : Int) :
    Inv w (((((((w.alloc (Obj.map #[] 0)).alloc (Obj.cells (partV w.heap.size fl vw false hi) 84)).alloc (Obj.cells #[Value.bool false, Value.bool false, Value.bool false, Value.bool false] 47)).alloc
        (Obj.cells #[Value.int IntKind.u8 0, Value.int IntKind.u8 0, Value.int IntKind.u8 0, Value.int IntKind.u8 0] 48)).alloc (Obj.cells #[Value.int IntKind.u32 0, Value.int IntKind.u32 0, Value.int IntKind.u32 0, Value.int IntKind.u32 0] 50)).alloc
        (Obj.cells #[Value.int IntKind.i64 0, Value.int IntKind.i64 0, Value.int IntKind.i64 0, Value.int IntKind.i64 0] 51)).alloc (Obj.cells #[Value.int IntKind.u64 0, Value.int IntKind.u64 0, Value.int IntKind.u64 0, Value.int IntKind.u64 0] 52))
      w.heap.size 0 fl vw false hi (fun _ => false) (fun _ => 0) (fun _ => 0) (fun _ => 0) (fun _ => 0) := by
  have g := fun (w : World) (o : Obj) => World.grownBy_alloc w o none
  have hm : MapIs (w.alloc (Obj.map #[] 0)) w.heap.size 0 (fun _ => none) := ⟨_, World.ownsMap_made w Try.prog 9 raw, fun j _ => ⟨rfl, fun v h => by cases h⟩⟩
  have sz : ∀ (w : World) (o : Obj), (w.alloc o).heap.size = w.heap.size + 1 := fun w o => by simp
  have old : ∀ (w : World) (o : Obj) (x : Nat), x < w.heap.size → (w.alloc o).heap[x]? = w.heap[x]? := fun w o x hx => Below.heap_alloc w o x hx
  refine ⟨fun _ => none, fun _ => 0, ⟨?_, ?_, ?_, ?_, fun j _ h => by cases h⟩, ⟨?_, ?_, ?_, ?_, ?_⟩, fun j _ => ⟨fun _ => rfl, fun h => by cases h⟩⟩
  · exact (((((((Below.refl _ _).alloc (Nat.le_refl _) _).alloc (by simp) _).alloc (by simp; omega) _).alloc (by simp; omega) _).alloc (by simp; omega) _).alloc (by simp; omega) _).alloc (by simp; omega) _
  · simp only [sz]; omega
  · unfold PartIs
    rw [old _ _ _ (by simp only [sz]; omega), old _ _ _ (by simp only [sz]; omega), old _ _ _ (by simp only [sz]; omega), old _ _ _ (by simp only [sz]; omega), old _ _ _ (by simp only [sz]; omega), ← sz w (Obj.map #[] 0)]
    exact heap_alloc_new _ _
  · exact map_kept (map_kept (map_kept (map_kept (map_kept (map_kept hm (g _ _) (by simp)) (g _ _) (by simp)) (g _ _) (by simp)) (g _ _) (by simp)) (g _ _) (by simp)) (g _ _) (by simp)
  · rw [old _ _ _ (by simp only [sz]; omega), old _ _ _ (by simp only [sz]; omega), old _ _ _ (by simp only [sz]; omega), old _ _ _ (by simp only [sz]; omega), ← sz w (Obj.map #[] 0), ← sz (w.alloc (Obj.map #[] 0)) (Obj.cells (partV w.heap.size fl vw false hi) 84)]
    exact heap_alloc_new _ _
  · rw [old _ _ _ (by simp only [sz]; omega), old _ _ _ (by simp only [sz]; omega), old _ _ _ (by simp only [sz]; omega)]
    rw [show w.heap.size + 1 + 1 + 1 = (((w.alloc (Obj.map #[] 0)).alloc (Obj.cells (partV w.heap.size fl vw false hi) 84)).alloc (Obj.cells #[Value.bool false, Value.bool false, Value.bool false, Value.bool false] 47)).heap.size from by simp only [sz]]
    exact heap_alloc_new _ _
  · rw [old _ _ _ (by simp only [sz]; omega), old _ _ _ (by simp only [sz]; omega)]
    rw [show w.heap.size + 1 + 1 + 1 + 1 = ((((w.alloc (Obj.map #[] 0)).alloc (Obj.cells (partV w.heap.size fl vw false hi) 84)).alloc (Obj.cells #[Value.bool false, Value.bool false, Value.bool false, Value.bool false] 47)).alloc (Obj.cells #[Value.int IntKind.u8 0, Value.int IntKind.u8 0, Value.int IntKind.u8 0, Value.int IntKind.u8 0] 48)).heap.size from by simp only [sz]]
    exact heap_alloc_new _ _
  · rw [old _ _ _ (by simp only [sz]; omega)]
    rw [show w.heap.size + 1 + 1 + 1 + 1 + 1 = (((((w.alloc (Obj.map #[] 0)).alloc (Obj.cells (partV w.heap.size fl vw false hi) 84)).alloc (Obj.cells #[Value.bool false, Value.bool false, Value.bool false, Value.bool false] 47)).alloc (Obj.cells #[Value.int IntKind.u8 0, Value.int IntKind.u8 0, Value.int IntKind.u8 0, Value.int IntKind.u8 0] 48)).alloc (Obj.cells #[Value.int IntKind.u32 0, Value.int IntKind.u32 0, Value.int IntKind.u32 0, Value.int IntKind.u32 0] 50)).heap.size from by simp only [sz]]
    exact heap_alloc_new _ _
  · rw [show w.heap.size + 1 + 1 + 1 + 1 + 1 + 1 = ((((((w.alloc (Obj.map #[] 0)).alloc (Obj.cells (partV w.heap.size fl vw false hi) 84)).alloc (Obj.cells #[Value.bool false, Value.bool false, Value.bool false, Value.bool false] 47)).alloc (Obj.cells #[Value.int IntKind.u8 0, Value.int IntKind.u8 0, Value.int IntKind.u8 0, Value.int IntKind.u8 0] 48)).alloc (Obj.cells #[Value.int IntKind.u32 0, Value.int IntKind.u32 0, Value.int IntKind.u32 0, Value.int IntKind.u32 0] 50)).alloc (Obj.cells #[Value.int IntKind.i64 0, Value.int IntKind.i64 0, Value.int IntKind.i64 0, Value.int IntKind.i64 0] 51)).heap.size from by simp only [sz]]
    exact heap_alloc_new _ _
end Go.Proofs.Qxb6003334a

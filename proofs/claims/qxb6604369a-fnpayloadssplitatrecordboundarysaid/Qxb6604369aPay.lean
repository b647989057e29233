import Derived.Test.Qxb6604369aEnds
namespace Go.Proofs.Qxb6604369a
open Go.RowKit

theorem Try.info22 : (Try.prog.info? 22).map (fun i => (i.zero, i.size, i.bytes)) = some (some (.slice none 0 0), 1, 24) := by kernel_rfl

theorem own_slice {w : World} {base : Nat} {e : TypeId} {size : Nat} {v : Value} {n : Nat} {xs : List Value} (h : w.ownsRow base e size v n xs) : ∃ a c, v = .slice a n c := by
  rcases h.2 with ⟨rfl, rfl⟩ | ⟨g, c, cur, rfl, _⟩
  · exact ⟨_, _, rfl⟩
  · exact ⟨_, _, rfl⟩

set_option maxRecDepth 100000 in
set_option maxHeartbeats 1000000 in
/-- The closure of 'payloads': what it is handed is appended to what the captured variable holds. -/
theorem push_any (Bc : Nat) (o : Int) (ao : Option Addr) (ln cp : Nat) (v : Value) (xs : List Value) (w : World) (hB : w.heap[Bc]? = some (.cells #[v] 28 (0, 0))) (hown : w.ownsRow (Bc + 1) 22 1 v xs.length xs) (hlen : xs.length ≤ 1048576) :
    Calls Try.prog 24 #[.int .i64 o, .slice ao ln cp, .pointer (some ⟨Bc, 0, none⟩)] w fun e w' => e = .returned (.tuple #[]) ∧ ∃ v', w'.heap[Bc]? = some (.cells #[v'] 28 (0, 0)) ∧ w'.ownsRow (Bc + 1) 22 1 v' (xs ++ [Value.slice ao ln cp]).length (xs ++ [Value.slice ao ln cp]) ∧ Below Bc w w' := by
  obtain ⟨i0, hi, hz0, hz1, hz2⟩ := info_parts Try.info22
  have cB := cell_of_one hB
  have hlt := lt_of_block hB
  obtain ⟨a, c, rfl⟩ := own_slice hown
  have ha := hown.alloc (.cells #[.slice ao ln cp] 22)
  have c1 := cellOf_new w (.slice ao ln cp) 22
  go_enter Try.func24, Try.ntmps24
  go_wp2_with (at_builtin; refine wpList_append_own _ rfl _ _ 28 rfl (Bc + 1) 22 i0 (.slice none 0 0) 1 24 Try.underlying28 hi hz0 hz1 hz2 rfl (by decide) _ _ _ rfl ha ⟨w.heap.size, 0, none⟩ 1 1 [.slice ao ln cp] rfl rfl c1 ?c2 ?c3 ?c4 ?c5 ?_)
  case c2 => intro u hu; simp at hu; subst hu; rfl
  case c3 => unfold maxLen; omega
  case c4 => omega
  case c5 => simp; omega
  intro v' w1 hown1 hgr _
  have hB1 : w1.heap[Bc]? = some (.cells #[.slice a xs.length c] 28 (0, 0)) := by
    refine (hgr.block Bc (by simp; omega) ?_).trans ((Below.heap_alloc w _ Bc hlt).trans hB)
    intro e
    have := own_base hown Bc e.symm
    omega
  have hb1 : Below Bc w w1 := ((Below.refl Bc w).alloc (by omega) _).grown hgr (by simp; omega) (fun g hg => by have := own_base hown g hg; omega)
  have cB1 := cell_of_one hB1
  have fB1 := free_of_one hB1
  obtain ⟨a', c', rfl⟩ := own_slice hown1
  clear hgr ha c1 cB hown hB hz0 hz1 hz2 hi
  go_wp2
  go_end0
  refine ⟨rfl, _, one_setCell hB1, ?_, hb1.setCell (Nat.le_refl _) _⟩
  have := ownsRow_setCell_below hown1 (a := ⟨Bc, 0, none⟩) (by show Bc < Bc + 1; omega) (.slice a' (xs.length + 1) c')
  simpa using this

theorem own_below {w w1 : World} {base : Nat} {e : TypeId} {size : Nat} {v : Value} {n : Nat} {xs : List Value} (hb : Below w.heap.size w w1) (h : w.ownsRow base e size v n xs) : w1.ownsRow base e size v n xs := by
  refine ⟨h.1, ?_⟩
  rcases h.2 with h | ⟨g, c, cur, rfl, h1, h2, h3⟩
  · exact .inl h
  · exact .inr ⟨g, c, cur, rfl, h1, (hb.block g (lt_of_block h2)).trans h2, h3⟩

/-- The payload of the record at p, m bytes long. -/
def recV (b off cap p m : Nat) : Value :=
  .slice (if cap = p + 12 then some ⟨b, off, none⟩ else some ⟨b, off + (p + 12), none⟩) m (cap - (p + 12))

/-- The payloads of the records that begin at p and have these ends. -/
def recsV (zs : List Int) (b off cap : Nat) : List Nat → Nat → List Value
  | [], _ => []
  | e :: es, p => recV b off cap p (leN zs p) :: recsV zs b off cap es e

theorem recsV_snoc (zs : List Int) (b off cap len : Nat) : ∀ (es : List Nat) (p q r : Nat), Seg zs len es p q → recsV zs b off cap (es ++ [r]) p = recsV zs b off cap es p ++ [recV b off cap q (leN zs q)]
  | [], p, q, r, h => by have h : p = q := h; subst h; rfl
  | e :: es, p, q, r, h => by simp only [List.cons_append, recsV]; rw [recsV_snoc zs b off cap len es e q r h.2]

theorem recsV_length (zs : List Int) (b off cap : Nat) : ∀ (es : List Nat) (p : Nat), (recsV zs b off cap es p).length = es.length
  | [], _ => rfl
  | e :: es, p => by simp [recsV, recsV_length zs b off cap es e]

theorem seg_end {zs : List Int} {len : Nat} {todo : List Nat} (h : Seg zs len todo len len) : todo = [] := by
  have := seg_len h
  exact List.length_eq_zero_iff.1 (by omega)

set_option maxRecDepth 100000 in
set_option maxHeartbeats 1000000 in
theorem walk_any (b off n cap from_ Bc : Nat) (zs : List Int) (es : List Nat) (w : World) (hcap : n ≤ cap) (hcap2 : cap ≤ 1048576) (hseg : Seg zs n es from_ n) (hc : Cells w b off n zs) (hb : b < Bc)
    (hB : w.heap[Bc]? = some (.cells #[.slice none 0 0] 28 (0, 0))) :
    Calls Try.prog 23 #[.slice (some ⟨b, off, none⟩) n cap, .int .i64 from_, .func (.func 24) #[] #[.pointer (some ⟨Bc, 0, none⟩)]] w fun e w' => e = .returned (.tuple #[]) ∧
      ∃ v, w'.heap[Bc]? = some (.cells #[v] 28 (0, 0)) ∧ w'.ownsRow (Bc + 1) 22 1 v (recsV zs b off cap es from_).length (recsV zs b off cap es from_) ∧ Below Bc w w' := by
  have HC : Hid (Cells w b off n zs) := hc
  clear hc
  have hsg : Hid (Seg zs n es from_ n) := hseg
  have hle0 := seg_len hseg
  clear hseg
  go_enter Try.func23, Try.ntmps23
  go_wp2
  go_loopw [6] (fun i wr => ∃ k : Nat, ∃ done todo : List Nat, k ≤ n ∧ i = .int .i64 k ∧ Hid (es = done ++ todo) ∧ Hid (Seg zs n done from_ k) ∧ Hid (Seg zs n todo k n) ∧ Hid (∃ v, wr.heap[Bc]? = some (.cells #[v] 28 (0, 0)) ∧ wr.ownsRow (Bc + 1) 22 1 v (recsV zs b off cap done from_).length (recsV zs b off cap done from_)) ∧ Below Bc w wr) (fun i _ => n - (intOf i).toNat)
  case atStart => exact ⟨from_, [], es, by omega, rfl, rfl, rfl, hsg, ⟨_, hB, World.ownsRow_nil _ _ _ _⟩, Below.refl _ _⟩
  case round =>
    obtain ⟨k, done, todo, hk, rfl, hes, hsd, hst, hv, hbr⟩ := hrel
    by_cases hlt : k < n
    · have hcr : Hid (Cells wr b off n zs) := fun i hi => (hbr.cell (p := ⟨b, off + i, none⟩) hb).trans (HC.out i hi)
      have hle := leN_lt zs k
      obtain ⟨e, rest, htodo, he, hen, hrest⟩ : ∃ e rest, Hid (todo = e :: rest) ∧ Hid (e = k + 12 + leN zs k) ∧ e ≤ n ∧ Hid (Seg zs n rest e n) := by
        cases todo with
        | nil => have : k = n := hst; omega
        | cons e rest => exact ⟨e, rest, rfl, hst.out.1.1, hst.out.1.2, hst.out.2⟩
      have hd := seg_len hsd.out
      have hrl := recsV_length zs b off cap done from_
      have hlen : (recsV zs b off cap done from_).length ≤ 1048576 := by omega
      clear hrl
      have hbd : k + 12 + leN zs k ≤ n := by have := he.out; omega
      have hck : (cap = k) = False := by simp; omega
      have hwr : IntKind.i64.wrap ((k : Int) + 12) = (k : Int) + 12 := by rw [IntKind.wrap_i64]; omega
      have hbW : b < wr.heap.size := by
        obtain ⟨v, h1, _⟩ := hv.out
        have := lt_of_block h1; omega
      have hcW : Hid (∀ j, j < 4 → wr.cell? ⟨b, off + k + j, none⟩ = some (.int .u8 (zs[k + j]?.getD 0))) := fun j hj => by rw [Nat.add_assoc]; exact hcr.out (k + j) (by omega)
      go_wp2
      go_region_with (go_at_call 25; refine (uint32_any b (off + k) (n - k) (cap - k) k zs _ (by omega) (by omega) (by exact hbW) (by exact hcW.out)).mono ?_; rintro e w1 ⟨rfl, hb1⟩)
      have hb2 : Below Bc w w1 := hbr.drew.trans (hb1.mono (by obtain ⟨v, h1, _⟩ := hv.out; have := lt_of_block h1; show Bc ≤ wr.heap.size; omega))
      have hv2 : Hid (∃ v, w1.heap[Bc]? = some (.cells #[v] 28 (0, 0)) ∧ w1.ownsRow (Bc + 1) 22 1 v (recsV zs b off cap done from_).length (recsV zs b off cap done from_)) := by
        obtain ⟨v, h1, h2⟩ := hv.out
        exact ⟨v, (hb1.block Bc (lt_of_block h1)).trans h1, own_below (w := wr.drew) hb1 h2⟩
      clear hb1 hv hbr hcW hbW hcr
      obtain ⟨v, hv3, hv4⟩ := hv2.out
      have H3 : Hid (w1.heap[Bc]? = some (.cells #[v] 28 (0, 0))) := hv3
      have H4 : Hid (w1.ownsRow (Bc + 1) 22 1 v (recsV zs b off cap done from_).length (recsV zs b off cap done from_)) := hv4
      clear hv3 hv4 hv2 hck hwr
      go_wp2_with (go_at_call 24; refine (push_any Bc _ _ _ _ v _ _ (by exact H3.out) (by exact H4.out) hlen).mono ?_; rintro e2 w2 ⟨rfl, hv5⟩)
      go_roundw
      case rel => exact ⟨e, done ++ [e], rest, hen, by rw [he.out]; go_num, by unfold Hid; rw [hes.out, htodo.out]; simp, seg_snoc hsd.out he.out hen, hrest, by obtain ⟨v', a1, a2, a3⟩ := hv5; exact ⟨v', a1, by rw [recsV_snoc zs b off cap n _ _ _ _ hsd.out]; exact a2⟩, by obtain ⟨v', a1, a2, a3⟩ := hv5; exact hb2.trans a3⟩
      case measure => simp [intOf]; have := he.out; omega
    · obtain rfl : k = n := by omega
      have := seg_end hst.out
      subst this
      go_wp2
      go_end0
      refine ⟨rfl, ?_⟩
      obtain ⟨v, h1, h2⟩ := hv.out
      have h3 := hes.out
      rw [List.append_nil] at h3
      subst h3
      exact ⟨v, h1, h2, hbr⟩

set_option maxRecDepth 100000 in
set_option maxHeartbeats 1000000 in
theorem walk_past (ao : Option Addr) (n cap : Nat) (f : Int) (fv : Value) (w : World) (hf : (n : Int) ≤ f) :
    Calls Try.prog 23 #[.slice ao n cap, .int .i64 f, fv] w fun e w' => e = .returned (.tuple #[]) ∧ w' = w := by
  go_enter Try.func23, Try.ntmps23
  go_wp2
  refine wp_loop_rounds 1 ?_; rw [rounds_succ]
  go_wp2
  go_end0
  exact ⟨rfl, rfl⟩

set_option maxRecDepth 100000 in
set_option maxHeartbeats 1000000 in
/-- payloads: the payloads of the records, in their order. -/
theorem pay_any (b off n cap from_ : Nat) (zs : List Int) (es : List Nat) (w : World) (hcap : n ≤ cap) (hcap2 : cap ≤ 1048576) (hseg : Seg zs n es from_ n) (hc : Cells w b off n zs) (hb : b < w.heap.size) :
    Calls Try.prog 10 #[.slice (some ⟨b, off, none⟩) n cap, .int .i64 from_] w fun e w' => ∃ v, e = .returned v ∧ w'.ownsRow (w.heap.size + 1) 22 1 v (recsV zs b off cap es from_).length (recsV zs b off cap es from_) ∧ Below w.heap.size w w' := by
  go_enter Try.func10, Try.ntmps10
  go_wp2_with (first | (go_at_call 23; refine (walk_any b off n cap from_ w.heap.size zs es _ hcap hcap2 hseg ?hc hb ?hB).mono ?_) | go_in)
  case hc => exact fun i hi => (((Below.refl w.heap.size w).alloc (Nat.le_refl _) _).cell (p := ⟨b, off + i, none⟩) hb).trans (hc i hi)
  case hB => show (w.heap.push _)[w.heap.size]? = _; simp
  rintro e w1 ⟨rfl, v, h1, h2, h3⟩
  have H2 : Hid (w1.ownsRow (w.heap.size + 1) 22 1 v (recsV zs b off cap es from_).length (recsV zs b off cap es from_)) := h2
  have cB := cell_of_one h1
  have H3 : Below w.heap.size w w1 := ((Below.refl w.heap.size w).alloc (Nat.le_refl _) _).trans h3
  obtain ⟨a, c, rfl⟩ := own_slice h2
  clear h1 h2 h3
  go_wp2
  go_ret
  exact ⟨_, rfl, H2.out, H3⟩

set_option maxRecDepth 100000 in
set_option maxHeartbeats 1000000 in
theorem pay_past (ao : Option Addr) (n cap : Nat) (f : Int) (w : World) (hf : (n : Int) ≤ f) :
    Calls Try.prog 10 #[.slice ao n cap, .int .i64 f] w fun e w' => e = .returned (.slice none 0 0) ∧ Below w.heap.size w w' := by
  go_enter Try.func10, Try.ntmps10
  go_wp2_with (first | (go_at_call 23; refine (walk_past _ _ _ _ _ _ hf).mono ?_; rintro e w1 ⟨rfl, rfl⟩) | go_in)
  go_ret
  exact ⟨rfl, (Below.refl _ _).alloc (Nat.le_refl _) _⟩
end Go.Proofs.Qxb6604369a

import Derived.Test.Qxb6604369aLeaves
namespace Go.Proofs.Qxb6604369a
open Go.RowKit

/-- The records that lie between p and q, each by its end. -/
def Seg (zs : List Int) (len : Nat) : List Nat → Nat → Nat → Prop
  | [], p, q => p = q
  | e :: es, p, q => (e = p + 12 + leN zs p ∧ e ≤ len) ∧ Seg zs len es e q

theorem seg_snoc {zs : List Int} {len : Nat} : ∀ {es : List Nat} {p q r : Nat}, Seg zs len es p q → r = q + 12 + leN zs q → r ≤ len → Seg zs len (es ++ [r]) p r
  | [], p, q, r, h, h1, h2 => by
    have h : p = q := h
    subst h
    exact ⟨⟨h1, h2⟩, rfl⟩
  | e :: es, p, q, r, h, h1, h2 => ⟨h.1, seg_snoc (es := es) h.2 h1 h2⟩

theorem seg_len {zs : List Int} {len : Nat} : ∀ {es : List Nat} {p q : Nat}, Seg zs len es p q → p + 12 * es.length ≤ q
  | [], p, q, h => by have h : p = q := h; simp; omega
  | e :: es, p, q, h => by have := seg_len (es := es) h.2; have := h.1; simp; omega

theorem Try.info3 : (Try.prog.info? 3).map (fun i => (i.zero, i.size, i.bytes)) = some (some (.int .i64 0), 1, 8) := by kernel_rfl

theorem cellOf_new (w : World) (z : Value) (t : TypeId) : ∀ j u, [z][j]? = some u → (w.alloc (.cells #[z] t)).cell? ((⟨w.heap.size, 0, none⟩ : Addr).add j) = some u := by
  intro j u hj
  match j, hj with
  | 0, hj => simp at hj; subst hj; simp [Addr.add]

theorem own_drew {w w1 : World} {base : Nat} {e : TypeId} {size : Nat} {v : Value} {n : Nat} {xs : List Value} (hm : ∃ m, w1 = w.drewN m) (h : w.ownsRow base e size v n xs) : w1.ownsRow base e size v n xs := by
  obtain ⟨m, rfl⟩ := hm; exact h
theorem below_drew {B : Nat} {a w w1 : World} (hm : ∃ m, w1 = w.drewN m) (h : Below B a w) : Below B a w1 := by
  obtain ⟨m, rfl⟩ := hm; exact below_drewN h _

theorem own_base {w : World} {base : Nat} {e : TypeId} {size : Nat} {v : Value} {n : Nat} {xs : List Value} (h : w.ownsRow base e size v n xs) : ∀ g, v.ownBlock = some g → base ≤ g := by
  intro g hg
  rcases h.2 with ⟨rfl, _⟩ | ⟨g', c, cur, rfl, hb, _⟩
  · simp [Value.ownBlock] at hg
  · simp [Value.ownBlock] at hg; omega

/-- The int values of a list of places. -/
def ints (es : List Nat) : List Value := es.map fun e => .int .i64 (e : Nat)

theorem ints_snoc (es : List Nat) (k m : Nat) : ints (es ++ [k + 12 + m]) = ints es ++ [.int .i64 (↑k + (12 + ↑m))] := by
  simp [ints]; omega

set_option maxRecDepth 100000 in
set_option maxHeartbeats 1000000 in
theorem ends_any (b off n cap from_ : Nat) (zs : List Int) (w : World) (hn : n ≤ 1048576) (hf : from_ < n) (hc : Cells w b off n zs) (hb : b < w.heap.size) :
    Calls Try.prog 8 #[.slice (some ⟨b, off, none⟩) n cap, .int .i64 from_] w fun e w' => Below w.heap.size w w' ∧
      (e = .returned (.tuple #[.slice none 0 0, .bool false]) ∨ ∃ v es, e = .returned (.tuple #[v, .bool true]) ∧ Seg zs n es from_ n ∧ w'.ownsRow w.heap.size 3 1 v es.length (ints es)) := by
  have HC : Hid (Cells w b off n zs) := hc
  clear hc
  obtain ⟨i0, hi, hz0, hz1, hz2⟩ := info_parts Try.info3
  have hd : decide (n ≤ from_) = false := by simp; omega
  go_enter Try.func8, Try.ntmps8
  go_wp2
  go_loopw [6, 7] (fun v i wr => ∃ k : Nat, ∃ es : List Nat, k ≤ n ∧ i = .int .i64 k ∧ Hid (Seg zs n es from_ k) ∧ wr.ownsRow w.heap.size 3 1 v es.length (ints es) ∧ Below w.heap.size w wr) (fun _ i _ => n - (intOf i).toNat)
  case atStart => exact ⟨from_, [], by omega, rfl, rfl, World.ownsRow_nil _ _ _ _, Below.refl _ _⟩
  case round =>
    obtain ⟨k, es, hk, rfl, hseg, hown, hbr⟩ := hrel
    by_cases hlt : k < n
    · by_cases h12 : n - k < 12
      · go_wp2
        go_ret2
        exact ⟨hbr, .inl rfl⟩
      · have hcr : Hid (Cells wr b off n zs) := fun i hi => (hbr.cell (p := ⟨b, off + i, none⟩) hb).trans (HC.out i hi)
        have hle := leN_lt zs k
        by_cases hbig : n < k + 12 + leN zs k
        · go_wp2_with (go_at_call 11; refine (le32_any _ _ _ _ _ zs _ hn (by omega) hcr.out).mono ?_; rintro e w1 ⟨rfl, m, rfl⟩)
          go_ret2
          exact ⟨below_drewN hbr _, .inl rfl⟩
        · have hsl := seg_len hseg.out
          go_wp2_with (go_at_call 11; refine (le32_any _ _ _ _ _ zs _ hn (by omega) hcr.out).mono ?_)
          rintro e w1 ⟨rfl, hm⟩
          have hown1 := own_drew hm hown
          have hb1 := below_drew hm hbr
          clear hm hown hbr hcr
          have ha1 := hown1.alloc (.cells #[.int .i64 (↑k + (12 + ↑(leN zs k)))] 3)
          have hs1 := hb1.size
          have c1 := cellOf_new w1 (.int .i64 (↑k + (12 + ↑(leN zs k)))) 3
          go_wp2_with (at_builtin; go_loud (refine wpList_append_own _ rfl _ _ 24 rfl w.heap.size 3 i0 (.int .i64 0) 1 8 Try.underlying24 hi hz0 hz1 hz2 rfl (by decide) _ _ _ rfl ha1 ⟨w1.heap.size, 0, none⟩ 1 1 [.int .i64 (↑k + (12 + ↑(leN zs k)))] rfl rfl c1 ?c2 ?c3 ?c4 ?c5 ?_))
          case c2 => intro u hu; simp at hu; subst hu; rfl
          case c3 => unfold maxLen; omega
          case c4 => omega
          case c5 => simp; omega
          intro v' w2 hown2 hgr _
          have hb2 : Below w.heap.size w w2 := (hb1.alloc hs1 _).grown hgr (by simp; omega) (own_base ha1)
          have hown3 : w2.ownsRow w.heap.size 3 1 v' (es ++ [k + 12 + leN zs k]).length (ints (es ++ [k + 12 + leN zs k])) := by
            rw [ints_snoc]; simpa using hown2
          have hseg3 : Hid (Seg zs n (es ++ [k + 12 + leN zs k]) from_ (k + 12 + leN zs k)) := seg_snoc hseg.out rfl (by omega)
          clear hown2 hgr hown1 ha1 hb1 c1 hsl hseg hz0 hz1 hz2 hi
          go_wp2
          go_roundw
          case rel => exact ⟨k + 12 + leN zs k, _, by omega, by go_num, hseg3, hown3, hb2⟩
          case measure => simp [intOf]; omega
    · go_wp2
      go_ret2
      refine ⟨hbr, .inr ⟨_, es, rfl, ?_, hown⟩⟩
      obtain rfl : k = n := by omega
      exact hseg

set_option maxRecDepth 100000 in
set_option maxHeartbeats 400000 in
theorem ends_past (ao : Option Addr) (n cap : Nat) (f : Int) (w : World) (hf : (n : Int) ≤ f) :
    Calls Try.prog 8 #[.slice ao n cap, .int .i64 f] w fun e w' => e = .returned (.tuple #[.slice none 0 0, .bool true]) ∧ w' = w := by
  go_enter Try.func8, Try.ntmps8
  go_wp2
  go_ret2
  exact ⟨rfl, rfl⟩
end Go.Proofs.Qxb6604369a

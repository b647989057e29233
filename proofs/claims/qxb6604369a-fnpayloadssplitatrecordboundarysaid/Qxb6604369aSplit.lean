import Derived.Test.Qxb6604369aTile
namespace Go.Proofs.Qxb6604369a
open Go.RowKit

theorem seg_split {zs : List Int} {n : Nat} : ∀ {es : List Nat} {p q : Nat}, Seg zs n es p q → ∀ K, K ≤ es.length → ∃ mid, Seg zs n (es.take K) p mid ∧ Seg zs n (es.drop K) mid q ∧ (K = 0 → mid = p) ∧ (0 < K → es[K - 1]? = some mid)
  | es, p, q, h, 0, _ => ⟨p, rfl, by simpa using h, fun _ => rfl, fun h => absurd h (Nat.lt_irrefl _)⟩
  | [], p, q, h, K + 1, hK => by simp at hK
  | e :: es, p, q, h, K + 1, hK => by
    obtain ⟨mid, h1, h2, h3, h4⟩ := seg_split (es := es) h.2 K (by simpa using hK)
    refine ⟨mid, ⟨h.1, h1⟩, h2, fun h => by omega, fun _ => ?_⟩
    cases K with
    | zero => simp [h3 rfl]
    | succ K => simpa using h4 (by omega)

theorem seg_tight {zs : List Int} {n : Nat} : ∀ {es : List Nat} {p q : Nat}, Seg zs n es p q → Seg zs q es p q
  | [], p, q, h => h
  | e :: es, p, q, h => ⟨⟨h.1.1, by have := seg_len h.2; omega⟩, seg_tight h.2⟩

theorem recsV_append (zs : List Int) (b off cap len : Nat) : ∀ (done rest : List Nat) (p q : Nat), Seg zs len done p q → recsV zs b off cap (done ++ rest) p = recsV zs b off cap done p ++ recsV zs b off cap rest q
  | [], rest, p, q, h => by have h : p = q := h; subst h; rfl
  | e :: es, rest, p, q, h => by simp only [List.cons_append, recsV]; rw [recsV_append zs b off cap len es rest e q h.2]

/-- A value that is a slice of bytes that can be read. -/
def Good (w : World) (v : Value) : Prop := ∃ ao m c zs, v = .slice ao m c ∧ m ≤ 1048576 ∧ (0 < m → ∃ b off, ao = some ⟨b, off, none⟩ ∧ ao = some ⟨b, off, none⟩ ∧ Cells w b off m zs)

theorem recs_good {w : World} {zs : List Int} {B n : Nat} (hn : n ≤ 1048576) (hc : Cells w B 0 n zs) : ∀ {es : List Nat} {p q : Nat}, Seg zs n es p q → ∀ v ∈ recsV zs B 0 n es p, Good w v
  | [], p, q, h, v, hv => by simp [recsV] at hv
  | e :: es, p, q, h, v, hv => by
    simp only [recsV, List.mem_cons] at hv
    rcases hv with rfl | hv
    · have h1 := h.1
      refine ⟨_, _, _, zs.drop (p + 12), rfl, by omega, fun hpos => ?_⟩
      have hne : ¬ n = p + 12 := by omega
      refine ⟨B, p + 12, by rw [if_neg hne, Nat.zero_add], by rw [if_neg hne, Nat.zero_add], fun i hi => ?_⟩
      have := hc (p + 12 + i) (by omega)
      rw [Nat.zero_add] at this
      rw [this, List.getElem?_drop]
    · exact recs_good hn hc h.2 v hv

theorem own_at {w : World} {base e : Nat} {a : Option Addr} {c n : Nat} {xs : List Value} (h : w.ownsRow base e 1 (.slice a n c) n xs) {j : Nat} (hj : j < n) : ∃ g, a = some ⟨g, 0, none⟩ ∧ w.cell? ⟨g, j, none⟩ = xs[j]? := by
  rcases h.2 with ⟨_, h0⟩ | ⟨g, c', cur, h', _⟩
  · omega
  · simp only [Value.slice.injEq, true_and] at h'
    refine ⟨g, h'.1, ?_⟩
    rw [h'.1] at h
    exact h.cellAt j (by omega)

theorem pair_at {w : World} {B1 B2 : Nat} {a1 a2 : Option Addr} {c1 c2 L1 L2 : Nat} {X1 X2 : List Value} (h1 : w.ownsRow B1 22 1 (.slice a1 L1 c1) L1 X1) (h2 : w.ownsRow B2 22 1 (.slice a2 L2 c2) L2 X2) {i j : Nat} (hi : i < L1) (hj : j < L2) (hx : X1[i]? = X2[j]?) (hg : ∀ v ∈ X1, Good w v) :
    ∃ g1 g2 ao m c zs, a1 = some ⟨g1, 0, none⟩ ∧ a2 = some ⟨g2, 0, none⟩ ∧ w.cell? ⟨g1, i, none⟩ = some (.slice ao m c) ∧ w.cell? ⟨g2, j, none⟩ = some (.slice ao m c) ∧ m ≤ 1048576 ∧ (0 < m → ∃ b off, ao = some ⟨b, off, none⟩ ∧ ao = some ⟨b, off, none⟩ ∧ Cells w b off m zs) := by
  obtain ⟨g1, e1, k1⟩ := own_at h1 hi
  obtain ⟨g2, e2, k2⟩ := own_at h2 hj
  have hl : i < X1.length := by have := h1.1; omega
  obtain ⟨ao, m, c, zs, ev, hm, hgd⟩ := hg X1[i] (List.getElem_mem hl)
  have hv : X1[i]? = some (.slice ao m c) := by rw [List.getElem?_eq_getElem hl, ev]
  exact ⟨g1, g2, ao, m, c, zs, e1, e2, k1.trans hv, k2.trans (hx ▸ hv), hm, hgd⟩

theorem hid {p : Prop} (h : p) : Hid p := h

theorem cells_below {w w1 : World} {b off n : Nat} {zs : List Int} (hb : Below w.heap.size w w1) (hlt : b < w.heap.size) (h : Cells w b off n zs) : Cells w1 b off n zs :=
  fun i hi => (hb.cell (p := ⟨b, off + i, none⟩) hlt).trans (h i hi)
theorem cells_mono {w : World} {b off n m : Nat} {zs : List Int} (h : Cells w b off n zs) (hm : m ≤ n) : Cells w b off m zs := fun i hi => h i (by omega)
end Go.Proofs.Qxb6604369a

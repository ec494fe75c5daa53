import Derived.Test.Qxb6603684aDropPlain
import Derived.Below
import Derived.Deep.OwnRows
import Derived.WalkSmall
namespace Go.Proofs.Qxb6603684a.drop
open Go.RowKit

/-- The regions as a slice in memory: five cells each. -/
def RegsAt (w : World) (a : Option Addr) (rs : List Rg) : Prop :=
  ∀ i (h : i < rs.length), ∃ b off, a = some ⟨b, off, none⟩ ∧ w.cell? ⟨b, off + i * 5, none⟩ = some (.int .i64 rs[i].f) ∧ w.cell? ⟨b, off + i * 5 + 1, none⟩ = some (.int .i64 rs[i].s) ∧
    w.cell? ⟨b, off + i * 5 + 2, none⟩ = some (.int .i64 rs[i].c) ∧ w.cell? ⟨b, off + i * 5 + 3, none⟩ = some (.int .i64 rs[i].k) ∧ w.cell? ⟨b, off + i * 5 + 4, none⟩ = some (.int .i64 rs[i].p)

theorem cell_lt {w : World} {b o : Nat} {v : Value} (h : w.cell? ⟨b, o, none⟩ = some v) : b < w.heap.size := by
  rcases Nat.lt_or_ge b w.heap.size with h' | h'
  · exact h'
  · exfalso
    have : w.heap[b]? = none := by simp [h']
    simp [World.cell?, this] at h
theorem keep_cell {w w' : World} (hb : Below w.heap.size w w') {b o : Nat} {v : Value} (h : w.cell? ⟨b, o, none⟩ = some v) : w'.cell? ⟨b, o, none⟩ = some v := by
  rw [hb.cell (p := ⟨b, o, none⟩) (cell_lt h)]; exact h
theorem RegsAt.keep {w w' : World} {a : Option Addr} {rs : List Rg} (h : RegsAt w a rs) (hb : Below w.heap.size w w') : RegsAt w' a rs := by
  intro i hi
  obtain ⟨b, off, h1, h2, h3, h4, h5, h6⟩ := h i hi
  exact ⟨b, off, h1, keep_cell hb h2, keep_cell hb h3, keep_cell hb h4, keep_cell hb h5, keep_cell hb h6⟩

/-- A slice that a call has built. -/
def Owned (w : World) (base : Nat) (t : TypeId) (v : Value) (rs : List Rg) : Prop :=
  w.ownsRow base t 5 v rs.length (flat rs) ∧ (v = .slice none 0 0 ↔ rs = [])

theorem owned_nil (w : World) (base : Nat) (t : TypeId) : Owned w base t (.slice none 0 0) [] := ⟨World.ownsRow_nil _ _ _ _, by simp⟩

theorem Owned.regs {w : World} {base : Nat} {t : TypeId} {v : Value} {rs : List Rg} (h : Owned w base t v rs) : ∃ a cap, v = .slice a rs.length cap ∧ RegsAt w a rs ∧ (a = none ↔ rs = []) ∧ ∀ ad, a = some ad → base ≤ ad.block := by
  obtain ⟨ho, hn⟩ := h
  have ho' := ho
  rcases ho with ⟨hl, ⟨rfl, h0⟩ | ⟨g, cap, cur, rfl, hb, hg, hk, hm, hs, ht⟩⟩
  · have : rs = [] := hn.1 rfl
    subst this
    exact ⟨none, 0, rfl, fun i hi => by simp at hi, by simp, fun ad h => by cases h⟩
  · refine ⟨some ⟨g, 0, none⟩, cap, rfl, fun i hi => ?_, ?_, fun ad h => by cases h; exact hb⟩
    · have key : ∀ c v, c < 5 → (rgCells rs[i])[c]? = some v → w.cell? ⟨g, 0 + i * 5 + c, none⟩ = some v := fun c v hc hv => by
        have := ho'.cells (g := g) rfl (i * 5 + c) v ((flat_get rs i hi c hc).trans hv)
        rw [Addr.add_lit] at this
        rw [Nat.add_assoc]; exact this
      exact ⟨g, 0, rfl, key 0 _ (by decide) rfl, key 1 _ (by decide) rfl, key 2 _ (by decide) rfl, key 3 _ (by decide) rfl, key 4 _ (by decide) rfl⟩
    · constructor
      · intro h; cases h
      · intro h; exact absurd (hn.2 h) (by simp)

theorem Owned.below {w w' : World} {base B : Nat} {t : TypeId} {v : Value} {rs : List Rg} (h : Owned w base t v rs) (hb : Below w.heap.size w w') (hB : B ≤ base) : Owned w' B t v rs := by
  obtain ⟨⟨hl, ho⟩, hn⟩ := h
  refine ⟨⟨hl, ?_⟩, hn⟩
  rcases ho with ho | ⟨g, cap, cur, rfl, hb', hg, rest⟩
  · exact Or.inl ho
  · exact Or.inr ⟨g, cap, cur, rfl, Nat.le_trans hB hb', by rw [hb.block g (Array.getElem?_eq_some_iff.1 hg).1]; exact hg, rest⟩

/-- Behind one more append. -/
theorem Owned.more {w' : World} {base : Nat} {t : TypeId} {v v' : Value} {rs : List Rg} (g : Rg) (ho : w'.ownsRow base t 5 v' (rs.length + 1) (flat rs ++ rgCells g)) (hn : v' = .slice none 0 0 ↔ v = .slice none 0 0 ∧ 1 = 0) : Owned w' base t v' (rs ++ [g]) := by
  refine ⟨by rw [flat_append]; simpa [flat] using ho, ?_⟩
  rw [hn]; simp

theorem five_new (w : World) (g : Rg) (t : TypeId) : ∀ j u, (rgCells g)[j]? = some u → (w.alloc (.cells #[.int .i64 g.f, .int .i64 g.s, .int .i64 g.c, .int .i64 g.k, .int .i64 g.p] t)).cell? ((⟨w.heap.size, 0, none⟩ : Addr).add j) = some u := by
  intro j u hj
  match j, hj with
  | 0, hj => simp [rgCells] at hj; subst hj; simp [Addr.add]
  | 1, hj => simp [rgCells] at hj; subst hj; simp [Addr.add]
  | 2, hj => simp [rgCells] at hj; subst hj; simp [Addr.add]
  | 3, hj => simp [rgCells] at hj; subst hj; simp [Addr.add]
  | 4, hj => simp [rgCells] at hj; subst hj; simp [Addr.add]
  | j + 5, hj => simp [rgCells] at hj
theorem five_one (g : Rg) : ∀ u ∈ rgCells g, u.oneCell' = true := by
  intro u hu
  simp [rgCells] at hu
  rcases hu with rfl | rfl | rfl | rfl | rfl <;> rfl
end Go.Proofs.Qxb6603684a.drop

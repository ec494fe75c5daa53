import GoSem.Claim
import Derived.Below
import Derived.Lib.RuneBytes
namespace Go.Proofs.Qxb6604437a.ucs
open Go.RowKit

/-- A scalar value. -/
def Scalar (c : Nat) : Prop := c < 55296 ∨ (57343 < c ∧ c ≤ 1114111)
/-- c big-endian at a width. -/
def be : Nat → Nat → List Nat
  | 0, _ => []
  | n + 1, c => be n (c / 256) ++ [c % 256]
theorem be_length (n c : Nat) : (be n c).length = n := by
  induction n generalizing c with
  | zero => rfl
  | succ n ih => simp [be, ih]
theorem be_get (n : Nat) : ∀ (c j : Nat) (h : j < (be n c).length), (be n c)[j] = c / 256 ^ (n - 1 - j) % 256 := by
  induction n with
  | zero => intro c j h; simp [be] at h
  | succ n ih =>
    intro c j h
    have hl := be_length n (c / 256)
    simp only [be, List.length_append, List.length_cons, List.length_nil, hl] at h
    simp only [be]
    by_cases e : j < n
    · rw [List.getElem_append_left (by omega), ih (c / 256) j (by omega), Nat.div_div_eq_div_mul]
      have e2 : 256 * 256 ^ (n - 1 - j) = 256 ^ (n + 1 - 1 - j) := by
        rw [← Nat.pow_succ']; congr 1; omega
      rw [e2]
    · have e3 : j = n := by omega
      subst e3
      rw [List.getElem_append_right (by omega)]
      simp [hl]

/-- A row of numbers in memory. -/
def RowAt (k : IntKind) (w : World) (a : Option Addr) (zs : List Nat) : Prop :=
  ∀ i (h : i < zs.length), ∃ b off, a = some ⟨b, off, none⟩ ∧ w.cell? ⟨b, off + i, none⟩ = some (.int k (zs[i] : Nat))
theorem cell_lt {w : World} {b o : Nat} {v : Value} (h : w.cell? ⟨b, o, none⟩ = some v) : b < w.heap.size := by
  rcases Nat.lt_or_ge b w.heap.size with h' | h'
  · exact h'
  · exfalso
    have : w.heap[b]? = none := by simp [h']
    simp [World.cell?, this] at h
theorem keep_cell {w w' : World} (hb : Below w.heap.size w w') {b o : Nat} {v : Value} (h : w.cell? ⟨b, o, none⟩ = some v) : w'.cell? ⟨b, o, none⟩ = some v := by
  rw [hb.cell (p := ⟨b, o, none⟩) (cell_lt h)]; exact h
theorem RowAt.keep {k : IntKind} {w w' : World} {a : Option Addr} {zs : List Nat} (h : RowAt k w a zs) (hb : Below w.heap.size w w') : RowAt k w' a zs := by
  intro i hi
  obtain ⟨b, off, h1, h2⟩ := h i hi
  exact ⟨b, off, h1, keep_cell hb h2⟩
end Go.Proofs.Qxb6604437a.ucs

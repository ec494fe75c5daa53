import GoSem.Claim
import Derived.Below
namespace Go.Proofs.Qxb6603684a.skip
open Go.RowKit

/-! ### The lanes: no Go in sight. cl: the sort of each byte; tr: the transitions; zs: a text. -/
def idx (cl : Nat → Nat) (u c : Nat) : Nat := (u + cl c) % 4294967296
/-- The step from u over the byte c is in trans, and not sparse. -/
def ok (cl : Nat → Nat) (tr : List Nat) (u c : Nat) : Bool := decide (idx cl u c < tr.length) && decide (tr.getD (idx cl u c) 0 < 1073741824)
/-- Where n steps over zs lead from v; none: they cannot all be taken. -/
def run (cl : Nat → Nat) (tr zs : List Nat) : Nat → Nat → Option Nat
  | 0, v => some v
  | n + 1, v => match run cl tr zs n v with
    | none => none
    | some u => if ok cl tr u (zs.getD n 0) = true then some (tr.getD (idx cl u (zs.getD n 0)) 0) else none

theorem run_succ {cl : Nat → Nat} {tr zs : List Nat} {n v u : Nat} (h : run cl tr zs n v = some u) : run cl tr zs (n + 1) v = if ok cl tr u (zs.getD n 0) = true then some (tr.getD (idx cl u (zs.getD n 0)) 0) else none := by
  show (match run cl tr zs n v with | none => none | some u => _) = _
  rw [h]
theorem run_pre {cl : Nat → Nat} {tr zs : List Nat} {v : Nat} : ∀ {n : Nat} {u : Nat}, run cl tr zs n v = some u → ∀ i, i ≤ n → ∃ x, run cl tr zs i v = some x
  | 0, u, h, i, hi => ⟨v, by obtain rfl : i = 0 := by omega
                             rfl⟩
  | n + 1, u, h, i, hi => by
    cases h' : run cl tr zs n v with
    | none => exfalso; simp [run, h'] at h
    | some x =>
      by_cases e : i = n + 1
      · subst e; exact ⟨u, h⟩
      · exact run_pre h' i (by omega)

/-- What laneRun tells of a lane: s steps, the state there, x: it stopped outside trans. -/
structure Lane (cl : Nat → Nat) (tr zs : List Nat) (m v s u : Nat) (x : Bool) : Prop where
  le : s ≤ m
  run : run cl tr zs s v = some u
  stop : s < m → ok cl tr u (zs.getD s 0) = false
  out : x = true ↔ s < m ∧ tr.length ≤ idx cl u (zs.getD s 0)

/-- A row of numbers in memory. -/
def RowAt (k : IntKind) (w : World) (a : Option Addr) (zs : List Nat) : Prop :=
  ∀ i (h : i < zs.length), ∃ b off, a = some ⟨b, off, none⟩ ∧ w.cell? ⟨b, off + i, none⟩ = some (.int k (zs[i] : Nat))

theorem cell_lt {w : World} {b o : Nat} {v : Value} (h : w.cell? ⟨b, o, none⟩ = some v) : b < w.heap.size := by
  rcases Nat.lt_or_ge b w.heap.size with h' | h'
  · exact h'
  · exfalso
    have : w.heap[b]? = none := by simp [h']
    simp [World.cell?, this] at h
theorem keep_cell {w w' : World} (hb : Below w.heap.size w w') {b o : Nat} {v : Value} (h : w.cell? ⟨b, o, none⟩ = some v) : w'.cell? ⟨b, o, none⟩ = some v := by
  rw [hb.cell (p := ⟨b, o, none⟩) (cell_lt h)]; exact h
theorem RowAt.keep {k : IntKind} {w w' : World} {a : Option Addr} {zs : List Nat} (h : RowAt k w a zs) (hb : Below w.heap.size w w') : RowAt k w' a zs := by
  intro i hi
  obtain ⟨b, off, h1, h2⟩ := h i hi
  exact ⟨b, off, h1, keep_cell hb h2⟩

/-- The table of classes as a value. -/
structure Cls (C : Array Value) (cl : Nat → Nat) : Prop where
  size : C.size = 256
  get : ∀ i, i < 256 → C[i]? = some (.int .u32 (cl i : Nat))
  lt : ∀ i, i < 256 → cl i < 4294967296
end Go.Proofs.Qxb6603684a.skip

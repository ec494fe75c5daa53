import Derived.Below
import Derived.Deep.Draws
namespace Go.Proofs.Qxb6603497a.pick
open Go.RowKit

/-! ### Plain: an object is its type code and its value; a candidate its objects and its expiry. -/
abbrev Ob := Int × ByteArray
abbrev Cd := List Ob × Int

/-- Some object is of type t, t a code below 32. -/
def hasT (t : Int) (os : List Ob) : Bool := decide (t < 32) && os.any (fun o => o.1 == t)
/-- The bytes in the values. -/
def vbs : List Ob → Nat
  | [] => 0
  | o :: os => o.2.size + vbs os

theorem vbs_append (a b : List Ob) : vbs (a ++ b) = vbs a + vbs b := by
  induction a with
  | nil => simp [vbs]
  | cons o a ih => simp [vbs, ih]; omega

theorem vbs_take_succ (os : List Ob) (k : Nat) (h : k < os.length) : vbs (os.take (k + 1)) = vbs (os.take k) + os[k].2.size := by
  rw [List.take_succ_eq_append_getElem h, vbs_append]; simp [vbs]

theorem vbs_take_le (os : List Ob) (k : Nat) : vbs (os.take k) ≤ vbs os := by
  have := vbs_append (os.take k) (os.drop k)
  rw [List.take_append_drop] at this; omega

/-- The weight of a list of candidates: what pickBytes counts. -/
def wgt : List Cd → Nat
  | [] => 0
  | c :: cs => 32 + 24 * c.1.length + vbs c.1 + wgt cs

theorem wgt_append (a b : List Cd) : wgt (a ++ b) = wgt a + wgt b := by
  induction a with
  | nil => simp [wgt]
  | cons o a ih => simp [wgt, ih]; omega

theorem wgt_mem {cs : List Cd} {c : Cd} (h : c ∈ cs) : 32 + 24 * c.1.length + vbs c.1 ≤ wgt cs := by
  induction cs with
  | nil => cases h
  | cons d cs ih =>
    rcases List.mem_cons.1 h with rfl | h
    · simp only [wgt]; omega
    · have := ih h; simp only [wgt]; omega

theorem wgt_len (cs : List Cd) : 32 * cs.length ≤ wgt cs := by
  induction cs with
  | nil => simp [wgt]
  | cons d cs ih => simp only [wgt, List.length_cons]; omega

/-! ### How they lie in memory -/
/-- The objects of a candidate as the law's own text has them: two cells each. -/
def ObjsAt (w : World) (a : Option Addr) (os : List Ob) : Prop :=
  ∀ j (h : j < os.length), ∃ b off, a = some ⟨b, off, none⟩ ∧ w.cell? ⟨b, off + j * 2, none⟩ = some (.int .i64 os[j].1) ∧ w.cell? ⟨b, off + j * 2 + 1, none⟩ = some (.string os[j].2)

/-- The candidates: two cells each, the objects' slice and the expiry. -/
def CandsAt (w : World) (a : Option Addr) (cs : List Cd) : Prop :=
  ∀ i (h : i < cs.length), ∃ b off oa oc, a = some ⟨b, off, none⟩ ∧ w.cell? ⟨b, off + i * 2, none⟩ = some (.slice oa cs[i].1.length oc) ∧
    w.cell? ⟨b, off + i * 2 + 1, none⟩ = some (.int .i64 cs[i].2) ∧ ObjsAt w oa cs[i].1

/-- What every reading gives: lengths that fit. -/
def Fit (cs : List Cd) : Prop := cs.length ≤ maxLen ∧ ∀ c ∈ cs, c.1.length ≤ maxLen ∧ ∀ o ∈ c.1, o.2.size ≤ maxLen

theorem cell_lt {w : World} {b o : Nat} {v : Value} (h : w.cell? ⟨b, o, none⟩ = some v) : b < w.heap.size := by
  rcases Nat.lt_or_ge b w.heap.size with h' | h'
  · exact h'
  · exfalso
    have : w.heap[b]? = none := by simp [h']
    simp [World.cell?, this] at h

theorem keep_cell {w w' : World} (hb : Below w.heap.size w w') {b o : Nat} {v : Value} (h : w.cell? ⟨b, o, none⟩ = some v) : w'.cell? ⟨b, o, none⟩ = some v := by
  rw [hb.cell (p := ⟨b, o, none⟩) (cell_lt h)]; exact h

theorem ObjsAt.keep {w w' : World} {a : Option Addr} {os : List Ob} (h : ObjsAt w a os) (hb : Below w.heap.size w w') : ObjsAt w' a os := by
  intro j hj
  obtain ⟨b, off, h1, h2, h3⟩ := h j hj
  exact ⟨b, off, h1, keep_cell hb h2, keep_cell hb h3⟩

theorem CandsAt.keep {w w' : World} {a : Option Addr} {cs : List Cd} (h : CandsAt w a cs) (hb : Below w.heap.size w w') : CandsAt w' a cs := by
  intro i hi
  obtain ⟨b, off, oa, oc, h1, h2, h3, h4⟩ := h i hi
  exact ⟨b, off, oa, oc, h1, keep_cell hb h2, keep_cell hb h3, h4.keep hb⟩

/-- An assertion's objects: three cells each. -/
def ObsAt (w : World) (a : Option Addr) (os : List Ob) : Prop :=
  ∀ j (h : j < os.length), ∃ b off, a = some ⟨b, off, none⟩ ∧ w.cell? ⟨b, off + j * 3, none⟩ = some (.int .i64 os[j].1) ∧ w.cell? ⟨b, off + j * 3 + 1, none⟩ = some (.string os[j].2) ∧
    w.cell? ⟨b, off + j * 3 + 2, none⟩ = some (.pointer none)

/-- An assertion behind a pointer: its fourth cell holds the objects' slice. -/
def AssAt (w : World) (p : Nat × Nat) (os : List Ob) : Prop :=
  ∃ oa oc, w.cell? ⟨p.1, p.2 + 3, none⟩ = some (.slice oa os.length oc) ∧ ObsAt w oa os

/-- An answering: where its assertion lies, the objects there, the expiry. -/
abbrev An := (Nat × Nat) × List Ob × Int

def AnsAt (w : World) (a : Option Addr) (l : List An) : Prop :=
  ∀ i (h : i < l.length), ∃ b off, a = some ⟨b, off, none⟩ ∧ w.cell? ⟨b, off + i * 2, none⟩ = some (.pointer (some ⟨l[i].1.1, l[i].1.2, none⟩)) ∧
    w.cell? ⟨b, off + i * 2 + 1, none⟩ = some (.int .i64 l[i].2.2) ∧ AssAt w l[i].1 l[i].2.1

theorem ObsAt.keep {w w' : World} {a : Option Addr} {os : List Ob} (h : ObsAt w a os) (hb : Below w.heap.size w w') : ObsAt w' a os := by
  intro j hj
  obtain ⟨b, off, h1, h2, h3, h4⟩ := h j hj
  exact ⟨b, off, h1, keep_cell hb h2, keep_cell hb h3, keep_cell hb h4⟩

theorem AssAt.keep {w w' : World} {p : Nat × Nat} {os : List Ob} (h : AssAt w p os) (hb : Below w.heap.size w w') : AssAt w' p os := by
  obtain ⟨oa, oc, h1, h2⟩ := h
  exact ⟨oa, oc, keep_cell hb h1, h2.keep hb⟩

theorem AnsAt.keep {w w' : World} {a : Option Addr} {l : List An} (h : AnsAt w a l) (hb : Below w.heap.size w w') : AnsAt w' a l := by
  intro i hi
  obtain ⟨b, off, h1, h2, h3, h4⟩ := h i hi
  exact ⟨b, off, h1, keep_cell hb h2, keep_cell hb h3, h4.keep hb⟩
end Go.Proofs.Qxb6603497a.pick

import Derived.Test.Qxb6603497aPickShort
namespace Go.Proofs.Qxb6603497a.pick
open Go.ChangeShapes Go.WideShapes Go.ChangeAt Go.RowKit

/-! ### pick, plain -/
def beats (x : An) : Option An → Bool
  | none => true
  | some b => shorterB x.2.1 x.2.2 b.2.1 b.2.2
def stepF (t : Int) (best : Option An) (x : An) : Option An := if (hasT t x.2.1 && beats x best) = true then some x else best
def pickF (t : Int) (l : List An) : Option An := l.foldl (stepF t) none
def ptrOf : Option An → Option Addr
  | none => none
  | some a => some ⟨a.1.1, a.1.2, none⟩
def expOf : Option An → Int
  | none => 0
  | some a => a.2.2

def Good (l : List An) : Prop := ∀ x ∈ l, x.2.1.length ≤ 1048576 ∧ vbs x.2.1 ≤ 1048576 ∧ ∀ o ∈ x.2.1, 0 ≤ o.1

theorem pickF_take_succ (t : Int) (l : List An) (k : Nat) (h : k < l.length) : pickF t (l.take (k + 1)) = stepF t (pickF t (l.take k)) l[k] := by
  unfold pickF
  rw [List.take_succ_eq_append_getElem h, List.foldl_append]; rfl

theorem foldF_mem (t : Int) : ∀ (l : List An) (s : Option An) (b : An), l.foldl (stepF t) s = some b → s = some b ∨ b ∈ l
  | [], s, b, h => Or.inl h
  | x :: l, s, b, h => by
    rcases foldF_mem t l _ b h with h1 | h1
    · unfold stepF at h1
      split at h1
      · cases h1; exact Or.inr (by simp)
      · exact Or.inl h1
    · exact Or.inr (by simp [h1])
theorem pickF_mem (t : Int) (l : List An) (b : An) (h : pickF t l = some b) : b ∈ l := by
  rcases foldF_mem t l none b h with h1 | h1
  · cases h1
  · exact h1

theorem AnsAt.ass {w : World} {a : Option Addr} {l : List An} (h : AnsAt w a l) {b : An} (hb : b ∈ l) : AssAt w b.1 b.2.1 := by
  obtain ⟨j, hj, rfl⟩ := List.getElem_of_mem hb
  obtain ⟨_, _, _, _, _, h4⟩ := h j hj
  exact h4

/-- What pick's loop keeps: old memory; the result's variable; best's, which holds what the first k candidates give. -/
def PickRel (w : World) (R : Nat) (best : Option An) (wr : World) : Prop :=
  Below R w wr ∧ (∃ F, wr.rowIs R 38 2 F) ∧ ∃ G, wr.rowIs (R + 1) 38 2 G ∧ G 0 = .pointer (ptrOf best) ∧ G 1 = .int .i64 (expOf best)

theorem PickRel.keep {w wr w2 : World} {R : Nat} {best : Option An} (h : PickRel w R best wr) (hb : Below wr.heap.size wr w2) : PickRel w R best w2 := by
  obtain ⟨h1, ⟨F, hF⟩, G, hG, hG'⟩ := h
  exact ⟨h1.trans (hb.mono (Nat.le_of_lt hF.lt)), ⟨F, hF.of_block (hb.block _ hF.lt)⟩, G, hG.of_block (hb.block _ hG.lt), hG'⟩

theorem PickRel.put {w wr : World} {R : Nat} {best : Option An} (h : PickRel w R best wr) (x : An) :
    PickRel w R (some x) ((wr.setCell ⟨R + 1, 0, none⟩ (.pointer (some ⟨x.1.1, x.1.2, none⟩))).setCell ⟨R + 1, 1, none⟩ (.int .i64 x.2.2)) := by
  obtain ⟨h1, ⟨F, hF⟩, G, hG, hG'⟩ := h
  refine ⟨(h1.setCell (by simp) _).setCell (by simp) _, ⟨F, (hF.setOther (by simp) _).setOther (by simp) _⟩, _, (hG.set _ _).set _ _, by simp [ptrOf], by simp [expOf]⟩
end Go.Proofs.Qxb6603497a.pick

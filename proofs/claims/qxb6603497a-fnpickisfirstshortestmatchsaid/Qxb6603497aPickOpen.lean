import Derived.Test.Qxb6603497aRows
import Derived.Test.Qxb6603497aPickDefs
import Derived.Deep.SlicePairs
import Derived.ProofKit
namespace Go.Proofs.Qxb6603497a.pick
open Go.ChangeShapes Go.WideShapes Go.ChangeAt Go.RowKit Go.Deep

section
variable {H : Type} {enc : TypeId × Value → H} {w : World} {base : Nat} {spare : Nat → Bool} {held : Bool}

theorem add_none {a : Addr} {v : Value} (h : w.cell? (a.add (0 * 2)) = some v) : ∃ b off, a = ⟨b, off, none⟩ := by
  obtain ⟨b, off, spot⟩ := a
  have hspot : spot = none := by simpa [Addr.add] using World.cell?_spot h
  subst hspot
  exact ⟨b, off, rfl⟩

theorem objs_of {fuel : Nat} {cs : List Value} {x : DataW H × List MemPlace} (h : DataW.trod enc Try.prog w base spare held fuel 57 cs = some x) :
    ∃ a cap os, cs = [.slice a os.length cap] ∧ os.length ≤ maxLen ∧ (∀ o ∈ os, o.2.size ≤ maxLen) ∧ ObjsAt w a os := by
  rcases open_slice_pairs Try.underlying57 Try.underlying72 (by kernel_rfl) rfl rfl (by kernel_rfl) (by kernel_rfl) h with ⟨rfl, _⟩ | ⟨a, len, cap, m, n, V0, V1, D0, D1, P0, P1, rfl, hb, hl, hm, hmm, hx, hall⟩
  · exact ⟨none, 0, [], rfl, by simp, by simp, fun j hj => by simp at hj⟩
  · have hlm : len ≤ m := by rw [hmm]; split <;> omega
    have each : ∀ i, i < len → ∃ q : Int × ByteArray, V0 i = .int .i64 q.1 ∧ V1 i = .string q.2 ∧ q.2.size ≤ maxLen := by
      intro i hi
      obtain ⟨_, _, h0, h1⟩ := hall i (by omega)
      obtain ⟨z, e0, _, _⟩ := DataW.trod_int Try.underlying3 h0
      obtain ⟨s, e1, _, hs⟩ := DataW.trod_string Try.underlying9 h1
      exact ⟨(z, s), by simpa using e0, by simpa using e1, hs⟩
    obtain ⟨f, hf⟩ := choose_lt (α := Int × ByteArray) each
    refine ⟨some a, cap, (List.range len).map f, by simp, by simp; omega, ?_, ?_⟩
    · intro o ho
      simp only [List.mem_map, List.mem_range] at ho
      obtain ⟨i, hi, rfl⟩ := ho
      exact (hf i hi).2.2
    · intro j hj
      have hj' : j < len := by simpa using hj
      obtain ⟨c0, c1, _, _⟩ := hall j (by omega)
      obtain ⟨e0, e1, _⟩ := hf j hj'
      obtain ⟨b, off, rfl⟩ := add_none (hall 0 (by omega)).1
      refine ⟨b, off, rfl, ?_, ?_⟩
      · rw [add_plain, e0] at c0
        simpa using c0
      · rw [add_plain, e1] at c1
        simpa [Nat.add_assoc] using c1

theorem cands_of {fuel : Nat} {cs : List Value} {x : DataW H × List MemPlace} (h : DataW.trod enc Try.prog w base spare held fuel 27 cs = some x) :
    ∃ a cap l, cs = [.slice a l.length cap] ∧ Fit l ∧ CandsAt w a l := by
  rcases open_slice_pairs Try.underlying27 Try.underlying59 (by kernel_rfl) rfl rfl (by kernel_rfl) (by kernel_rfl) h with ⟨rfl, _⟩ | ⟨a, len, cap, m, n, V0, V1, D0, D1, P0, P1, rfl, hb, hl, hm, hmm, hx, hall⟩
  · exact ⟨none, 0, [], rfl, ⟨by simp, by simp⟩, fun j hj => by simp at hj⟩
  · have hlm : len ≤ m := by rw [hmm]; split <;> omega
    have each : ∀ i, i < len → ∃ q : Cd, (∃ oa oc, V0 i = .slice oa q.1.length oc ∧ ObjsAt w oa q.1) ∧ V1 i = .int .i64 q.2 ∧ q.1.length ≤ maxLen ∧ ∀ o ∈ q.1, o.2.size ≤ maxLen := by
      intro i hi
      obtain ⟨_, _, h0, h1⟩ := hall i (by omega)
      obtain ⟨oa, oc, os, e0, ho1, ho2, ho3⟩ := objs_of h0
      obtain ⟨z, e1, _, _⟩ := DataW.trod_int Try.underlying2 h1
      exact ⟨(os, z), ⟨oa, oc, by simpa using e0, ho3⟩, by simpa using e1, ho1, ho2⟩
    obtain ⟨f, hf⟩ := choose_lt (α := Cd) each
    refine ⟨some a, cap, (List.range len).map f, by simp, ⟨by simp; omega, ?_⟩, ?_⟩
    · intro o ho
      simp only [List.mem_map, List.mem_range] at ho
      obtain ⟨i, hi, rfl⟩ := ho
      exact (hf i hi).2.2
    · intro j hj
      have hj' : j < len := by simpa using hj
      obtain ⟨c0, c1, _, _⟩ := hall j (by omega)
      obtain ⟨⟨oa, oc, e0, eo⟩, e1, _⟩ := hf j hj'
      obtain ⟨b, off, rfl⟩ := add_none (hall 0 (by omega)).1
      refine ⟨b, off, oa, oc, rfl, ?_, ?_, ?_⟩
      · rw [add_plain, e0] at c0
        simpa using c0
      · rw [add_plain, e1] at c1
        simpa [Nat.add_assoc] using c1
      · simpa using eo
end
end Go.Proofs.Qxb6603497a.pick

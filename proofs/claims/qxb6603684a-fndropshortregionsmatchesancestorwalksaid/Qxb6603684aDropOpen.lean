import Derived.Test.Qxb6603684aRows
import Derived.Test.Qxb6603684aDropMem
import Derived.Deep.Slices
import Derived.ProofKit
import Derived.OpenShut
namespace Go.Proofs.Qxb6603684a.drop
open Go.ChangeShapes Go.WideShapes Go.ChangeAt Go.RowKit Go.Deep

section
variable {H : Type} {enc : TypeId × Value → H} {w : World} {base : Nat} {spare : Nat → Bool} {held : Bool}

theorem cells24 : Try.prog.cellsOf 24 = 5 := by kernel_rfl
theorem cells3 : Try.prog.cellsOf 3 = 1 := by kernel_rfl

theorem five_of {n : Nat} {cs : List Value} {x : DataW H × List MemPlace} (h : DataW.trod enc Try.prog w base spare held n 24 cs = some x) : ∃ g : Rg, cs = rgCells g := by
  obtain ⟨xs, m, _, _, hlen, hxl, hall⟩ := DataW.trod_array Try.underlying24 h
  rw [cells24] at hlen
  rw [cells3] at hall
  match cs, hlen with
  | [v0, v1, v2, v3, v4], _ =>
    have get : ∀ i (v : Value), i < 5 → (([v0, v1, v2, v3, v4].drop (i * 1)).take 1) = [v] → ∃ z : Int, v = .int .i64 z := fun i v hi hv => by
      have h1 := hall i hi
      rw [hv, List.getElem?_eq_getElem (by omega)] at h1
      obtain ⟨z, e, _, _⟩ := DataW.trod_int Try.underlying3 h1
      exact ⟨z, by simpa using e⟩
    obtain ⟨z0, rfl⟩ := get 0 v0 (by decide) rfl
    obtain ⟨z1, rfl⟩ := get 1 v1 (by decide) rfl
    obtain ⟨z2, rfl⟩ := get 2 v2 (by decide) rfl
    obtain ⟨z3, rfl⟩ := get 3 v3 (by decide) rfl
    obtain ⟨z4, rfl⟩ := get 4 v4 (by decide) rfl
    exact ⟨⟨z0, z1, z2, z3, z4⟩, rfl⟩

theorem regs_of {fuel : Nat} {cs : List Value} {x : DataW H × List MemPlace} (h : DataW.trod enc Try.prog w base spare held fuel 22 cs = some x) :
    ∃ a cap rs, cs = [.slice a rs.length cap] ∧ rs.length ≤ maxLen ∧ RegsAt w a rs := by
  rcases open_slice Try.underlying22 h with ⟨rfl, _⟩ | ⟨a, len, cap, m, n, Df, Pl, rfl, hb, hl, hm, hmm, hx, hall⟩
  · exact ⟨none, 0, [], rfl, by simp, fun j hj => by simp at hj⟩
  · have hlm : len ≤ m := by rw [hmm]; split <;> omega
    rw [cells24] at hall
    have each : ∀ i, i < len → ∃ g : Rg, w.cells? base (a.add (i * 5)) 5 = some (rgCells g) := by
      intro i hi
      obtain ⟨cs', h1, h2⟩ := hall i (by omega)
      obtain ⟨g, rfl⟩ := five_of h2
      exact ⟨g, h1⟩
    haveI : Inhabited Rg := ⟨⟨0, 0, 0, 0, 0⟩⟩
    obtain ⟨f, hf⟩ := choose_lt (α := Rg) each
    refine ⟨some a, cap, (List.range len).map f, by simp, by simp; omega, ?_⟩
    intro j hj
    have hj' : j < len := by simpa using hj
    have h0 := (World.cells?_some (hf 0 (by omega))).2.2 0 (by decide)
    have hspot : ∃ b off, a = ⟨b, off, none⟩ := by
      obtain ⟨b, off, spot⟩ := a
      have h0' : w.cell? (((⟨b, off, spot⟩ : Addr).add (0 * 5)).add 0) = some (.int .i64 (f 0).f) := h0
      have hs := World.cell?_spot h0'
      simp only [Addr.add, Nat.zero_mul] at hs
      subst hs
      exact ⟨b, off, rfl⟩
    obtain ⟨b, off, rfl⟩ := hspot
    have hc := (World.cells?_some (hf j hj')).2.2
    have key : ∀ c v, c < 5 → (rgCells (f j))[c]? = some v → w.cell? ⟨b, off + j * 5 + c, none⟩ = some v := fun c v hlt hv => by
      have := hc c hlt
      rw [hv, add_plain, add_plain] at this
      exact this
    have e : ((List.range len).map f)[j] = f j := by simp
    rw [e]
    exact ⟨b, off, rfl, key 0 _ (by decide) rfl, key 1 _ (by decide) rfl, key 2 _ (by decide) rfl, key 3 _ (by decide) rfl, key 4 _ (by decide) rfl⟩
end
end Go.Proofs.Qxb6603684a.drop

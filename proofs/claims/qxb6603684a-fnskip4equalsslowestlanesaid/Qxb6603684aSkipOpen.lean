import Derived.Test.Qxb6603684aRows
import Derived.Test.Qxb6603684aSkipFour
import Derived.ChangeSlices
import Derived.ProofKit
import Derived.OpenShut
import Derived.Deep.Slices
namespace Go.Proofs.Qxb6603684a.skip
open Go.ChangeShapes Go.WideShapes Go.ChangeAt Go.RowKit Go.Deep

section
variable {H : Type} {enc : TypeId × Value → H} {w : World} {base : Nat} {spare : Nat → Bool} {held : Bool}

theorem cells28 : Try.prog.cellsOf 28 = 256 := by kernel_rfl
theorem cells27 : Try.prog.cellsOf 27 = 1 := by kernel_rfl
theorem cells5 : Try.prog.cellsOf 5 = 1 := by kernel_rfl

theorem okWide_array {P : Program} {w : World} {r : Reach} {b0 : Nat} {t e : TypeId} {n : Nat} {v : Value} (ht : P.underlying t = some (.array n e)) (h : Value.okWide P w r b0 t v) : ∃ cs, v = .agg cs ∧ cs.size = P.cellsOf t := by
  simp only [Value.okWide, ht] at h
  obtain ⟨cs, h1, h2, _⟩ := h
  exact ⟨cs, h1, h2⟩

/-- A literal of an unsigned kind as a natural number. -/
theorem nat_u32 {n : Int} (h : (Lit.int .u32 n).wf = true) : ∃ m : Nat, n = (m : Int) ∧ m < 4294967296 := by
  have e1 : IntKind.u32.min = 0 := by decide
  have e2 : IntKind.u32.max = 4294967295 := by decide
  simp only [Lit.wf, Bool.and_eq_true, decide_eq_true_eq, e1, e2] at h
  exact ⟨n.toNat, by omega, by omega⟩
theorem nat_u8 {n : Int} (h : (Lit.int .u8 n).wf = true) : ∃ m : Nat, n = (m : Int) ∧ m < 256 := by
  have e1 : IntKind.u8.min = 0 := by decide
  have e2 : IntKind.u8.max = 255 := by decide
  simp only [Lit.wf, Bool.and_eq_true, decide_eq_true_eq, e1, e2] at h
  exact ⟨n.toNat, by omega, by omega⟩

theorem cls_of {n : Nat} {C : Array Value} {x : DataW H × List MemPlace} (h : DataW.trod enc Try.prog w base spare held n 28 C.toList = some x) : ∃ cl, Cls C cl := by
  obtain ⟨xs, m, _, _, hlen, hxl, hall⟩ := DataW.trod_array Try.underlying28 h
  rw [cells28] at hlen
  rw [cells27] at hall
  have each : ∀ i, i < 256 → ∃ c : Nat, C[i]? = some (.int .u32 (c : Int)) ∧ c < 4294967296 := by
    intro i hi
    have h1 := hall i hi
    have hi' : i < C.toList.length := by omega
    have e0 : ((C.toList.drop (i * 1)).take 1) = [C.toList[i]] := by
      rw [Nat.mul_one, List.drop_eq_getElem_cons hi']; rfl
    rw [List.getElem?_eq_getElem (by omega), e0] at h1
    obtain ⟨z, e, _, hw⟩ := DataW.trod_int Try.underlying27 h1
    obtain ⟨c, rfl, hc⟩ := nat_u32 hw
    refine ⟨c, ?_, hc⟩
    have e3 : C.toList[i] = .int .u32 (c : Int) := by simpa using e
    rw [← Array.getElem?_toList, List.getElem?_eq_getElem hi', e3]
  obtain ⟨f, hf⟩ := choose_lt (α := Nat) each
  exact ⟨f, by simpa using hlen, fun i hi => (hf i hi).1, fun i hi => (hf i hi).2⟩

theorem maxLen_le {n : Nat} (h : n ≤ maxLen) : n ≤ 9223372036854775807 := by unfold maxLen at h; omega

theorem spot_none {w : World} {a : Addr} {v : Value} (h : w.cell? (a.add 0) = some v) : ∃ b off, a = ⟨b, off, none⟩ := by
  obtain ⟨b, off, spot⟩ := a
  have hs := World.cell?_spot h
  simp only [Addr.add] at hs
  subst hs
  exact ⟨b, off, rfl⟩

/-- A slice of unsigned numbers among the arguments. -/
theorem nums_of {t e : TypeId} {k : IntKind} {M : Nat} (hk : ∀ n : Int, (Lit.int k n).wf = true → ∃ m : Nat, n = (m : Int) ∧ m < M) {fuel : Nat} {cs : List Value} {x : DataW H × List MemPlace} (ht : Try.prog.underlying t = some (.slice e)) (he : Try.prog.underlying e = some (.int k)) (hc : Try.prog.cellsOf e = 1)
    (h : DataW.trod enc Try.prog w base spare held fuel t cs = some x) :
    ∃ a len cap zs, cs = [.slice a len cap] ∧ zs.length = len ∧ len ≤ cap ∧ len ≤ maxLen ∧ RowAt k w a zs ∧ ∀ z ∈ zs, z < M := by
  rcases open_ints ht he hc h with ⟨rfl, _⟩ | ⟨a, len, cap, zs, rfl, _, hl, hm, hlen, _, hcell, hwf⟩
  · exact ⟨none, 0, 0, [], rfl, rfl, Nat.le_refl _, Nat.zero_le _, fun i hi => by simp at hi, fun z hz => by simp at hz⟩
  · have hlz : len ≤ zs.length := by rw [hlen]; split <;> omega
    have hnat : ∀ i, i < zs.length → ∃ m : Nat, zs.getD i 0 = (m : Int) ∧ m < M := fun i hi => hk _ (hwf _ (by rw [List.getD_eq_getElem?_getD, List.getElem?_eq_getElem hi]; exact List.getElem_mem hi))
    obtain ⟨f, hf⟩ := choose_lt (α := Nat) (n := len) (fun i hi => hnat i (by omega))
    refine ⟨some a, len, cap, (List.range len).map f, rfl, by simp, hl, by omega, ?_, ?_⟩
    · intro i hi
      have hi' : i < len := by simpa using hi
      have h0 := hcell 0 (by omega)
      obtain ⟨b, off, rfl⟩ := spot_none h0
      refine ⟨b, off, rfl, ?_⟩
      have h1 := hcell i (by omega)
      rw [(hf i hi').1, Addr.add_lit] at h1
      simpa using h1
    · intro z hz
      obtain ⟨i, hi, rfl⟩ := List.mem_map.1 hz
      exact (hf i (by simpa using hi)).2
end
end Go.Proofs.Qxb6603684a.skip

import Derived.Test.Qxb6603497aPickRead
namespace Go.Proofs.Qxb6603497a.pick
open Go.ChangeShapes Go.WideShapes Go.ChangeAt Go.RowKit

/-! ### What the four passes of pickModel know after k rounds -/
def M1 (t : Int) (cs : List Cd) (k : Nat) (m : Int) : Prop :=
  (m = -1 ∧ ∀ j (h : j < cs.length), j < k → hasT t cs[j].1 = false) ∨
  (0 ≤ m ∧ (∃ j, ∃ h : j < cs.length, j < k ∧ hasT t cs[j].1 = true ∧ (cs[j].1.length : Int) = m) ∧ ∀ j (h : j < cs.length), j < k → hasT t cs[j].1 = true → m ≤ (cs[j].1.length : Int))
def M2 (t : Int) (cs : List Cd) (m : Int) (k : Nat) (b : Int) : Prop :=
  (b = -1 ∧ ∀ j (h : j < cs.length), j < k → hasT t cs[j].1 = true → (cs[j].1.length : Int) ≠ m) ∨
  (0 ≤ b ∧ (∃ j, ∃ h : j < cs.length, j < k ∧ hasT t cs[j].1 = true ∧ (cs[j].1.length : Int) = m ∧ (vbs cs[j].1 : Int) = b) ∧
    ∀ j (h : j < cs.length), j < k → hasT t cs[j].1 = true → (cs[j].1.length : Int) = m → b ≤ (vbs cs[j].1 : Int))
def M3 (t : Int) (cs : List Cd) (m b : Int) (k : Nat) (s : Bool) (x : Int) : Prop :=
  (s = false ∧ ∀ j (h : j < cs.length), j < k → hasT t cs[j].1 = true → (cs[j].1.length : Int) = m → (vbs cs[j].1 : Int) ≠ b) ∨
  (s = true ∧ (∃ j, ∃ h : j < cs.length, j < k ∧ hasT t cs[j].1 = true ∧ (cs[j].1.length : Int) = m ∧ (vbs cs[j].1 : Int) = b ∧ cs[j].2 = x) ∧
    ∀ j (h : j < cs.length), j < k → hasT t cs[j].1 = true → (cs[j].1.length : Int) = m → (vbs cs[j].1 : Int) = b → cs[j].2 ≤ x)
def M4 (t : Int) (cs : List Cd) (m b x : Int) (k : Nat) : Prop :=
  ∀ j (h : j < cs.length), j < k → hasT t cs[j].1 = true → (cs[j].1.length : Int) = m → (vbs cs[j].1 : Int) = b → cs[j].2 ≠ x

theorem M1_start (t : Int) (cs : List Cd) : M1 t cs 0 (-1) := Or.inl ⟨rfl, fun _ _ h => by omega⟩
theorem M2_start (t : Int) (cs : List Cd) (m : Int) : M2 t cs m 0 (-1) := Or.inl ⟨rfl, fun _ _ h => by omega⟩
theorem M3_start (t : Int) (cs : List Cd) (m b : Int) : M3 t cs m b 0 false 0 := Or.inl ⟨rfl, fun _ _ h => by omega⟩
theorem M4_start (t : Int) (cs : List Cd) (m b x : Int) : M4 t cs m b x 0 := fun _ _ h => by omega

/-- Every j below k + 1 is below k, or is k. -/
theorem lt_succ {j k : Nat} (h : j < k + 1) : j < k ∨ j = k := by omega

theorem M1_no {t : Int} {cs : List Cd} {k : Nat} {m : Int} (h : M1 t cs k m) (hk : k < cs.length) (hn : hasT t cs[k].1 = false ∨ (0 ≤ m ∧ m ≤ (cs[k].1.length : Int))) : M1 t cs (k + 1) m := by
  rcases h with ⟨rfl, h⟩ | ⟨h0, ⟨i, hi, hik, h1, h2⟩, h⟩
  · refine Or.inl ⟨rfl, fun j hj hlt => ?_⟩
    rcases lt_succ hlt with e | rfl
    · exact h j hj e
    · rcases hn with hn | hn
      · exact hn
      · omega
  · refine Or.inr ⟨h0, ⟨i, hi, by omega, h1, h2⟩, fun j hj hlt hh => ?_⟩
    rcases lt_succ hlt with e | rfl
    · exact h j hj e hh
    · rcases hn with hn | hn
      · rw [hn] at hh; cases hh
      · exact hn.2
theorem M1_yes {t : Int} {cs : List Cd} {k : Nat} {m : Int} (h : M1 t cs k m) (hk : k < cs.length) (hh : hasT t cs[k].1 = true) (hm : m < 0 ∨ (cs[k].1.length : Int) < m) : M1 t cs (k + 1) (cs[k].1.length : Int) := by
  refine Or.inr ⟨by omega, ⟨k, hk, by omega, hh, rfl⟩, fun j hj hlt hh' => ?_⟩
  rcases lt_succ hlt with e | rfl
  · rcases h with ⟨rfl, h⟩ | ⟨h0, _, h⟩
    · rw [h j hj e] at hh'; cases hh'
    · have := h j hj e hh'; omega
  · exact Int.le_refl _

theorem M2_no {t : Int} {cs : List Cd} {m : Int} {k : Nat} {b : Int} (h : M2 t cs m k b) (hk : k < cs.length)
    (hn : hasT t cs[k].1 = false ∨ (cs[k].1.length : Int) ≠ m ∨ (0 ≤ b ∧ b ≤ (vbs cs[k].1 : Int))) : M2 t cs m (k + 1) b := by
  rcases h with ⟨rfl, h⟩ | ⟨h0, ⟨i, hi, hik, h1, h2⟩, h⟩
  · refine Or.inl ⟨rfl, fun j hj hlt hh => ?_⟩
    rcases lt_succ hlt with e | rfl
    · exact h j hj e hh
    · rcases hn with hn | hn | hn
      · rw [hn] at hh; cases hh
      · exact hn
      · omega
  · refine Or.inr ⟨h0, ⟨i, hi, by omega, h1, h2⟩, fun j hj hlt hh hm => ?_⟩
    rcases lt_succ hlt with e | rfl
    · exact h j hj e hh hm
    · rcases hn with hn | hn | hn
      · rw [hn] at hh; cases hh
      · exact absurd hm hn
      · exact hn.2
theorem M2_yes {t : Int} {cs : List Cd} {m : Int} {k : Nat} {b : Int} (h : M2 t cs m k b) (hk : k < cs.length) (hh : hasT t cs[k].1 = true) (hl : (cs[k].1.length : Int) = m)
    (hb : b < 0 ∨ (vbs cs[k].1 : Int) < b) : M2 t cs m (k + 1) (vbs cs[k].1 : Int) := by
  refine Or.inr ⟨by omega, ⟨k, hk, by omega, hh, hl, rfl⟩, fun j hj hlt hh' hm' => ?_⟩
  rcases lt_succ hlt with e | rfl
  · rcases h with ⟨rfl, h⟩ | ⟨h0, _, h⟩
    · exact absurd hm' (h j hj e hh')
    · have := h j hj e hh' hm'; omega
  · exact Int.le_refl _

theorem M3_no {t : Int} {cs : List Cd} {m b : Int} {k : Nat} {s : Bool} {x : Int} (h : M3 t cs m b k s x) (hk : k < cs.length)
    (hn : hasT t cs[k].1 = false ∨ (cs[k].1.length : Int) ≠ m ∨ (vbs cs[k].1 : Int) ≠ b ∨ (s = true ∧ cs[k].2 ≤ x)) : M3 t cs m b (k + 1) s x := by
  rcases h with ⟨rfl, h⟩ | ⟨rfl, ⟨i, hi, hik, h1, h2⟩, h⟩
  · refine Or.inl ⟨rfl, fun j hj hlt hh hm => ?_⟩
    rcases lt_succ hlt with e | rfl
    · exact h j hj e hh hm
    · rcases hn with hn | hn | hn | hn
      · rw [hn] at hh; cases hh
      · exact absurd hm hn
      · exact hn
      · cases hn.1
  · refine Or.inr ⟨rfl, ⟨i, hi, by omega, h1, h2⟩, fun j hj hlt hh hm hv => ?_⟩
    rcases lt_succ hlt with e | rfl
    · exact h j hj e hh hm hv
    · rcases hn with hn | hn | hn | hn
      · rw [hn] at hh; cases hh
      · exact absurd hm hn
      · exact absurd hv hn
      · exact hn.2
theorem M3_yes {t : Int} {cs : List Cd} {m b : Int} {k : Nat} {s : Bool} {x : Int} (h : M3 t cs m b k s x) (hk : k < cs.length) (hh : hasT t cs[k].1 = true) (hl : (cs[k].1.length : Int) = m) (hv : (vbs cs[k].1 : Int) = b)
    (hx : s = false ∨ x < cs[k].2) : M3 t cs m b (k + 1) true cs[k].2 := by
  refine Or.inr ⟨rfl, ⟨k, hk, by omega, hh, hl, hv, rfl⟩, fun j hj hlt hh' hm' hv' => ?_⟩
  rcases lt_succ hlt with e | rfl
  · rcases h with ⟨rfl, h⟩ | ⟨rfl, _, h⟩
    · exact absurd hv' (h j hj e hh' hm')
    · have := h j hj e hh' hm' hv'
      rcases hx with hx | hx
      · cases hx
      · omega
  · exact Int.le_refl _

theorem M4_no {t : Int} {cs : List Cd} {m b x : Int} {k : Nat} (h : M4 t cs m b x k) (hk : k < cs.length)
    (hn : hasT t cs[k].1 = false ∨ (cs[k].1.length : Int) ≠ m ∨ (vbs cs[k].1 : Int) ≠ b ∨ cs[k].2 ≠ x) : M4 t cs m b x (k + 1) := by
  intro j hj hlt hh hm hv
  rcases lt_succ hlt with e | rfl
  · exact h j hj e hh hm hv
  · rcases hn with hn | hn | hn | hn
    · rw [hn] at hh; cases hh
    · exact absurd hm hn
    · exact absurd hv hn
    · exact hn

/-- What pickModel hands back: -1 where nothing matches; else the first of the shortest. -/
def First (t : Int) (cs : List Cd) (i : Nat) (hi : i < cs.length) : Prop :=
  hasT t cs[i].1 = true ∧
  (∀ j (h : j < cs.length), hasT t cs[j].1 = true → cs[i].1.length < cs[j].1.length ∨ (cs[i].1.length = cs[j].1.length ∧ (vbs cs[i].1 < vbs cs[j].1 ∨ (vbs cs[i].1 = vbs cs[j].1 ∧ cs[j].2 ≤ cs[i].2)))) ∧
  (∀ j (h : j < cs.length), j < i → hasT t cs[j].1 = true → cs[i].1.length < cs[j].1.length ∨ (cs[i].1.length = cs[j].1.length ∧ (vbs cs[i].1 < vbs cs[j].1 ∨ (vbs cs[i].1 = vbs cs[j].1 ∧ cs[j].2 < cs[i].2))))
def ModelPost (t : Int) (cs : List Cd) (e : Ending) : Prop :=
  (e = .returned (.int .i64 (-1)) ∧ ∀ j (h : j < cs.length), hasT t cs[j].1 = false) ∨ ∃ i, ∃ hi : i < cs.length, e = .returned (.int .i64 (i : Int)) ∧ First t cs i hi

theorem none_of {t : Int} {cs : List Cd} {k : Nat} (h : M1 t cs k (-1)) (hk : cs.length ≤ k) (j : Nat) (hj : j < cs.length) : hasT t cs[j].1 = false := by
  rcases h with ⟨_, h⟩ | ⟨h0, _⟩
  · exact h j hj (by omega)
  · omega

theorem first_of {t : Int} {cs : List Cd} {n : Nat} (hn : cs.length = n) {m b x : Int} {s : Bool} {k1 k2 k3 : Nat} (hk1 : n ≤ k1) (hk2 : n ≤ k2) (hk3 : n ≤ k3) (h1 : M1 t cs k1 m) (hm : 0 ≤ m) (h2 : M2 t cs m k2 b) (h3 : M3 t cs m b k3 s x) {k : Nat} (h4 : M4 t cs m b x k)
    (hk : k < cs.length) (hh : hasT t cs[k].1 = true) (hl : (cs[k].1.length : Int) = m) (hv : (vbs cs[k].1 : Int) = b) (hx : cs[k].2 = x) : First t cs k hk := by
  have g1 : ∀ j (h : j < cs.length), hasT t cs[j].1 = true → m ≤ (cs[j].1.length : Int) := by
    rcases h1 with ⟨rfl, _⟩ | ⟨_, _, h⟩
    · omega
    · exact fun j hj hh => h j hj (by omega) hh
  have g2 : ∀ j (h : j < cs.length), hasT t cs[j].1 = true → (cs[j].1.length : Int) = m → b ≤ (vbs cs[j].1 : Int) := by
    rcases h2 with ⟨rfl, h⟩ | ⟨_, _, h⟩
    · omega
    · exact fun j hj hh => h j hj (by omega) hh
  have g3 : ∀ j (h : j < cs.length), hasT t cs[j].1 = true → (cs[j].1.length : Int) = m → (vbs cs[j].1 : Int) = b → cs[j].2 ≤ x := by
    rcases h3 with ⟨rfl, h⟩ | ⟨_, _, h⟩
    · exact absurd hv (h k hk (by omega) hh hl)
    · exact fun j hj hh => h j hj (by omega) hh
  refine ⟨hh, fun j hj hj' => ?_, fun j hj hjk hj' => ?_⟩
  · have a1 := g1 j hj hj'
    have a2 := g2 j hj hj'
    have a3 := g3 j hj hj'
    omega
  · have a1 := g1 j hj hj'
    have a2 := g2 j hj hj'
    have a3 := g3 j hj hj'
    have a4 := h4 j hj hjk hj'
    omega

/-- The last pass finds something. -/
theorem found_of {t : Int} {cs : List Cd} {n : Nat} (hn : cs.length = n) {m b x : Int} {s : Bool} {k1 k2 k3 k : Nat} (hk2 : n ≤ k2) (hk3 : n ≤ k3) (h1 : M1 t cs k1 m) (hm : 0 ≤ m) (h2 : M2 t cs m k2 b) (h3 : M3 t cs m b k3 s x) (h4 : M4 t cs m b x k) (hk : n ≤ k) : False := by
  rcases h1 with ⟨rfl, _⟩ | ⟨_, ⟨i, hi, hik, a1, a2⟩, _⟩
  · omega
  rcases h2 with ⟨rfl, h⟩ | ⟨_, ⟨i2, hi2, _, b1, b2, b3⟩, _⟩
  · exact h i hi (by omega) a1 a2
  rcases h3 with ⟨rfl, h⟩ | ⟨_, ⟨i3, hi3, _, c1, c2, c3, c4⟩, _⟩
  · exact h i2 hi2 (by omega) b1 b2 b3
  exact h4 i3 hi3 (by omega) c1 c2 c3 c4
end Go.Proofs.Qxb6603497a.pick

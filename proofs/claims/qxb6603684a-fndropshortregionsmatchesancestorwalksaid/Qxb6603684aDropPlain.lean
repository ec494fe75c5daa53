import GoSem.Claim
namespace Go.Proofs.Qxb6603684a.drop

/-! ### The regions, and what dropShortRegions makes of them: no Go in sight. -/
structure Rg where
  f : Int
  s : Int
  c : Int
  k : Int
  p : Int

def rgCells (g : Rg) : List Value := [.int .i64 g.f, .int .i64 g.s, .int .i64 g.c, .int .i64 g.k, .int .i64 g.p]
def flat : List Rg → List Value
  | [] => []
  | g :: rs => rgCells g ++ flat rs

theorem flat_append (a b : List Rg) : flat (a ++ b) = flat a ++ flat b := by
  induction a with
  | nil => rfl
  | cons g a ih => simp [flat, ih]
theorem flat_length (rs : List Rg) : (flat rs).length = rs.length * 5 := by
  induction rs with
  | nil => rfl
  | cons g rs ih => simp [flat, rgCells, ih]; omega
theorem flat_get : ∀ (rs : List Rg) (i : Nat) (h : i < rs.length) (c : Nat), c < 5 → (flat rs)[i * 5 + c]? = (rgCells rs[i])[c]?
  | [], _, h, _, _ => by simp at h
  | g :: rs, 0, _, c, hc => by
    show (rgCells g ++ flat rs)[0 * 5 + c]? = (rgCells g)[c]?
    rw [List.getElem?_append_left (by simp [rgCells]; omega)]; simp
  | g :: rs, i + 1, h, c, hc => by
    have hi : i < rs.length := by simpa using h
    have := flat_get rs i hi c hc
    show (rgCells g ++ flat rs)[(i + 1) * 5 + c]? = (rgCells rs[i])[c]?
    rw [List.getElem?_append_right (by simp [rgCells]; omega), ← this]
    congr 1
    simp [rgCells]; omega

/-- The index, in what is left, of the region p or of the nearest around it that is left; -1: none. -/
def anc (at_ : List Int) (p : Int) : Int := if p < 0 then -1 else at_.getD p.toNat 0

def step (st : List Rg × List Int) (g : Rg) : List Rg × List Int :=
  if g.c < 32 then (st.1, st.2 ++ [anc st.2 g.p]) else (st.1 ++ [{ g with p := anc st.2 g.p }], st.2 ++ [(st.1.length : Int)])
def D (rs : List Rg) : List Rg × List Int := rs.foldl step ([], [])

theorem D_succ (rs : List Rg) (k : Nat) (h : k < rs.length) : D (rs.take (k + 1)) = step (D (rs.take k)) rs[k] := by
  unfold D
  rw [List.take_succ_eq_append_getElem h, List.foldl_append]; rfl

/-- How many of some regions are left. -/
def kept : List Rg → Nat
  | [] => 0
  | g :: rs => (if g.c < 32 then 0 else 1) + kept rs
theorem kept_append (a b : List Rg) : kept (a ++ b) = kept a + kept b := by
  induction a with
  | nil => simp [kept]
  | cons g a ih => simp [kept, ih]; omega
theorem kept_succ (rs : List Rg) (k : Nat) (h : k < rs.length) : kept (rs.take (k + 1)) = kept (rs.take k) + (if rs[k].c < 32 then 0 else 1) := by
  rw [List.take_succ_eq_append_getElem h, kept_append]; simp [kept]
theorem kept_le (rs : List Rg) : kept rs ≤ rs.length := by
  induction rs with
  | nil => simp [kept]
  | cons g rs ih => simp only [kept, List.length_cons]; split <;> omega

theorem D_len2 (rs : List Rg) : ∀ k, k ≤ rs.length → (D (rs.take k)).2.length = k
  | 0, _ => by simp [D]
  | k + 1, h => by
    rw [D_succ rs k (by omega)]
    have := D_len2 rs k (by omega)
    unfold step
    split <;> simp [this]
theorem D_len1 (rs : List Rg) : ∀ k, k ≤ rs.length → (D (rs.take k)).1.length = kept (rs.take k)
  | 0, _ => by simp [D, kept]
  | k + 1, h => by
    rw [D_succ rs k (by omega), kept_succ rs k (by omega)]
    have := D_len1 rs k (by omega)
    unfold step
    split <;> simp [this]

/-- What is laid stays. -/
theorem D_pre2 (rs : List Rg) (i k : Nat) (hi : i < k) (hk : k ≤ rs.length) : (D (rs.take k)).2[i]? = (D (rs.take (i + 1))).2[i]? := by
  induction k with
  | zero => omega
  | succ k ih =>
    by_cases e : i = k
    · subst e; rfl
    · rw [← ih (by omega) (by omega), D_succ rs k (by omega)]
      have hl := D_len2 rs k (by omega)
      unfold step
      split <;> rw [List.getElem?_append_left (by omega)]
theorem D_pre1 (rs : List Rg) (j i k : Nat) (hi : i ≤ k) (hk : k ≤ rs.length) (hj : j < kept (rs.take i)) : (D (rs.take k)).1[j]? = (D (rs.take i)).1[j]? := by
  induction k with
  | zero => have : i = 0 := by omega
            subst this; rfl
  | succ k ih =>
    by_cases e : i = k + 1
    · subst e; rfl
    · rw [← ih (by omega) (by omega), D_succ rs k (by omega)]
      have hl := D_len1 rs k (by omega)
      have hm : kept (rs.take i) ≤ kept (rs.take k) := by
        have e1 : rs.take k = rs.take i ++ (rs.take k).drop i := by
          have := List.take_append_drop i (rs.take k)
          rw [List.take_take, Nat.min_eq_left (by omega)] at this
          exact this.symm
        rw [e1, kept_append]; omega
      unfold step
      split
      · rfl
      · rw [List.getElem?_append_left (by omega)]

/-- Every parent lies before its region, or is negative. -/
def Ord (rs : List Rg) : Prop := ∀ i (h : i < rs.length), rs[i].p < (i : Int)

/-- The table, whole. -/
theorem at_of (rs : List Rg) (ho : Ord rs) (i : Nat) (hi : i < rs.length) :
    (D rs).2.getD i 0 = if rs[i].c < 32 then anc (D rs).2 rs[i].p else (kept (rs.take i) : Int) := by
  have e1 := D_pre2 rs i rs.length hi (Nat.le_refl _)
  rw [List.take_length] at e1
  have hl := D_len2 rs i (by omega)
  have ea : anc (D (rs.take i)).2 rs[i].p = anc (D rs).2 rs[i].p := by
    unfold anc
    split
    · rfl
    · have hp := ho i hi
      have hlt : rs[i].p.toNat < i := by omega
      have a1 := D_pre2 rs rs[i].p.toNat i hlt (by omega)
      have a2 := D_pre2 rs rs[i].p.toNat rs.length (by omega) (Nat.le_refl _)
      rw [List.take_length] at a2
      rw [List.getD_eq_getElem?_getD, List.getD_eq_getElem?_getD, a1, a2]
  rw [List.getD_eq_getElem?_getD, e1, D_succ rs i hi]
  unfold step
  split
  · rw [List.getElem?_append_right (by omega)]; simp [hl, ea]
  · rw [List.getElem?_append_right (by omega)]; simp [hl, D_len1 rs i (by omega)]

/-- What is left, whole: a region that is left, in its place, its parent turned. -/
theorem long_of (rs : List Rg) (ho : Ord rs) (i : Nat) (hi : i < rs.length) (hc : ¬ rs[i].c < 32) :
    (D rs).1[kept (rs.take i)]? = some { rs[i] with p := anc (D rs).2 rs[i].p } := by
  have hks : kept (rs.take (i + 1)) = kept (rs.take i) + 1 := by rw [kept_succ rs i hi, if_neg hc]
  have e1 := D_pre1 rs (kept (rs.take i)) (i + 1) rs.length (by omega) (Nat.le_refl _) (by omega)
  rw [List.take_length] at e1
  have ea : anc (D (rs.take i)).2 rs[i].p = anc (D rs).2 rs[i].p := by
    unfold anc
    split
    · rfl
    · have hp := ho i hi
      have hlt : rs[i].p.toNat < i := by omega
      have a1 := D_pre2 rs rs[i].p.toNat i hlt (by omega)
      have a2 := D_pre2 rs rs[i].p.toNat rs.length (by omega) (Nat.le_refl _)
      rw [List.take_length] at a2
      rw [List.getD_eq_getElem?_getD, List.getD_eq_getElem?_getD, a1, a2]
  rw [e1, D_succ rs i hi]
  unfold step
  rw [if_neg hc]
  have hl := D_len1 rs i (by omega)
  rw [List.getElem?_append_right (by omega)]
  simp [hl, ea]

theorem anc_eq (rs : List Rg) (ho : Ord rs) (i : Nat) (hi : i < rs.length) : anc (D (rs.take i)).2 rs[i].p = anc (D rs).2 rs[i].p := by
  unfold anc
  split
  · rfl
  · have hp := ho i hi
    have hlt : rs[i].p.toNat < i := by omega
    have a1 := D_pre2 rs rs[i].p.toNat i hlt (by omega)
    have a2 := D_pre2 rs rs[i].p.toNat rs.length (by omega) (Nat.le_refl _)
    rw [List.take_length] at a2
    rw [List.getD_eq_getElem?_getD, List.getD_eq_getElem?_getD, a1, a2]
theorem long_no (rs : List Rg) (k : Nat) (hk : k < rs.length) (hc : rs[k].c < 32) : (D (rs.take (k + 1))).1 = (D (rs.take k)).1 := by
  rw [D_succ rs k hk]; unfold step; rw [if_pos hc]
theorem long_yes (rs : List Rg) (ho : Ord rs) (k : Nat) (hk : k < rs.length) (hc : ¬ rs[k].c < 32) : (D (rs.take (k + 1))).1 = (D (rs.take k)).1 ++ [{ rs[k] with p := anc (D rs).2 rs[k].p }] := by
  rw [D_succ rs k hk]; unfold step; rw [if_neg hc, anc_eq rs ho k hk]

theorem long_len (rs : List Rg) : (D rs).1.length = kept rs := by
  have := D_len1 rs rs.length (Nat.le_refl _)
  rwa [List.take_length] at this
end Go.Proofs.Qxb6603684a.drop

import Derived.Test.Qxb6603497aPickF
namespace Go.Proofs.Qxb6603497a.pick

/-! ### shorter is a strict weak order; picking over parts is picking over the whole. No Go in sight. -/
def lt (x y : An) : Bool := shorterB x.2.1 x.2.2 y.2.1 y.2.2

theorem lt_iff (x y : An) : lt x y = true ↔ x.2.1.length < y.2.1.length ∨ (x.2.1.length = y.2.1.length ∧ (vbs x.2.1 < vbs y.2.1 ∨ (vbs x.2.1 = vbs y.2.1 ∧ y.2.2 < x.2.2))) := by
  unfold lt shorterB
  split
  · split
    · simp; omega
    · simp; omega
  · simp; omega
theorem lt_trans (x y z : An) (h1 : lt x y = true) (h2 : lt y z = true) : lt x z = true := by
  rw [lt_iff] at *
  omega
theorem lt_neg (x y z : An) (h1 : ¬ lt x y = true) (h2 : ¬ lt y z = true) : ¬ lt x z = true := by
  rw [lt_iff] at *
  omega

/-- The better of two. -/
def better : Option An → Option An → Option An
  | s, none => s
  | none, some y => some y
  | some b, some y => if lt y b = true then some y else some b

theorem better_none (r : Option An) : better none r = r := by cases r <;> rfl

theorem step_no (t : Int) (s : Option An) (x : An) (h : hasT t x.2.1 = false) : stepF t s x = s := by
  unfold stepF; rw [h]; rfl
theorem step_yes_none (t : Int) (x : An) (h : hasT t x.2.1 = true) : stepF t none x = some x := by
  unfold stepF; rw [h]; rfl
theorem step_yes_some (t : Int) (b x : An) (h : hasT t x.2.1 = true) : stepF t (some b) x = better (some b) (some x) := by
  unfold stepF; rw [h, Bool.true_and]; rfl

theorem better_assoc (s : Option An) (x : An) (r : Option An) : better (better s (some x)) r = better s (better (some x) r) := by
  cases s with
  | none => rw [better_none, better_none]
  | some b =>
    cases r with
    | none => rfl
    | some y =>
      by_cases h1 : lt x b = true
      · have e1 : better (some b) (some x) = some x := by simp [better, h1]
        rw [e1]
        by_cases h2 : lt y x = true
        · have e2 : better (some x) (some y) = some y := by simp [better, h2]
          rw [e2]
          simp [better, lt_trans y x b h2 h1]
        · have e2 : better (some x) (some y) = some x := by simp [better, h2]
          rw [e2, e1]
      · have e1 : better (some b) (some x) = some b := by simp [better, h1]
        rw [e1]
        by_cases h2 : lt y x = true
        · have e2 : better (some x) (some y) = some y := by simp [better, h2]
          rw [e2]
        · have e2 : better (some x) (some y) = some x := by simp [better, h2]
          rw [e2, e1]
          have := lt_neg y x b h2 h1
          simp [better, this]

theorem fold_better (t : Int) : ∀ (l : List An) (s : Option An), l.foldl (stepF t) s = better s (l.foldl (stepF t) none)
  | [], s => by cases s <;> rfl
  | x :: l, s => by
    rw [List.foldl_cons, List.foldl_cons, fold_better t l (stepF t s x), fold_better t l (stepF t none x)]
    cases h : hasT t x.2.1 with
    | false => rw [step_no t s x h, step_no t none x h, better_none]
    | true =>
      rw [step_yes_none t x h]
      have : stepF t s x = better s (some x) := by
        cases s with
        | none => rw [step_yes_none t x h]; rfl
        | some b => exact step_yes_some t b x h
      rw [this, better_assoc]

theorem fold_has (t : Int) : ∀ (l : List An) (b : An), l.foldl (stepF t) none = some b → hasT t b.2.1 = true
  | [], b, h => by cases h
  | x :: l, b, h => by
    rw [List.foldl_cons, fold_better] at h
    cases hx : hasT t x.2.1 with
    | false => rw [step_no t none x hx, better_none] at h; exact fold_has t l b h
    | true =>
      rw [step_yes_none t x hx] at h
      cases hr : l.foldl (stepF t) none with
      | none => rw [hr] at h; cases h; exact hx
      | some y =>
        rw [hr] at h
        have hy := fold_has t l y hr
        unfold better at h
        split at h <;> simp_all
        · rename_i h1 h2
          split at h
          · cases h; exact hy
          · cases h; exact hx

/-- The pick over the two parts' picks is the pick over the whole. -/
theorem pick_parts (t : Int) (l1 l2 : List An) : pickF t (l1 ++ l2) = pickF t ((pickF t l1).toList ++ (pickF t l2).toList) := by
  have e : pickF t (l1 ++ l2) = better (pickF t l1) (pickF t l2) := by
    unfold pickF; rw [List.foldl_append, fold_better]
  rw [e]
  cases h1 : pickF t l1 with
  | none =>
    rw [better_none]
    cases h2 : pickF t l2 with
    | none => rfl
    | some y =>
      have := fold_has t l2 y h2
      show some y = stepF t none y
      rw [step_yes_none t y this]
  | some b =>
    have hb := fold_has t l1 b h1
    cases h2 : pickF t l2 with
    | none =>
      show some b = stepF t none b
      rw [step_yes_none t b hb]
    | some y =>
      have hy := fold_has t l2 y h2
      show better (some b) (some y) = stepF t (stepF t none b) y
      rw [step_yes_none t b hb, step_yes_some t b y hy]

theorem better_isSome (s r : Option An) : (better s r).isSome = (s.isSome || r.isSome) := by
  cases s <;> cases r <;> simp [better]
  split <;> rfl
theorem pick_isSome (t : Int) : ∀ l : List An, (pickF t l).isSome = l.any fun x => hasT t x.2.1
  | [] => rfl
  | x :: l => by
    unfold pickF
    rw [List.foldl_cons, fold_better, better_isSome]
    have := pick_isSome t l
    unfold pickF at this
    rw [this, List.any_cons]
    cases h : hasT t x.2.1 with
    | false => rw [step_no t none x h]; rfl
    | true => rw [step_yes_none t x h]; rfl
end Go.Proofs.Qxb6603497a.pick

import Derived.Laws.BitsLemmas
namespace Go.Proofs.Qxb6603497a.plain

theorem pow2_of_and : ∀ N : Nat, 1 ≤ N → N &&& (N - 1) = 0 → ∃ k, N = 2 ^ k := by
  intro N
  induction N using Nat.strongRecOn with
  | _ N ih =>
    intro h1 h
    by_cases e : N % 2 = 0
    · have hM : 1 ≤ N / 2 := by omega
      have h2 : N / 2 &&& (N / 2 - 1) = 0 := by
        have := congrArg (· / 2) h
        simp only [Nat.and_div_two] at this
        have e2 : (N - 1) / 2 = N / 2 - 1 := by omega
        rw [e2] at this
        simpa using this
      obtain ⟨k, hk⟩ := ih (N / 2) (by omega) hM h2
      exact ⟨k + 1, by rw [Nat.pow_succ]; omega⟩
    · by_cases e1 : N = 1
      · exact ⟨0, by simpa using e1⟩
      · exfalso
        have := congrArg (· / 2) h
        simp only [Nat.and_div_two] at this
        have e2 : (N - 1) / 2 = N / 2 := by omega
        rw [e2, Nat.and_self] at this
        omega

theorem and_mod (N : Nat) (h1 : 1 ≤ N) (h : N &&& (N - 1) = 0) (H : Nat) : H &&& (N - 1) = H % N := by
  obtain ⟨k, rfl⟩ := pow2_of_and N h1 h
  exact Nat.and_two_pow_sub_one_eq_mod H k

theorem wraps_i64 (n : Int) (h0 : 0 ≤ n) (h1 : n < 2 ^ 62) : IntKind.i64.wrap n = n := by
  rw [IntKind.wrap_i64]; omega

theorem and_i64 (a b : Nat) (ha : a < 2 ^ 62) (hb : b < 2 ^ 62) : bits .and .i64 (a : Int) (b : Int) = ((a &&& b : Nat) : Int) :=
  (bits_nat .i64 62 (by decide) wraps_i64 a b ha hb).1

theorem and_pow_zero (H k : Nat) : H &&& 2 ^ k = 0 ↔ H / 2 ^ k % 2 = 0 := by
  have hb : H.testBit k = decide (H / 2 ^ k % 2 = 1) := Nat.testBit_eq_decide_div_mod_eq
  have hlt : H / 2 ^ k % 2 < 2 := Nat.mod_lt _ (by decide)
  constructor
  · intro h
    have h1 : (H &&& 2 ^ k).testBit k = false := by rw [h]; simp
    rw [Nat.testBit_and, hb, Nat.testBit_two_pow_self] at h1
    simp at h1
    omega
  · intro h
    apply Nat.eq_of_testBit_eq
    intro i
    rw [Nat.testBit_and, Nat.testBit_two_pow]
    by_cases e : k = i
    · subst e; rw [hb, h]; simp
    · simp [e]

theorem and_double (N : Nat) (h1 : 1 ≤ N) (h : N &&& (N - 1) = 0) (H : Nat) : H &&& (2 * N - 1) = H % N + (if H &&& N = 0 then 0 else N) := by
  obtain ⟨k, rfl⟩ := pow2_of_and N h1 h
  rw [show 2 * 2 ^ k - 1 = 2 ^ (k + 1) - 1 from by rw [Nat.pow_succ]; omega, Nat.and_two_pow_sub_one_eq_mod, Nat.mod_pow_succ]
  have hlt : H / 2 ^ k % 2 < 2 := Nat.mod_lt _ (by decide)
  by_cases e : H / 2 ^ k % 2 = 0
  · rw [if_pos ((and_pow_zero H k).2 e), e]; simp
  · rw [if_neg (fun h => e ((and_pow_zero H k).1 h)), show H / 2 ^ k % 2 = 1 from by omega]; simp
end Go.Proofs.Qxb6603497a.plain

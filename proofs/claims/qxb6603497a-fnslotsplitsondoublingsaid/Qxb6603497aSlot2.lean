import Derived.Test.Qxb6603497aSlot
namespace Go.Proofs.Qxb6603497a.slotWalks
open Go.ChangeShapes Go.WideShapes Go.ChangeAt Go.RowKit

/-- The two buckets and the step between them, plain. -/
theorem parts (n : Nat) (h1 : 1 ≤ n) (hash : Nat) (hp : n &&& (n - 1) = 0) :
    ∃ s b : Nat, hash &&& (n - 1) = s ∧ hash &&& (2 * n - 1) = b ∧ s < n ∧ b = s + (if hash &&& n = 0 then 0 else n) := by
  have e1 := plain.and_mod n h1 hp hash
  have e2 := plain.and_double n h1 hp hash
  have hlt : hash % n < n := Nat.mod_lt _ (by omega)
  exact ⟨_, _, rfl, rfl, by omega, by omega⟩

theorem walk2D (n : Nat) (h1 : 1 ≤ n) (h2 : n ≤ 32768) (hash : Nat) (h4 : hash < 4294967296) (hp : n &&& (n - 1) = 0) (w : World) :
    Calls Try.prog 4 #[.int .i64 n, .int .u32 hash] w fun e w' => e = .returned (.bool true) ∧ Grown w w' := by
  have hb : bits .and .i64 (n : Int) ((n : Int) - 1) = 0 := by
    rw [show ((n : Int) - 1) = ((n - 1 : Nat) : Int) from by omega, plain.and_i64 _ _ (by omega) (by omega), hp]; rfl
  have hb2 : bits .and .u32 (hash : Int) (n : Int) = ((hash &&& n : Nat) : Int) := u32_and_nat _ _ h4 (by omega)
  have hw1 : IntKind.u32.wrap (n : Int) = n := by rw [IntKind.wrap_u32]; omega
  obtain ⟨s, b, e1, e2, hs, e3⟩ := parts n h1 hash hp
  have E1 : Hid (hash &&& (n - 1) = s) := e1
  have E2 : Hid (hash &&& (2 * n - 1) = b) := e2
  have E3 : Hid (b = s + (if hash &&& n = 0 then 0 else n)) := e3
  have hb0 : b ≤ s + n := by rw [e3]; split <;> omega
  clear e1 e2 e3 hp
  generalize hash &&& n = m at hb2 E3
  by_cases hz : m = 0
  · have hz' : ((m : Int) == 0) = true := beq_iff_eq.2 (by omega)
    have E4 : Hid (b = s) := by have := E3.out; rw [if_pos hz] at this; exact this
    clear E3 hz
    go_enter Try.func4, Try.ntmps4
    go_wp2_with fail
    refine (newIndex n (by omega) _).mono ?_
    rintro e w' ⟨rfl, c1, t1, rfl⟩
    go_wp2_with fail
    rw [show (2 * (n : Int)) = ((2 * n : Nat) : Int) from by omega]
    refine (newIndex (2 * n) (by omega) _).mono ?_
    rintro e w' ⟨rfl, c2, t2, rfl⟩
    go_wp2_with fail
    refine (zslot n h1 (by omega) hash h4 _ (some ⟨w.heap.size, 0, none⟩) _ ?hc1).mono ?_
    case hc1 => simp [go_sem]
    rintro e w' ⟨rfl, rfl⟩
    rw [E1.out]
    go_wp2_with fail
    refine (zslot (2 * n) (by omega) (by omega) hash h4 _ (some ⟨w.heap.size + 1 + 1, 0, none⟩) _ ?hc2).mono ?_
    case hc2 => simp [go_sem]
    rintro e w' ⟨rfl, rfl⟩
    rw [E2.out]
    go_wp2
    go_ret
    exact ⟨by simp [E4.out], by repeat (first | exact Grown.refl _ | apply Grown.drew | apply Grown.alloc)⟩
  · have hz' : ((m : Int) == 0) = false := beq_eq_false_iff_ne.2 (by omega)
    have E4 : Hid (b = s + n) := by have := E3.out; rw [if_neg hz] at this; exact this
    clear E3 hz
    go_enter Try.func4, Try.ntmps4
    go_wp2_with fail
    refine (newIndex n (by omega) _).mono ?_
    rintro e w' ⟨rfl, c1, t1, rfl⟩
    go_wp2_with fail
    rw [show (2 * (n : Int)) = ((2 * n : Nat) : Int) from by omega]
    refine (newIndex (2 * n) (by omega) _).mono ?_
    rintro e w' ⟨rfl, c2, t2, rfl⟩
    go_wp2_with fail
    refine (zslot n h1 (by omega) hash h4 _ (some ⟨w.heap.size, 0, none⟩) _ ?hc1).mono ?_
    case hc1 => simp [go_sem]
    rintro e w' ⟨rfl, rfl⟩
    rw [E1.out]
    go_wp2_with fail
    refine (zslot (2 * n) (by omega) (by omega) hash h4 _ (some ⟨w.heap.size + 1 + 1, 0, none⟩) _ ?hc2).mono ?_
    case hc2 => simp [go_sem]
    rintro e w' ⟨rfl, rfl⟩
    rw [E2.out]
    go_wp2
    go_ret
    exact ⟨by simp [E4.out], by repeat (first | exact Grown.refl _ | apply Grown.drew | apply Grown.alloc)⟩

theorem walk2 (a0 : Int) (a1 : Int) (w0 : (Lit.int .i64 a0).wf = true) (w1 : (Lit.int .u32 a1).wf = true) (w : World) :
    Calls Try.prog 4 #[.int .i64 a0, .int .u32 a1] w fun e w' => e = .returned (.bool true) ∧ Grown w w' := by
  have b1 := bounds_u32 w1
  have b0 := bounds_i64 w0
  by_cases c1 : a0 < 1
  · go_enter Try.func4, Try.ntmps4
    go_wp2
    go_ret
    exact ⟨rfl, Grown.refl _⟩
  by_cases c2 : 32768 < a0
  · go_enter Try.func4, Try.ntmps4
    go_wp2
    go_ret
    exact ⟨rfl, Grown.refl _⟩
  obtain ⟨n, rfl⟩ := Int.eq_ofNat_of_zero_le (show 0 ≤ a0 by omega)
  obtain ⟨hash, rfl⟩ := Int.eq_ofNat_of_zero_le b1.1
  by_cases c3 : n &&& (n - 1) = 0
  · exact walk2D n (by omega) (by omega) hash (by omega) c3 w
  · have hb : (bits .and .i64 (n : Int) ((n : Int) - 1) == 0) = false := by
      rw [show ((n : Int) - 1) = ((n - 1 : Nat) : Int) from by omega, plain.and_i64 _ _ (by omega) (by omega)]
      exact beq_eq_false_iff_ne.2 (by omega)
    go_enter Try.func4, Try.ntmps4
    go_wp2
    go_ret
    exact ⟨rfl, Grown.refl _⟩
end Go.Proofs.Qxb6603497a.slotWalks

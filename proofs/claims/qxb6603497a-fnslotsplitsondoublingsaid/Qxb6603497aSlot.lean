import Derived.Test.Qxb6603497aRows
import Derived.Test.Qxb6603497aPlain
import Derived.WalkKit
import Derived.ProofKit
import Derived.OpenShut
import Derived.ShutString
import Derived.WalkSpells
import Derived.BigQuiet
import Derived.Deep.QuietTactic
namespace Go.Proofs.Qxb6603497a.slotWalks
open Go.ChangeShapes Go.WideShapes Go.ChangeAt Go.RowKit

theorem info156 : (Try.prog.info? 156).map (fun i => (i.zero, i.size, i.bytes)) = some (some (.agg #[.pointer none]), 1, 8) := by kernel_rfl

theorem newIndex (n : Nat) (h2 : n ≤ 65536) (w : World) :
    Calls Try.prog 8 #[.int .i64 n] w fun e w' => e = .returned (.pointer (some ⟨w.heap.size + 1, 0, none⟩)) ∧ ∃ c1 t1, w' = (w.alloc (.cells c1 t1)).alloc (.cells #[.slice (some ⟨w.heap.size, 0, none⟩) n n] 69) := by
  obtain ⟨i, hi, hz, hs, hb⟩ := info_parts info156
  have hmk := fun w => run_make (P := Try.prog) w 67 156 i _ Try.underlying67 hi hz .i64 .i64 n n (by omega) (by omega) (by rw [hb]; omega) (by omega)
  simp only [Int.toNat_natCast] at hmk
  go_enter Try.func8, Try.ntmps8
  go_wp2
  go_ret
  exact ⟨rfl, _, _, rfl⟩

theorem slot (n : Nat) (h1 : 1 ≤ n) (h2 : n ≤ 65536) (hash : Nat) (h4 : hash < 4294967296) (b : Nat) (a : Option Addr) (w : World) (hc : w.cell? ⟨b, 0, none⟩ = some (.slice a n n)) :
    Calls Try.prog 23 #[.pointer (some ⟨b, 0, none⟩), .int .u32 hash] w fun e w' => e = .returned (.int .i64 ((hash &&& (n - 1) : Nat) : Int)) ∧ w' = w := by
  have hb : bits .and .i64 (hash : Int) ((n : Int) - 1) = ((hash &&& (n - 1) : Nat) : Int) := by
    rw [show ((n : Int) - 1) = ((n - 1 : Nat) : Int) from by omega]
    exact plain.and_i64 _ _ (by omega) (by omega)
  go_enter Try.func23, Try.ntmps23
  go_wp2
  go_ret
  exact ⟨rfl, rfl⟩

theorem zslot (n : Nat) (h1 : 1 ≤ n) (h2 : n ≤ 65536) (hash : Nat) (h4 : hash < 4294967296) (b : Nat) (a : Option Addr) (w : World) (hc : w.cell? ⟨b, 0, none⟩ = some (.slice a n n)) :
    Calls Try.prog 9 #[.pointer (some ⟨b, 0, none⟩), .int .u32 hash] w fun e w' => e = .returned (.int .i64 ((hash &&& (n - 1) : Nat) : Int)) ∧ w' = w := by
  go_enter Try.func9, Try.ntmps9
  go_wp2_with (go_at_call 23; refine (slot n h1 h2 hash h4 b a _ hc).mono ?_; rintro e w' ⟨rfl, rfl⟩)
  go_ret
  exact ⟨rfl, rfl⟩

theorem walkD (n : Nat) (h1 : 1 ≤ n) (h2 : n ≤ 65536) (hash : Nat) (h4 : hash < 4294967296) (hp : n &&& (n - 1) = 0) (w : World) :
    Calls Try.prog 3 #[.int .i64 n, .int .u32 hash] w fun e w' => e = .returned (.bool true) ∧ Grown w w' := by
  have hb : bits .and .i64 (n : Int) ((n : Int) - 1) = 0 := by
    rw [show ((n : Int) - 1) = ((n - 1 : Nat) : Int) from by omega, plain.and_i64 _ _ (by omega) (by omega), hp]; rfl
  have H : Hid (hash &&& (n - 1) = hash % n) := plain.and_mod n h1 hp hash
  clear hp
  go_enter Try.func3, Try.ntmps3
  go_wp2_with (go_at_call 8; refine (newIndex n h2 _).mono ?_; rintro e w' ⟨rfl, c1, t1, rfl⟩)
  have hn0 : ¬ ((n : Int) = 0) := by omega
  have hw1 : IntKind.u32.wrap (n : Int) = n := by rw [IntKind.wrap_u32]; omega
  have hm0 : 0 ≤ (hash : Int) % n := Int.emod_nonneg _ hn0
  have hm1 : (hash : Int) % n < 65536 := Int.lt_of_lt_of_le (Int.emod_lt_of_pos _ (by omega)) (by omega)
  go_quiet ((go_at_call 9; refine Calls.quiet_of_same (zslot n h1 h2 hash h4 _ (some ⟨w.heap.size, 0, none⟩) _ ?_); simp))
  go_wp2
  go_ret
  exact ⟨by simp [H.out], by repeat (first | exact Grown.refl _ | apply Grown.drew | apply Grown.alloc)⟩

theorem walk (a0 : Int) (a1 : Int) (w0 : (Lit.int .i64 a0).wf = true) (w1 : (Lit.int .u32 a1).wf = true) (w : World) :
    Calls Try.prog 3 #[.int .i64 a0, .int .u32 a1] w fun e w' => e = .returned (.bool true) ∧ Grown w w' := by
  have b1 := bounds_u32 w1
  have b0 := bounds_i64 w0
  by_cases c1 : a0 < 1
  · go_enter Try.func3, Try.ntmps3
    go_wp2
    go_ret
    exact ⟨rfl, Grown.refl _⟩
  by_cases c2 : 65536 < a0
  · go_enter Try.func3, Try.ntmps3
    go_wp2
    go_ret
    exact ⟨rfl, Grown.refl _⟩
  obtain ⟨n, rfl⟩ := Int.eq_ofNat_of_zero_le (show 0 ≤ a0 by omega)
  obtain ⟨hash, rfl⟩ := Int.eq_ofNat_of_zero_le b1.1
  by_cases c3 : n &&& (n - 1) = 0
  · exact walkD n (by omega) (by omega) hash (by omega) c3 w
  · have hb : (bits .and .i64 (n : Int) ((n : Int) - 1) == 0) = false := by
      rw [show ((n : Int) - 1) = ((n - 1 : Nat) : Int) from by omega, plain.and_i64 _ _ (by omega) (by omega)]
      exact beq_eq_false_iff_ne.2 (by omega)
    go_enter Try.func3, Try.ntmps3
    go_wp2
    go_ret
    exact ⟨rfl, Grown.refl _⟩
end Go.Proofs.Qxb6603497a.slotWalks

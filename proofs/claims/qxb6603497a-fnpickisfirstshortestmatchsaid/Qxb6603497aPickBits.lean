import Derived.Test.Qxb6603497aPickRead
import Derived.Test.Qxb6603497aPickBuild
import Derived.WalkSmall
namespace Go.Proofs.Qxb6603497a.pick
open Go.ChangeShapes Go.WideShapes Go.ChangeAt Go.RowKit

/-! ### Plain -/
/-- The bit of a type code: none from 32 on. -/
def bitOf (t : Int) : Nat := if t < 32 then 2 ^ t.toNat else 0
/-- The bits of some objects' types. -/
def bitsOf : List Ob → Nat
  | [] => 0
  | o :: os => bitOf o.1 ||| bitsOf os

theorem bitOf_lt (t : Int) : bitOf t < 4294967296 := by
  unfold bitOf
  split
  · exact Nat.pow_lt_pow_right (a := 2) (by decide) (show t.toNat < 32 by omega)
  · decide
theorem bitsOf_lt (os : List Ob) : bitsOf os < 4294967296 := by
  induction os with
  | nil => decide
  | cons o os ih => exact Nat.or_lt_two_pow (n := 32) (bitOf_lt _) ih
theorem bitsOf_append (a b : List Ob) : bitsOf (a ++ b) = bitsOf a ||| bitsOf b := by
  induction a with
  | nil => simp [bitsOf]
  | cons o a ih => simp [bitsOf, ih, Nat.or_assoc]
theorem bitsOf_take_succ (os : List Ob) (k : Nat) (h : k < os.length) : bitsOf (os.take (k + 1)) = bitsOf (os.take k) ||| bitOf os[k].1 := by
  rw [List.take_succ_eq_append_getElem h, bitsOf_append]; simp [bitsOf]

theorem bitOf_nat (t : Nat) : ((2 : Int) ^ min t 32 % 4294967296) = (bitOf (t : Int) : Nat) := by
  unfold bitOf
  by_cases h : t < 32
  · rw [if_pos (by omega), Nat.min_eq_left (by omega)]
    have : 2 ^ t < 4294967296 := Nat.pow_lt_pow_right (a := 2) (by decide) h
    simp only [Int.toNat_natCast]
    have e : ((2 : Int) ^ t) = ((2 ^ t : Nat) : Int) := by simp
    rw [e]
    generalize 2 ^ t = x at *
    omega
  · rw [if_neg (by omega), Nat.min_eq_right (by omega)]
    decide

theorem testBit_bitOf (t : Int) (ht : 0 ≤ t) (i : Nat) : (bitOf t).testBit i = (decide (t < 32) && decide (t = (i : Int))) := by
  unfold bitOf
  by_cases h : t < 32
  · rw [if_pos h, Nat.testBit_two_pow]
    simp only [h, decide_true, Bool.true_and]
    rw [Bool.eq_iff_iff]
    simp
    omega
  · rw [if_neg h]; simp [h]
theorem testBit_bitsOf (os : List Ob) (hos : ∀ o ∈ os, 0 ≤ o.1) (i : Nat) : (bitsOf os).testBit i = os.any (fun o => decide (o.1 < 32) && decide (o.1 = (i : Int))) := by
  induction os with
  | nil => simp [bitsOf]
  | cons o os ih =>
    rw [bitsOf, Nat.testBit_or, testBit_bitOf _ (hos o (by simp)), ih fun o' h => hos o' (by simp [h])]
    simp

/-- The bits meet just where some object is of the type. -/
theorem bits_has (t : Int) (ht : 0 ≤ t) (os : List Ob) (hos : ∀ o ∈ os, 0 ≤ o.1) : ((((bitsOf os &&& bitOf t : Nat) : Int)) != 0) = hasT t os := by
  have key : (bitsOf os &&& bitOf t = 0) ↔ hasT t os = false := by
    by_cases h : t < 32
    · have hb : ∀ i, (bitsOf os &&& bitOf t).testBit i = (os.any (fun o => decide (o.1 < 32) && decide (o.1 = (i : Int))) && decide (t = (i : Int))) := fun i => by
        rw [Nat.testBit_and, testBit_bitsOf os hos, testBit_bitOf t ht]; simp [h]
      constructor
      · intro e
        have h1 := hb t.toNat
        rw [e] at h1
        simp only [Nat.zero_testBit] at h1
        have h2 : (t = ((t.toNat : Nat) : Int)) := by omega
        simp only [← h2, decide_true, Bool.and_true] at h1
        simp only [hasT, h, decide_true, Bool.true_and]
        rw [List.any_eq_false] at *
        intro o ho he
        have := h1.symm
        rw [List.any_eq_false] at this
        have := this o ho
        simp at this he
        omega
      · intro e
        apply Nat.eq_of_testBit_eq
        intro i
        rw [hb i, Nat.zero_testBit]
        simp only [hasT, h, decide_true, Bool.true_and, List.any_eq_false] at e
        cases h3 : decide (t = (i : Int)) with
        | false => simp
        | true =>
          simp only [Bool.and_true]
          rw [List.any_eq_false]
          intro o ho he
          have := e o ho
          simp at this he h3
          omega
    · have : bitOf t = 0 := by unfold bitOf; rw [if_neg h]
      simp [this, hasT, h]
  cases hh : hasT t os with
  | false => have := key.2 hh; simp [this]
  | true =>
    have : ¬ bitsOf os &&& bitOf t = 0 := fun e => by rw [key.1 e] at hh; cases hh
    rw [bne_iff_ne]
    omega

/-! ### The walks -/
theorem or_zero_u32 (x : Nat) (h : x < 4294967296) : bits .or .u32 0 (x : Int) = x := by
  have := u32_or_nat 0 x (by decide) h
  simpa using this

def OneBit (t : Int) (s i : Value) : Prop := (i = .int .i64 0 ∧ s = .int .u32 0) ∨ (i = .int .i64 1 ∧ s = .int .u32 (bitOf t : Nat))

/-- typeBits, handed one type. -/
theorem typeBits_any (t : Int) (ht : 0 ≤ t) (b : Nat) (w : World) (hc : w.cell? ⟨b, 0, none⟩ = some (.int .i64 t)) :
    Calls Try.prog 31 #[.slice (some ⟨b, 0, none⟩) 1 1] w fun e w' => e = .returned (.int .u32 (bitOf t : Nat)) ∧ w' = w := by
  obtain ⟨t, rfl⟩ := Int.eq_ofNat_of_zero_le ht
  go_enter Try.func31, Try.ntmps31
  go_wp2
  go_loop [3, 8] (fun s i => OneBit t s i) (fun _ i => 1 - (intOf i).toNat)
  case atStart => exact Or.inl ⟨rfl, rfl⟩
  case round =>
    rcases hrel with ⟨rfl, rfl⟩ | ⟨rfl, rfl⟩
    · go_wp2
      go_round
      case rel => exact Or.inr ⟨rfl, by rw [bitOf_nat, or_zero_u32 _ (bitOf_lt _)]⟩
      case measure => simp [intOf]
    · go_wp2
      go_ret
      exact ⟨rfl, rfl⟩

/-- objectTypes. -/
theorem objTypes_any (os : List Ob) (hn : os.length ≤ maxLen) (hos : ∀ o ∈ os, 0 ≤ o.1) (cap : Nat) (a : Option Addr) (w : World) (hc : ObsAt w a os) :
    Calls Try.prog 30 #[.slice a os.length cap] w fun e w' => e = .returned (.int .u32 (bitsOf os : Nat)) ∧ Below w.heap.size w w' := by
  unfold maxLen at hn
  have Hc : Hid (ObsAt w a os) := hc
  have HO : Hid (∀ o ∈ os, 0 ≤ o.1) := hos
  clear hc hos
  generalize hn' : os.length = n at hn
  have HN : Hid (os.length = n) := hn'
  clear hn'
  go_enter Try.func30, Try.ntmps30
  go_wp2
  go_loopw [3, 8] (fun s i wr => ∃ k : Nat, k ≤ n ∧ i = .int .i64 k ∧ s = .int .u32 (bitsOf (os.take k) : Nat) ∧ Below w.heap.size w wr) (fun _ i _ => n - (intOf i).toNat)
  case atStart => exact ⟨0, Nat.zero_le _, rfl, rfl, Below.refl _ _⟩
  case round =>
    obtain ⟨k, hk, rfl, rfl, hb⟩ := hrel
    have HB : Hid (Below w.heap.size w wr) := hb
    clear hb
    by_cases hlt : k < n
    · have hk' : k < os.length := by have := HN.out; omega
      obtain ⟨b, off, rfl, h0, h1, h2⟩ := Hc.out k hk'
      have h0' := keep_cell HB.out h0
      have h1' := keep_cell HB.out h1
      have h2' := keep_cell HB.out h2
      have hsz := HB.out.size
      have hbl := cell_lt h0
      have ht := HO.out os[k] (List.getElem_mem hk')
      clear h0 h1 h2
      have HT : Hid (bitsOf (os.take (k + 1)) = bitsOf (os.take k) ||| bitOf os[k].1) := bitsOf_take_succ os k hk'
      have hor := u32_or_nat (bitsOf (os.take k)) (bitOf os[k].1) (bitsOf_lt _) (bitOf_lt _)
      go_wp2_with fail
      refine (typeBits_any _ ht _ _ ?hc1).mono ?_
      case hc1 => simp [go_sem]
      rintro e w' ⟨rfl, rfl⟩
      go_wp2
      go_roundw
      case rel => exact ⟨k + 1, by omega, by go_num, by rw [HT.out], (HB.out.alloc hsz _).alloc (by simp; omega) _⟩
      case measure => simp [intOf]; omega
    · go_wp2
      go_ret
      exact ⟨ret_int (by rw [List.take_of_length_le (by have := HN.out; omega)]), HB.out⟩

/-- valueBytes. -/
theorem vb_any (os : List Ob) (hn : os.length ≤ maxLen) (hv : vbs os ≤ 1048576) (cap : Nat) (a : Option Addr) (w : World) (hc : ObsAt w a os) :
    Calls Try.prog 42 #[.slice a os.length cap] w fun e w' => e = .returned (.int .i64 (vbs os)) ∧ Below w.heap.size w w' := by
  unfold maxLen at hn
  have Hc : Hid (ObsAt w a os) := hc
  clear hc
  generalize hn' : os.length = n at hn
  have HN : Hid (os.length = n) := hn'
  clear hn'
  go_enter Try.func42, Try.ntmps42
  go_wp2
  go_loopw [3, 8] (fun s i wr => ∃ k : Nat, k ≤ n ∧ i = .int .i64 k ∧ s = .int .i64 (vbs (os.take k)) ∧ Below w.heap.size w wr) (fun _ i _ => n - (intOf i).toNat)
  case atStart => exact ⟨0, Nat.zero_le _, rfl, rfl, Below.refl _ _⟩
  case round =>
    obtain ⟨k, hk, rfl, rfl, hb⟩ := hrel
    have HB : Hid (Below w.heap.size w wr) := hb
    clear hb
    by_cases hlt : k < n
    · have hk' : k < os.length := by have := HN.out; omega
      obtain ⟨b, off, rfl, h0, h1, h2⟩ := Hc.out k hk'
      have h0' := keep_cell HB.out h0
      have h1' := keep_cell HB.out h1
      have h2' := keep_cell HB.out h2
      have hsz := HB.out.size
      have hs := vbs_take_succ os k hk'
      have hle := vbs_take_le os (k + 1)
      have hle2 := vbs_take_le os k
      have hz : os[k].2.size ≤ 1048576 := by omega
      have HS : Hid (vbs (os.take (k + 1)) = vbs (os.take k) + os[k].2.size) := hs
      clear h0 h1 h2 hs hle
      go_wp2
      go_roundw
      case rel => exact ⟨k + 1, by omega, by go_num, by rw [HS.out]; go_num, HB.out.alloc hsz _⟩
      case measure => simp [intOf]; omega
    · go_wp2
      go_ret
      exact ⟨ret_int (by rw [List.take_of_length_le (by have := HN.out; omega)]), HB.out⟩

/-- ZZanswerFields. -/
theorem fields_any (p : Option Addr) (x : Int) (w : World) :
    Calls Try.prog 16 #[.agg #[.pointer p, .int .i64 x]] w fun e w' => e = .returned (.tuple #[.pointer p, .int .i64 x]) ∧ Below w.heap.size w w' := by
  go_enter Try.func16, Try.ntmps16
  go_wp2
  go_quiet (fail)
  go_wp2
  go_ret2
  exact ⟨rfl, below_drewN ((Below.refl _ _).alloc (Nat.le_refl _) _) _⟩
end Go.Proofs.Qxb6603497a.pick

import Derived.Test.Qxb6603497aPickPick
import Derived.Test.Qxb6603497aPickLaw
import Derived.Test.Qxb6603497aPickRead2
import Derived.LaidEqlPtr
namespace Go.Proofs.Qxb6603497a.pick
open Go.ChangeShapes Go.WideShapes Go.ChangeAt Go.RowKit

theorem zpick_n (t : Int) (ht : 0 ≤ t) (l : List An) (n : Nat) (hln : l.length = n) (hn : n ≤ 65536) (hg : Good l) (cap : Nat) (a : Option Addr) (w : World) (hc : AnsAt w a l) :
    Calls Try.prog 15 #[.int .i64 t, .slice a n cap] w fun e w' => PickPost t l w e w' := by
  subst hln
  exact zpick_any t ht l (by unfold maxLen; omega) hg cap a w hc

theorem ansOf_mem {A : Nat} : ∀ {cs : List Cd} {i : Nat} {x : An}, x ∈ ansOf A i cs → (x.2.1, x.2.2) ∈ cs
  | [], _, _, h => by simp [ansOf] at h
  | c :: cs, i, x, h => by
    simp only [ansOf, List.mem_cons] at h
    rcases h with rfl | h
    · simp
    · exact List.mem_cons_of_mem _ (ansOf_mem h)

theorem good_ans {A : Nat} {cs : List Cd} (hw : wgt cs ≤ 1048576) (hneg : ∀ c ∈ cs, ∀ o ∈ c.1, 0 ≤ o.1) : Good (ansOf A 0 cs) := by
  intro x hx
  have hm := ansOf_mem hx
  have := wgt_mem hm
  exact ⟨by simp at this; omega, by simp at this; omega, hneg _ hm⟩

theorem Good.sub {l l' : List An} (h : Good l) (hs : ∀ x ∈ l', x ∈ l) : Good l' := fun x hx => h x (hs x hx)

theorem AnsAt.take {w : World} {b : Nat} {l : List An} (h : AnsAt w (some ⟨b, 0, none⟩) l) (k : Nat) : AnsAt w (some ⟨b, 0, none⟩) (l.take k) := by
  intro i hi
  have hi' : i < l.length := by simp at hi; omega
  have := h i hi'
  simpa using this
theorem AnsAt.drop {w : World} {b : Nat} {l : List An} (h : AnsAt w (some ⟨b, 0, none⟩) l) (k : Nat) : AnsAt w (some ⟨b, k * 2, none⟩) (l.drop k) := by
  intro i hi
  have hi' : k + i < l.length := by simp at hi; omega
  obtain ⟨b', off, h1, h2, h3, h4⟩ := h (k + i) hi'
  simp only [Option.some.injEq, Addr.mk.injEq] at h1
  obtain ⟨rfl, rfl, _⟩ := h1
  refine ⟨b, k * 2, rfl, ?_, ?_, ?_⟩
  · rw [show k * 2 + i * 2 = 0 + (k + i) * 2 from by omega, h2]; simp
  · rw [show k * 2 + i * 2 + 1 = 0 + (k + i) * 2 + 1 from by omega, h3]; simp
  · simpa using h4

/-- Behind a call in a world with one block more: that block's cells; what was there. -/
theorem after_new {W3 w4 : World} (p : Option Addr) (x : Int)
    (hb : Below (W3.alloc (.cells #[.pointer p, .int .i64 x] 38)).heap.size (W3.alloc (.cells #[.pointer p, .int .i64 x] 38)) w4) :
    Below W3.heap.size W3 w4 ∧ w4.cell? ⟨W3.heap.size, 0, none⟩ = some (.pointer p) ∧ w4.cell? ⟨W3.heap.size, 1, none⟩ = some (.int .i64 x) ∧ W3.heap.size < w4.heap.size := by
  have hs := hb.size
  simp only [World.size_alloc] at hs
  exact ⟨(below_new W3 _).trans (hb.mono (by simp)), keep_cell hb (by simp), keep_cell hb (by simp), by omega⟩

theorem make02 (w : World) : (Instr.makeSlice 33 (.int .i64 0) (.int .i64 2)).run Try.prog w =
    .ok (.slice (some ⟨w.heap.size, 0, none⟩) 0 2) (w.alloc (.cells #[.pointer none, .int .i64 0, .pointer none, .int .i64 0] 38)) := by
  obtain ⟨i, hi, hz, hs, hb⟩ := info_parts info38
  have hr := run_make (P := Try.prog) w 33 38 i _ Try.underlying33 hi hz .i64 .i64 0 2 (by omega) (by omega) (by rw [hb]; omega) (by omega)
  rw [hs] at hr
  have e : madeCells (Value.agg zAn).cells ((2 : Int).toNat * 2) = #[.pointer none, .int .i64 0, .pointer none, .int .i64 0] := by kernel_rfl
  rw [e] at hr
  exact hr

theorem drop_at {w : World} {b : Nat} {l : List An} {k n : Nat} (h : AnsAt w (some ⟨b, 0, none⟩) l) (hn : l.length = n) (X : Nat) (hX : n = k ∨ X = k * 2) : AnsAt w (some ⟨b, X, none⟩) (l.drop k) := by
  rcases hX with e | rfl
  · intro i hi
    simp at hi
    omega
  · exact h.drop k

theorem ans_nil (w : World) (a : Option Addr) : AnsAt w a [] := fun i hi => by simp at hi
theorem ans_one {w : World} {P : Nat} {x : An} (h0 : w.cell? ⟨P, 0, none⟩ = some (.pointer (some ⟨x.1.1, x.1.2, none⟩))) (h1 : w.cell? ⟨P, 1, none⟩ = some (.int .i64 x.2.2)) (hx : AssAt w x.1 x.2.1) : AnsAt w (some ⟨P, 0, none⟩) [x] := by
  intro i hi
  obtain rfl : i = 0 := by simp at hi; omega
  exact ⟨P, 0, rfl, h0, h1, hx⟩
theorem ans_two {w : World} {P : Nat} {x y : An} (h0 : w.cell? ⟨P, 0, none⟩ = some (.pointer (some ⟨x.1.1, x.1.2, none⟩))) (h1 : w.cell? ⟨P, 1, none⟩ = some (.int .i64 x.2.2))
    (h2 : w.cell? ⟨P, 2, none⟩ = some (.pointer (some ⟨y.1.1, y.1.2, none⟩))) (h3 : w.cell? ⟨P, 3, none⟩ = some (.int .i64 y.2.2)) (hx : AssAt w x.1 x.2.1) (hy : AssAt w y.1 y.2.1) : AnsAt w (some ⟨P, 0, none⟩) [x, y] := by
  intro i hi
  have : i = 0 ∨ i = 1 := by simp at hi; omega
  rcases this with rfl | rfl
  · exact ⟨P, 0, rfl, h0, h1, hx⟩
  · exact ⟨P, 0, rfl, h2, h3, hy⟩

theorem run_ptr_same (p : Option Addr) (w : World) : (binOp .eql 36 (.pointer p) (.pointer p)).run Try.prog w = .ok (.bool true) w := by
  obtain ⟨i, hi, _⟩ := info_parts info56
  cases p with
  | none => simpa using run_eql_pointer_nil (P := Try.prog) w 36 none (by kernel_rfl)
  | some a => exact run_eql_ptr_same w a Try.underlying36 hi

theorem any_ans (t : Int) (A : Nat) : ∀ (cs : List Cd) (i : Nat), ((ansOf A i cs).any fun x => hasT t x.2.1) = cs.any fun c => hasT t c.1
  | [], _ => rfl
  | c :: cs, i => by simp only [ansOf, List.any_cons, any_ans t A cs (i + 1)]

/-- The whole's pick out of the parts' picks. -/
theorem whole_of {t : Int} {l : List An} {k : Nat} {W Lf Rf : Option An} (hW : pickF t l = W) (hL : pickF t (l.take k) = Lf) (hR : pickF t (l.drop k) = Rf) : pickF t (Lf.toList ++ Rf.toList) = W := by
  rw [← hW, ← hL, ← hR]
  have := pick_parts t (l.take k) (l.drop k)
  rw [List.take_append_drop] at this
  exact this.symm

/-- One call behind the other. -/
theorem kb {a b c : World} (h : Below a.heap.size a b) (k : Below b.heap.size b c) : Below a.heap.size a c := h.trans (k.mono h.size)

def LawPost (w : World) (e : Ending) (w' : World) : Prop := e = .returned (.bool true) ∧ Below w.heap.size w w'

set_option maxHeartbeats 4000000 in
theorem split_walk (t : Int) (k : Int) (cs : List Cd) (N : Nat) (hN : cs.length = N) (hf : Fit cs) (cap : Nat) (a : Option Addr) (w : World) (hc : CandsAt w a cs) :
    Calls Try.prog 6 #[.int .i64 t, .slice a N cap, .int .i64 k] w fun e w' => LawPost w e w' := by
  have HF : Hid (Fit cs) := hf
  have HC : Hid (CandsAt w a cs) := hc
  have hl : N ≤ maxLen := by rw [← hN]; exact hf.1
  have HN : Hid (cs.length = N) := hN
  unfold maxLen at hl
  clear hf hc hN
  go_enter Try.func6, Try.ntmps6
  go_wp2_with fail
  have z := zz_any cs HF.out cap a t k w HC.out
  rw [HN.out] at z
  refine z.mono ?_
  clear z
  rintro e w' ⟨⟨b, rfl⟩, rfl⟩
  cases b
  · go_wp2
    go_ret
    exact ⟨rfl, Below.refl _ _⟩
  by_cases h16 : 65536 < N
  · go_wp2
    go_ret
    exact ⟨rfl, Below.refl _ _⟩
  go_wp2_with fail
  have z := bytes_any cs HF.out (by have := HN.out; omega) cap a _ HC.out
  rw [HN.out] at z
  refine z.mono ?_
  clear z
  rintro e w' ⟨⟨n, rfl, hn⟩, rfl⟩
  by_cases hbig : 1048576 < n
  · clear hn
    go_wp2
    go_ret
    exact ⟨rfl, Below.refl _ _⟩
  have HW : Hid (wgt cs ≤ 1048576) := hn (by omega)
  clear hn
  by_cases ht : t < 0
  · go_wp2
    go_ret
    exact ⟨rfl, Below.refl _ _⟩
  go_wp2_with fail
  have z := neg_any cs HF.out cap a _ HC.out
  rw [HN.out] at z
  refine z.mono ?_
  clear z
  rintro e w' ⟨⟨b, rfl, hneg⟩, rfl⟩
  cases b
  case true =>
    clear hneg
    go_wp2
    go_ret
    exact ⟨rfl, Below.refl _ _⟩
  have HNG : Hid (∀ c ∈ cs, ∀ o ∈ c.1, 0 ≤ o.1) := hneg rfl
  clear hneg
  by_cases hk0 : k < 0
  · go_wp2
    go_ret
    exact ⟨rfl, Below.refl _ _⟩
  obtain ⟨k, rfl⟩ := Int.eq_ofNat_of_zero_le (show 0 ≤ k by omega)
  by_cases hk1 : N < k
  · go_wp2
    go_ret
    exact ⟨rfl, Below.refl _ _⟩
  have ht0 : 0 ≤ t := by omega
  clear ht
  by_cases hkn : k < N
  · have hne : ¬ N = k := by omega
    go_wp2_with fail
    have z := clone_any cs HW.out cap a _ HC.out
    rw [HN.out] at z
    refine z.mono ?_
    clear z
    rintro e w1 ⟨a1, cap1, rfl, hc1, hb1⟩
    rw [HN.out]
    have HC1 : Hid (CandsAt w1 a1 cs) := hc1
    have HB1 : Hid (Below w'.heap.size w' w1) := hb1
    clear hc1 hb1
    go_wp2_with fail
    have z := build_any cs HW.out cap1 a1 _ HC1.out
    rw [HN.out] at z
    refine z.mono ?_
    clear z
    rintro e w2 ⟨A, rfl, ha2, hb2⟩
    rw [HN.out]
    have HA2 : Hid (AnsAt w2 (some ⟨A + 1, 0, none⟩) (ansOf A 0 cs)) := ha2
    have HB2 : Hid (Below w1.heap.size w1 w2) := hb2
    clear ha2 hb2
    have HL : Hid ((ansOf A 0 cs).length = N) := (ansOf_length A cs 0).trans HN.out
    have HGD : Hid (Good (ansOf A 0 cs)) := good_ans HW.out HNG.out
    go_wp2_with fail
    refine (zpick_n t ht0 (ansOf A 0 cs) N HL.out (by omega) HGD.out _ _ _ HA2.out).mono ?_
    rintro e w3 ⟨rfl, hb3⟩
    have HB3 : Hid (Below w2.heap.size w2 w3) := hb3
    generalize hW : pickF t (ansOf A 0 cs) = W
    have HWW : Hid (pickF t (ansOf A 0 cs) = W) := hW
    clear hW hb3
    go_wp2_with fail
    refine (zpick_n t ht0 ((ansOf A 0 cs).take k) k (by have := HL.out; simp; omega) (by omega) (HGD.out.sub fun x hx => List.mem_of_mem_take hx) _ _ _ ?hc1).mono ?_
    case hc1 => exact ((HA2.out.keep HB3.out).keep (below_new _ _)).take k
    rintro e w4 ⟨rfl, hb4⟩
    obtain ⟨hb34, hw0, hw1, hz34⟩ := after_new _ _ hb4
    have HB4 : Hid (Below w3.heap.size w3 w4) := hb34
    generalize hLf : pickF t ((ansOf A 0 cs).take k) = Lf
    have HLf : Hid (pickF t ((ansOf A 0 cs).take k) = Lf) := hLf
    clear hLf hb4 hb34
    go_wp2_with fail
    go_must (refine (zpick_n t ht0 ((ansOf A 0 cs).drop k) (N - k) (by have := HL.out; simp; omega) (by omega) (HGD.out.sub fun x hx => List.mem_of_mem_drop hx) _ _ _ ?hc2).mono ?_)
    case hc2 => exact drop_at (((HA2.out.keep HB3.out).keep HB4.out).keep (below_new _ _)) HL.out _ (Or.inr rfl)
    rintro e w5 ⟨rfl, hb5⟩
    obtain ⟨hb45, hl0, hl1, hz45⟩ := after_new _ _ hb5
    have HB5 : Hid (Below w4.heap.size w4 w5) := hb45
    have hw0' := keep_cell hb45 hw0
    have hw1' := keep_cell hb45 hw1
    generalize hRf : pickF t ((ansOf A 0 cs).drop k) = Rf
    have HRf : Hid (pickF t ((ansOf A 0 cs).drop k) = Rf) := hRf
    clear hRf hb5 hb45 hw0 hw1
    have HA5 : Hid (AnsAt w5 (some ⟨A + 1, 0, none⟩) (ansOf A 0 cs)) := ((HA2.out.keep HB3.out).keep HB4.out).keep HB5.out
    have hps := run_ptr_same (ptrOf W)
    have hpn : ptrOf none = none := rfl
    have hen : expOf none = 0 := rfl
    have hps' : ∀ x : An, ptrOf (some x) = some ⟨x.1.1, x.1.2, none⟩ := fun _ => rfl
    have hes' : ∀ x : An, expOf (some x) = x.2.2 := fun _ => rfl
    rcases Lf with _ | x <;> rcases Rf with _ | y
    · have HCW : Hid (pickF t [] = W) := whole_of HWW.out HLf.out HRf.out
      have HGP : Hid (Good []) := HGD.out.sub (by intro z hz; cases hz)
      have hmk := make02
      go_wp2_with fail
      have z := fun W6 h => zpick_n t ht0 [] 0 rfl (by decide) HGP.out 2 (some ⟨w5.heap.size + 1, 0, none⟩) W6 h
      unfold PickPost at z
      rw [HCW.out] at z
      refine (z _ ?hc3).mono ?_
      case hc3 => exact ans_nil _ _
      clear z hmk
      rintro e w6 ⟨rfl, hb6⟩
      have HB6 : Hid (Below w5.heap.size w5 w6) := by
        refine Below.trans ?_ (hb6.mono (by first | (simp; done) | (simp; omega)))
        repeat (first | exact Below.refl _ _ | refine Below.alloc ?_ (by first | (simp; done) | (simp; omega)) _)
      have hw0'' := keep_cell HB6.out hw0'
      have hw1'' := keep_cell HB6.out hw1'
      have hz6 : w3.heap.size < w6.heap.size := by have := HB6.out.size; omega
      clear hb6 hw0' hw1' hl0 hl1
      go_wp2_with fail
      refine (fields_any _ _ _).mono ?_
      rintro e w7 ⟨rfl, hb7⟩
      obtain ⟨hb67, hk0', hk1', hz67⟩ := after_new _ _ hb7
      have HB7 : Hid (Below w6.heap.size w6 w7) := hb67
      clear hb7 hb67 hw0'' hw1''
      go_wp2_with fail
      refine (fields_any _ _ _).mono ?_
      rintro e w8 ⟨rfl, hb8⟩
      have HB8 : Hid (Below w7.heap.size w7 w8) := hb8
      clear hb8 hk0' hk1'
      have z := anyMatch_any cs HF.out cap1 a1 t w8 (((((((HC1.out.keep HB2.out).keep HB3.out).keep HB4.out).keep HB5.out).keep HB6.out).keep HB7.out).keep HB8.out)
      rw [HN.out, ← any_ans t A cs 0, ← pick_isSome, HWW.out] at z
      go_wp2_with fail
      refine z.mono ?_
      clear z
      rintro e w9 ⟨rfl, rfl⟩
      go_wp2
      go_ret
      exact ⟨rfl, kb HB1.out (kb HB2.out (kb HB3.out (kb HB4.out (kb HB5.out (kb HB6.out (kb HB7.out HB8.out))))))⟩
    · have HYM : Hid (AssAt w5 y.1 y.2.1) := HA5.out.ass (List.mem_of_mem_drop (pickF_mem t _ y HRf.out))
      have HYG : Hid (y ∈ ansOf A 0 cs) := List.mem_of_mem_drop (pickF_mem t _ y HRf.out)
      have HCW : Hid (pickF t [y] = W) := whole_of HWW.out HLf.out HRf.out
      have HGP : Hid (Good [y]) := HGD.out.sub (by intro z hz; simp at hz; subst hz; exact HYG.out)
      have hmk := make02
      go_wp2_with fail
      have z := fun W6 h => zpick_n t ht0 [y] 1 rfl (by decide) HGP.out 2 (some ⟨w5.heap.size + 1, 0, none⟩) W6 h
      unfold PickPost at z
      rw [HCW.out] at z
      refine (z _ ?hc3).mono ?_
      case hc3 => exact ans_one (by simp [go_sem]) (by simp [go_sem]) ((((HYM.out).keep (below_new _ _)).keep (below_new _ _)).keep (below_new _ _))
      clear z hmk
      rintro e w6 ⟨rfl, hb6⟩
      have HB6 : Hid (Below w5.heap.size w5 w6) := by
        refine Below.trans ?_ (hb6.mono (by first | (simp; done) | (simp; omega)))
        repeat (first | exact Below.refl _ _ | refine Below.alloc ?_ (by first | (simp; done) | (simp; omega)) _)
      have hw0'' := keep_cell HB6.out hw0'
      have hw1'' := keep_cell HB6.out hw1'
      have hz6 : w3.heap.size < w6.heap.size := by have := HB6.out.size; omega
      clear hb6 hw0' hw1' hl0 hl1
      go_wp2_with fail
      refine (fields_any _ _ _).mono ?_
      rintro e w7 ⟨rfl, hb7⟩
      obtain ⟨hb67, hk0', hk1', hz67⟩ := after_new _ _ hb7
      have HB7 : Hid (Below w6.heap.size w6 w7) := hb67
      clear hb7 hb67 hw0'' hw1''
      go_wp2_with fail
      refine (fields_any _ _ _).mono ?_
      rintro e w8 ⟨rfl, hb8⟩
      have HB8 : Hid (Below w7.heap.size w7 w8) := hb8
      clear hb8 hk0' hk1'
      have z := anyMatch_any cs HF.out cap1 a1 t w8 (((((((HC1.out.keep HB2.out).keep HB3.out).keep HB4.out).keep HB5.out).keep HB6.out).keep HB7.out).keep HB8.out)
      rw [HN.out, ← any_ans t A cs 0, ← pick_isSome, HWW.out] at z
      go_wp2_with fail
      refine z.mono ?_
      clear z
      rintro e w9 ⟨rfl, rfl⟩
      go_wp2
      go_ret
      exact ⟨rfl, kb HB1.out (kb HB2.out (kb HB3.out (kb HB4.out (kb HB5.out (kb HB6.out (kb HB7.out HB8.out))))))⟩
    · have HXM : Hid (AssAt w5 x.1 x.2.1) := HA5.out.ass (List.mem_of_mem_take (pickF_mem t _ x HLf.out))
      have HXG : Hid (x ∈ ansOf A 0 cs) := List.mem_of_mem_take (pickF_mem t _ x HLf.out)
      have HCW : Hid (pickF t [x] = W) := whole_of HWW.out HLf.out HRf.out
      have HGP : Hid (Good [x]) := HGD.out.sub (by intro z hz; simp at hz; subst hz; exact HXG.out)
      have hmk := make02
      go_wp2_with fail
      have z := fun W6 h => zpick_n t ht0 [x] 1 rfl (by decide) HGP.out 2 (some ⟨w5.heap.size + 1, 0, none⟩) W6 h
      unfold PickPost at z
      rw [HCW.out] at z
      refine (z _ ?hc3).mono ?_
      case hc3 => exact ans_one (by simp [go_sem]) (by simp [go_sem]) ((((HXM.out).keep (below_new _ _)).keep (below_new _ _)).keep (below_new _ _))
      clear z hmk
      rintro e w6 ⟨rfl, hb6⟩
      have HB6 : Hid (Below w5.heap.size w5 w6) := by
        refine Below.trans ?_ (hb6.mono (by first | (simp; done) | (simp; omega)))
        repeat (first | exact Below.refl _ _ | refine Below.alloc ?_ (by first | (simp; done) | (simp; omega)) _)
      have hw0'' := keep_cell HB6.out hw0'
      have hw1'' := keep_cell HB6.out hw1'
      have hz6 : w3.heap.size < w6.heap.size := by have := HB6.out.size; omega
      clear hb6 hw0' hw1' hl0 hl1
      go_wp2_with fail
      refine (fields_any _ _ _).mono ?_
      rintro e w7 ⟨rfl, hb7⟩
      obtain ⟨hb67, hk0', hk1', hz67⟩ := after_new _ _ hb7
      have HB7 : Hid (Below w6.heap.size w6 w7) := hb67
      clear hb7 hb67 hw0'' hw1''
      go_wp2_with fail
      refine (fields_any _ _ _).mono ?_
      rintro e w8 ⟨rfl, hb8⟩
      have HB8 : Hid (Below w7.heap.size w7 w8) := hb8
      clear hb8 hk0' hk1'
      have z := anyMatch_any cs HF.out cap1 a1 t w8 (((((((HC1.out.keep HB2.out).keep HB3.out).keep HB4.out).keep HB5.out).keep HB6.out).keep HB7.out).keep HB8.out)
      rw [HN.out, ← any_ans t A cs 0, ← pick_isSome, HWW.out] at z
      go_wp2_with fail
      refine z.mono ?_
      clear z
      rintro e w9 ⟨rfl, rfl⟩
      go_wp2
      go_ret
      exact ⟨rfl, kb HB1.out (kb HB2.out (kb HB3.out (kb HB4.out (kb HB5.out (kb HB6.out (kb HB7.out HB8.out))))))⟩
    · have HXM : Hid (AssAt w5 x.1 x.2.1) := HA5.out.ass (List.mem_of_mem_take (pickF_mem t _ x HLf.out))
      have HXG : Hid (x ∈ ansOf A 0 cs) := List.mem_of_mem_take (pickF_mem t _ x HLf.out)
      have HYM : Hid (AssAt w5 y.1 y.2.1) := HA5.out.ass (List.mem_of_mem_drop (pickF_mem t _ y HRf.out))
      have HYG : Hid (y ∈ ansOf A 0 cs) := List.mem_of_mem_drop (pickF_mem t _ y HRf.out)
      have HCW : Hid (pickF t [x, y] = W) := whole_of HWW.out HLf.out HRf.out
      have HGP : Hid (Good [x, y]) := HGD.out.sub (by intro z hz; simp at hz; rcases hz with rfl | rfl; exact HXG.out; exact HYG.out)
      have hmk := make02
      go_wp2_with fail
      have z := fun W6 h => zpick_n t ht0 [x, y] 2 rfl (by decide) HGP.out 2 (some ⟨w5.heap.size + 1, 0, none⟩) W6 h
      unfold PickPost at z
      rw [HCW.out] at z
      refine (z _ ?hc3).mono ?_
      case hc3 => exact ans_two (by simp [go_sem]) (by simp [go_sem]) (by simp [go_sem]) (by simp [go_sem]) (((((HXM.out).keep (below_new _ _)).keep (below_new _ _)).keep (below_new _ _)).keep (below_new _ _)) (((((HYM.out).keep (below_new _ _)).keep (below_new _ _)).keep (below_new _ _)).keep (below_new _ _))
      clear z hmk
      rintro e w6 ⟨rfl, hb6⟩
      have HB6 : Hid (Below w5.heap.size w5 w6) := by
        refine Below.trans ?_ (hb6.mono (by first | (simp; done) | (simp; omega)))
        repeat (first | exact Below.refl _ _ | refine Below.alloc ?_ (by first | (simp; done) | (simp; omega)) _)
      have hw0'' := keep_cell HB6.out hw0'
      have hw1'' := keep_cell HB6.out hw1'
      have hz6 : w3.heap.size < w6.heap.size := by have := HB6.out.size; omega
      clear hb6 hw0' hw1' hl0 hl1
      go_wp2_with fail
      refine (fields_any _ _ _).mono ?_
      rintro e w7 ⟨rfl, hb7⟩
      obtain ⟨hb67, hk0', hk1', hz67⟩ := after_new _ _ hb7
      have HB7 : Hid (Below w6.heap.size w6 w7) := hb67
      clear hb7 hb67 hw0'' hw1''
      go_wp2_with fail
      refine (fields_any _ _ _).mono ?_
      rintro e w8 ⟨rfl, hb8⟩
      have HB8 : Hid (Below w7.heap.size w7 w8) := hb8
      clear hb8 hk0' hk1'
      have z := anyMatch_any cs HF.out cap1 a1 t w8 (((((((HC1.out.keep HB2.out).keep HB3.out).keep HB4.out).keep HB5.out).keep HB6.out).keep HB7.out).keep HB8.out)
      rw [HN.out, ← any_ans t A cs 0, ← pick_isSome, HWW.out] at z
      go_wp2_with fail
      refine z.mono ?_
      clear z
      rintro e w9 ⟨rfl, rfl⟩
      go_wp2
      go_ret
      exact ⟨rfl, kb HB1.out (kb HB2.out (kb HB3.out (kb HB4.out (kb HB5.out (kb HB6.out (kb HB7.out HB8.out))))))⟩
  · obtain rfl : k = N := by omega
    go_wp2_with fail
    have z := clone_any cs HW.out cap a _ HC.out
    rw [HN.out] at z
    refine z.mono ?_
    clear z
    rintro e w1 ⟨a1, cap1, rfl, hc1, hb1⟩
    rw [HN.out]
    have HC1 : Hid (CandsAt w1 a1 cs) := hc1
    have HB1 : Hid (Below w'.heap.size w' w1) := hb1
    clear hc1 hb1
    go_wp2_with fail
    have z := build_any cs HW.out cap1 a1 _ HC1.out
    rw [HN.out] at z
    refine z.mono ?_
    clear z
    rintro e w2 ⟨A, rfl, ha2, hb2⟩
    rw [HN.out]
    have HA2 : Hid (AnsAt w2 (some ⟨A + 1, 0, none⟩) (ansOf A 0 cs)) := ha2
    have HB2 : Hid (Below w1.heap.size w1 w2) := hb2
    clear ha2 hb2
    have HL : Hid ((ansOf A 0 cs).length = k) := (ansOf_length A cs 0).trans HN.out
    have HGD : Hid (Good (ansOf A 0 cs)) := good_ans HW.out HNG.out
    go_wp2_with fail
    refine (zpick_n t ht0 (ansOf A 0 cs) k HL.out (by omega) HGD.out _ _ _ HA2.out).mono ?_
    rintro e w3 ⟨rfl, hb3⟩
    have HB3 : Hid (Below w2.heap.size w2 w3) := hb3
    generalize hW : pickF t (ansOf A 0 cs) = W
    have HWW : Hid (pickF t (ansOf A 0 cs) = W) := hW
    clear hW hb3
    go_wp2_with fail
    refine (zpick_n t ht0 ((ansOf A 0 cs).take k) k (by have := HL.out; simp; omega) (by omega) (HGD.out.sub fun x hx => List.mem_of_mem_take hx) _ _ _ ?hc1).mono ?_
    case hc1 => exact ((HA2.out.keep HB3.out).keep (below_new _ _)).take k
    rintro e w4 ⟨rfl, hb4⟩
    obtain ⟨hb34, hw0, hw1, hz34⟩ := after_new _ _ hb4
    have HB4 : Hid (Below w3.heap.size w3 w4) := hb34
    generalize hLf : pickF t ((ansOf A 0 cs).take k) = Lf
    have HLf : Hid (pickF t ((ansOf A 0 cs).take k) = Lf) := hLf
    clear hLf hb4 hb34
    go_wp2_with fail
    go_must (refine (zpick_n t ht0 ((ansOf A 0 cs).drop k) 0 (by have := HL.out; simp; omega) (by omega) (HGD.out.sub fun x hx => List.mem_of_mem_drop hx) _ _ _ ?hc2).mono ?_)
    case hc2 => exact drop_at (((HA2.out.keep HB3.out).keep HB4.out).keep (below_new _ _)) HL.out _ (Or.inl rfl)
    rintro e w5 ⟨rfl, hb5⟩
    obtain ⟨hb45, hl0, hl1, hz45⟩ := after_new _ _ hb5
    have HB5 : Hid (Below w4.heap.size w4 w5) := hb45
    have hw0' := keep_cell hb45 hw0
    have hw1' := keep_cell hb45 hw1
    generalize hRf : pickF t ((ansOf A 0 cs).drop k) = Rf
    have HRf : Hid (pickF t ((ansOf A 0 cs).drop k) = Rf) := hRf
    clear hRf hb5 hb45 hw0 hw1
    have HA5 : Hid (AnsAt w5 (some ⟨A + 1, 0, none⟩) (ansOf A 0 cs)) := ((HA2.out.keep HB3.out).keep HB4.out).keep HB5.out
    have hps := run_ptr_same (ptrOf W)
    have hpn : ptrOf none = none := rfl
    have hen : expOf none = 0 := rfl
    have hps' : ∀ x : An, ptrOf (some x) = some ⟨x.1.1, x.1.2, none⟩ := fun _ => rfl
    have hes' : ∀ x : An, expOf (some x) = x.2.2 := fun _ => rfl
    rcases Lf with _ | x <;> rcases Rf with _ | y
    · have HCW : Hid (pickF t [] = W) := whole_of HWW.out HLf.out HRf.out
      have HGP : Hid (Good []) := HGD.out.sub (by intro z hz; cases hz)
      have hmk := make02
      go_wp2_with fail
      have z := fun W6 h => zpick_n t ht0 [] 0 rfl (by decide) HGP.out 2 (some ⟨w5.heap.size + 1, 0, none⟩) W6 h
      unfold PickPost at z
      rw [HCW.out] at z
      refine (z _ ?hc3).mono ?_
      case hc3 => exact ans_nil _ _
      clear z hmk
      rintro e w6 ⟨rfl, hb6⟩
      have HB6 : Hid (Below w5.heap.size w5 w6) := by
        refine Below.trans ?_ (hb6.mono (by first | (simp; done) | (simp; omega)))
        repeat (first | exact Below.refl _ _ | refine Below.alloc ?_ (by first | (simp; done) | (simp; omega)) _)
      have hw0'' := keep_cell HB6.out hw0'
      have hw1'' := keep_cell HB6.out hw1'
      have hz6 : w3.heap.size < w6.heap.size := by have := HB6.out.size; omega
      clear hb6 hw0' hw1' hl0 hl1
      go_wp2_with fail
      refine (fields_any _ _ _).mono ?_
      rintro e w7 ⟨rfl, hb7⟩
      obtain ⟨hb67, hk0', hk1', hz67⟩ := after_new _ _ hb7
      have HB7 : Hid (Below w6.heap.size w6 w7) := hb67
      clear hb7 hb67 hw0'' hw1''
      go_wp2_with fail
      refine (fields_any _ _ _).mono ?_
      rintro e w8 ⟨rfl, hb8⟩
      have HB8 : Hid (Below w7.heap.size w7 w8) := hb8
      clear hb8 hk0' hk1'
      have z := anyMatch_any cs HF.out cap1 a1 t w8 (((((((HC1.out.keep HB2.out).keep HB3.out).keep HB4.out).keep HB5.out).keep HB6.out).keep HB7.out).keep HB8.out)
      rw [HN.out, ← any_ans t A cs 0, ← pick_isSome, HWW.out] at z
      go_wp2_with fail
      refine z.mono ?_
      clear z
      rintro e w9 ⟨rfl, rfl⟩
      go_wp2
      go_ret
      exact ⟨rfl, kb HB1.out (kb HB2.out (kb HB3.out (kb HB4.out (kb HB5.out (kb HB6.out (kb HB7.out HB8.out))))))⟩
    · have HYM : Hid (AssAt w5 y.1 y.2.1) := HA5.out.ass (List.mem_of_mem_drop (pickF_mem t _ y HRf.out))
      have HYG : Hid (y ∈ ansOf A 0 cs) := List.mem_of_mem_drop (pickF_mem t _ y HRf.out)
      have HCW : Hid (pickF t [y] = W) := whole_of HWW.out HLf.out HRf.out
      have HGP : Hid (Good [y]) := HGD.out.sub (by intro z hz; simp at hz; subst hz; exact HYG.out)
      have hmk := make02
      go_wp2_with fail
      have z := fun W6 h => zpick_n t ht0 [y] 1 rfl (by decide) HGP.out 2 (some ⟨w5.heap.size + 1, 0, none⟩) W6 h
      unfold PickPost at z
      rw [HCW.out] at z
      refine (z _ ?hc3).mono ?_
      case hc3 => exact ans_one (by simp [go_sem]) (by simp [go_sem]) ((((HYM.out).keep (below_new _ _)).keep (below_new _ _)).keep (below_new _ _))
      clear z hmk
      rintro e w6 ⟨rfl, hb6⟩
      have HB6 : Hid (Below w5.heap.size w5 w6) := by
        refine Below.trans ?_ (hb6.mono (by first | (simp; done) | (simp; omega)))
        repeat (first | exact Below.refl _ _ | refine Below.alloc ?_ (by first | (simp; done) | (simp; omega)) _)
      have hw0'' := keep_cell HB6.out hw0'
      have hw1'' := keep_cell HB6.out hw1'
      have hz6 : w3.heap.size < w6.heap.size := by have := HB6.out.size; omega
      clear hb6 hw0' hw1' hl0 hl1
      go_wp2_with fail
      refine (fields_any _ _ _).mono ?_
      rintro e w7 ⟨rfl, hb7⟩
      obtain ⟨hb67, hk0', hk1', hz67⟩ := after_new _ _ hb7
      have HB7 : Hid (Below w6.heap.size w6 w7) := hb67
      clear hb7 hb67 hw0'' hw1''
      go_wp2_with fail
      refine (fields_any _ _ _).mono ?_
      rintro e w8 ⟨rfl, hb8⟩
      have HB8 : Hid (Below w7.heap.size w7 w8) := hb8
      clear hb8 hk0' hk1'
      have z := anyMatch_any cs HF.out cap1 a1 t w8 (((((((HC1.out.keep HB2.out).keep HB3.out).keep HB4.out).keep HB5.out).keep HB6.out).keep HB7.out).keep HB8.out)
      rw [HN.out, ← any_ans t A cs 0, ← pick_isSome, HWW.out] at z
      go_wp2_with fail
      refine z.mono ?_
      clear z
      rintro e w9 ⟨rfl, rfl⟩
      go_wp2
      go_ret
      exact ⟨rfl, kb HB1.out (kb HB2.out (kb HB3.out (kb HB4.out (kb HB5.out (kb HB6.out (kb HB7.out HB8.out))))))⟩
    · have HXM : Hid (AssAt w5 x.1 x.2.1) := HA5.out.ass (List.mem_of_mem_take (pickF_mem t _ x HLf.out))
      have HXG : Hid (x ∈ ansOf A 0 cs) := List.mem_of_mem_take (pickF_mem t _ x HLf.out)
      have HCW : Hid (pickF t [x] = W) := whole_of HWW.out HLf.out HRf.out
      have HGP : Hid (Good [x]) := HGD.out.sub (by intro z hz; simp at hz; subst hz; exact HXG.out)
      have hmk := make02
      go_wp2_with fail
      have z := fun W6 h => zpick_n t ht0 [x] 1 rfl (by decide) HGP.out 2 (some ⟨w5.heap.size + 1, 0, none⟩) W6 h
      unfold PickPost at z
      rw [HCW.out] at z
      refine (z _ ?hc3).mono ?_
      case hc3 => exact ans_one (by simp [go_sem]) (by simp [go_sem]) ((((HXM.out).keep (below_new _ _)).keep (below_new _ _)).keep (below_new _ _))
      clear z hmk
      rintro e w6 ⟨rfl, hb6⟩
      have HB6 : Hid (Below w5.heap.size w5 w6) := by
        refine Below.trans ?_ (hb6.mono (by first | (simp; done) | (simp; omega)))
        repeat (first | exact Below.refl _ _ | refine Below.alloc ?_ (by first | (simp; done) | (simp; omega)) _)
      have hw0'' := keep_cell HB6.out hw0'
      have hw1'' := keep_cell HB6.out hw1'
      have hz6 : w3.heap.size < w6.heap.size := by have := HB6.out.size; omega
      clear hb6 hw0' hw1' hl0 hl1
      go_wp2_with fail
      refine (fields_any _ _ _).mono ?_
      rintro e w7 ⟨rfl, hb7⟩
      obtain ⟨hb67, hk0', hk1', hz67⟩ := after_new _ _ hb7
      have HB7 : Hid (Below w6.heap.size w6 w7) := hb67
      clear hb7 hb67 hw0'' hw1''
      go_wp2_with fail
      refine (fields_any _ _ _).mono ?_
      rintro e w8 ⟨rfl, hb8⟩
      have HB8 : Hid (Below w7.heap.size w7 w8) := hb8
      clear hb8 hk0' hk1'
      have z := anyMatch_any cs HF.out cap1 a1 t w8 (((((((HC1.out.keep HB2.out).keep HB3.out).keep HB4.out).keep HB5.out).keep HB6.out).keep HB7.out).keep HB8.out)
      rw [HN.out, ← any_ans t A cs 0, ← pick_isSome, HWW.out] at z
      go_wp2_with fail
      refine z.mono ?_
      clear z
      rintro e w9 ⟨rfl, rfl⟩
      go_wp2
      go_ret
      exact ⟨rfl, kb HB1.out (kb HB2.out (kb HB3.out (kb HB4.out (kb HB5.out (kb HB6.out (kb HB7.out HB8.out))))))⟩
    · have HXM : Hid (AssAt w5 x.1 x.2.1) := HA5.out.ass (List.mem_of_mem_take (pickF_mem t _ x HLf.out))
      have HXG : Hid (x ∈ ansOf A 0 cs) := List.mem_of_mem_take (pickF_mem t _ x HLf.out)
      have HYM : Hid (AssAt w5 y.1 y.2.1) := HA5.out.ass (List.mem_of_mem_drop (pickF_mem t _ y HRf.out))
      have HYG : Hid (y ∈ ansOf A 0 cs) := List.mem_of_mem_drop (pickF_mem t _ y HRf.out)
      have HCW : Hid (pickF t [x, y] = W) := whole_of HWW.out HLf.out HRf.out
      have HGP : Hid (Good [x, y]) := HGD.out.sub (by intro z hz; simp at hz; rcases hz with rfl | rfl; exact HXG.out; exact HYG.out)
      have hmk := make02
      go_wp2_with fail
      have z := fun W6 h => zpick_n t ht0 [x, y] 2 rfl (by decide) HGP.out 2 (some ⟨w5.heap.size + 1, 0, none⟩) W6 h
      unfold PickPost at z
      rw [HCW.out] at z
      refine (z _ ?hc3).mono ?_
      case hc3 => exact ans_two (by simp [go_sem]) (by simp [go_sem]) (by simp [go_sem]) (by simp [go_sem]) (((((HXM.out).keep (below_new _ _)).keep (below_new _ _)).keep (below_new _ _)).keep (below_new _ _)) (((((HYM.out).keep (below_new _ _)).keep (below_new _ _)).keep (below_new _ _)).keep (below_new _ _))
      clear z hmk
      rintro e w6 ⟨rfl, hb6⟩
      have HB6 : Hid (Below w5.heap.size w5 w6) := by
        refine Below.trans ?_ (hb6.mono (by first | (simp; done) | (simp; omega)))
        repeat (first | exact Below.refl _ _ | refine Below.alloc ?_ (by first | (simp; done) | (simp; omega)) _)
      have hw0'' := keep_cell HB6.out hw0'
      have hw1'' := keep_cell HB6.out hw1'
      have hz6 : w3.heap.size < w6.heap.size := by have := HB6.out.size; omega
      clear hb6 hw0' hw1' hl0 hl1
      go_wp2_with fail
      refine (fields_any _ _ _).mono ?_
      rintro e w7 ⟨rfl, hb7⟩
      obtain ⟨hb67, hk0', hk1', hz67⟩ := after_new _ _ hb7
      have HB7 : Hid (Below w6.heap.size w6 w7) := hb67
      clear hb7 hb67 hw0'' hw1''
      go_wp2_with fail
      refine (fields_any _ _ _).mono ?_
      rintro e w8 ⟨rfl, hb8⟩
      have HB8 : Hid (Below w7.heap.size w7 w8) := hb8
      clear hb8 hk0' hk1'
      have z := anyMatch_any cs HF.out cap1 a1 t w8 (((((((HC1.out.keep HB2.out).keep HB3.out).keep HB4.out).keep HB5.out).keep HB6.out).keep HB7.out).keep HB8.out)
      rw [HN.out, ← any_ans t A cs 0, ← pick_isSome, HWW.out] at z
      go_wp2_with fail
      refine z.mono ?_
      clear z
      rintro e w9 ⟨rfl, rfl⟩
      go_wp2
      go_ret
      exact ⟨rfl, kb HB1.out (kb HB2.out (kb HB3.out (kb HB4.out (kb HB5.out (kb HB6.out (kb HB7.out HB8.out))))))⟩
end Go.Proofs.Qxb6603497a.pick

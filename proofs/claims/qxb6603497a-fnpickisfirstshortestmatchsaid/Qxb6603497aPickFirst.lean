import Derived.Test.Qxb6603497aPickSplit
import Derived.Test.Qxb6603497aPickModelWalk
namespace Go.Proofs.Qxb6603497a.pick
open Go.ChangeShapes Go.WideShapes Go.ChangeAt Go.RowKit

/-! ### The first of the shortest is what pick takes -/
theorem pick_at (t : Int) (l : List An) (i : Nat) (hi : i < l.length) (hh : hasT t l[i].2.1 = true)
    (h1 : ∀ j (h : j < l.length), hasT t l[j].2.1 = true → ¬ lt l[j] l[i] = true) (h2 : ∀ j (h : j < l.length), j < i → hasT t l[j].2.1 = true → lt l[i] l[j] = true) : pickF t l = some l[i] := by
  have e : l = l.take i ++ l[i] :: l.drop (i + 1) := by
    rw [List.getElem_cons_drop, List.take_append_drop]
  have ep : pickF t l = better (pickF t (l.take i)) (better (some l[i]) (pickF t (l.drop (i + 1)))) := by
    have : pickF t l = pickF t (l.take i ++ l[i] :: l.drop (i + 1)) := by rw [← e]
    rw [this]
    unfold pickF
    rw [List.foldl_append, fold_better, List.foldl_cons, fold_better t (l.drop (i + 1)), step_yes_none t _ hh]
  have e2 : better (some l[i]) (pickF t (l.drop (i + 1))) = some l[i] := by
    cases hr : pickF t (l.drop (i + 1)) with
    | none => rfl
    | some y =>
      have hy := fold_has t _ y hr
      have hm := List.mem_of_mem_drop (pickF_mem t _ y hr)
      obtain ⟨j, hj, rfl⟩ := List.getElem_of_mem hm
      have := h1 j hj hy
      simp [better, this]
  rw [ep, e2]
  cases hr : pickF t (l.take i) with
  | none => rfl
  | some y =>
    have hy := fold_has t _ y hr
    have hm := pickF_mem t _ y hr
    obtain ⟨j, hj, rfl⟩ := List.getElem_of_mem hm
    simp only [List.getElem_take] at hy ⊢
    have hj' : j < i ∧ j < l.length := by simp at hj; omega
    have := h2 j hj'.2 hj'.1 hy
    simp [better, this]

theorem pick_first {t : Int} {cs : List Cd} {i : Nat} {hi : i < cs.length} (A : Nat) (h : First t cs i hi) : pickF t (ansOf A 0 cs) = some ((A, i * 12), cs[i].1, cs[i].2) := by
  obtain ⟨h0, h1, h2⟩ := h
  have hi' : i < (ansOf A 0 cs).length := by rw [ansOf_length]; exact hi
  have eg : ∀ j (hj : j < cs.length), (ansOf A 0 cs)[j]'(by rw [ansOf_length]; exact hj) = ((A, j * 12), cs[j].1, cs[j].2) := fun j hj => by
    rw [ansOf_get A cs 0 j hj, Nat.zero_add]
  have := pick_at t (ansOf A 0 cs) i hi' (by rw [eg i hi]; exact h0)
    (fun j hj hh => by
      have hj' : j < cs.length := by rw [ansOf_length] at hj; exact hj
      rw [eg j hj'] at hh ⊢
      rw [eg i hi, lt_iff]
      have := h1 j hj' hh
      simp only
      omega)
    (fun j hj hji hh => by
      have hj' : j < cs.length := by rw [ansOf_length] at hj; exact hj
      rw [eg j hj'] at hh ⊢
      rw [eg i hi, lt_iff]
      have := h2 j hj' hji hh
      simp only
      omega)
  rw [this, eg i hi]

theorem pick_none {t : Int} {cs : List Cd} (A : Nat) (h : ∀ j (h : j < cs.length), hasT t cs[j].1 = false) : pickF t (ansOf A 0 cs) = none := by
  have : (pickF t (ansOf A 0 cs)).isSome = false := by
    rw [pick_isSome, any_ans, List.any_eq_false]
    intro c hc
    obtain ⟨j, hj, rfl⟩ := List.getElem_of_mem hc
    simp [h j hj]
  cases hp : pickF t (ansOf A 0 cs) with
  | none => rfl
  | some x => rw [hp] at this; cases this

set_option maxHeartbeats 4000000 in
theorem first_walk (t : Int) (cs : List Cd) (N : Nat) (hN : cs.length = N) (hf : Fit cs) (cap : Nat) (a : Option Addr) (w : World) (hc : CandsAt w a cs) :
    Calls Try.prog 5 #[.int .i64 t, .slice a N cap] w fun e w' => LawPost w e w' := by
  have HF : Hid (Fit cs) := hf
  have HC : Hid (CandsAt w a cs) := hc
  have hl : N ≤ maxLen := by rw [← hN]; exact hf.1
  have HN : Hid (cs.length = N) := hN
  unfold maxLen at hl
  clear hf hc hN
  go_enter Try.func5, Try.ntmps5
  go_wp2_with fail
  have z := zz10_any cs HF.out cap a t w HC.out
  rw [HN.out] at z
  refine z.mono ?_
  clear z
  rintro e w' ⟨⟨b, rfl⟩, rfl⟩
  cases b
  · go_wp2
    go_ret
    exact ⟨rfl, Below.refl _ _⟩
  by_cases h16 : 65536 < N
  · go_wp2
    go_ret
    exact ⟨rfl, Below.refl _ _⟩
  go_wp2_with fail
  have z := bytes_any cs HF.out (by have := HN.out; omega) cap a _ HC.out
  rw [HN.out] at z
  refine z.mono ?_
  clear z
  rintro e w' ⟨⟨n, rfl, hn⟩, rfl⟩
  by_cases hbig : 1048576 < n
  · clear hn
    go_wp2
    go_ret
    exact ⟨rfl, Below.refl _ _⟩
  have HW : Hid (wgt cs ≤ 1048576) := hn (by omega)
  clear hn
  by_cases ht : t < 0
  · go_wp2
    go_ret
    exact ⟨rfl, Below.refl _ _⟩
  go_wp2_with fail
  have z := neg_any cs HF.out cap a _ HC.out
  rw [HN.out] at z
  refine z.mono ?_
  clear z
  rintro e w' ⟨⟨b, rfl, hneg⟩, rfl⟩
  cases b
  case true =>
    clear hneg
    go_wp2
    go_ret
    exact ⟨rfl, Below.refl _ _⟩
  have HNG : Hid (∀ c ∈ cs, ∀ o ∈ c.1, 0 ≤ o.1) := hneg rfl
  clear hneg
  have ht0 : 0 ≤ t := by omega
  clear ht
  go_wp2_with fail
  have z := clone_any cs HW.out cap a _ HC.out
  rw [HN.out] at z
  refine z.mono ?_
  clear z
  rintro e w1 ⟨a1, cap1, rfl, hc1, hb1⟩
  rw [HN.out]
  have HC1 : Hid (CandsAt w1 a1 cs) := hc1
  have HB1 : Hid (Below w'.heap.size w' w1) := hb1
  clear hc1 hb1
  go_wp2_with fail
  have z := build_any cs HW.out cap1 a1 _ HC1.out
  rw [HN.out] at z
  refine z.mono ?_
  clear z
  rintro e w2 ⟨A, rfl, ha2, hb2⟩
  rw [HN.out]
  have HA2 : Hid (AnsAt w2 (some ⟨A + 1, 0, none⟩) (ansOf A 0 cs)) := ha2
  have HB2 : Hid (Below w1.heap.size w1 w2) := hb2
  clear ha2 hb2
  have HL : Hid ((ansOf A 0 cs).length = N) := (ansOf_length A cs 0).trans HN.out
  have HGD : Hid (Good (ansOf A 0 cs)) := good_ans HW.out HNG.out
  go_wp2_with fail
  refine (zpick_n t ht0 (ansOf A 0 cs) N HL.out (by omega) HGD.out _ _ _ HA2.out).mono ?_
  rintro e w3 ⟨rfl, hb3⟩
  have HB3 : Hid (Below w2.heap.size w2 w3) := hb3
  generalize hW : pickF t (ansOf A 0 cs) = W
  have HWW : Hid (pickF t (ansOf A 0 cs) = W) := hW
  clear hW hb3
  go_wp2_with fail
  refine (fields_any _ _ _).mono ?_
  rintro e w4 ⟨rfl, hb4⟩
  obtain ⟨hb34, _, _, hz34⟩ := after_new _ _ hb4
  have HB4 : Hid (Below w3.heap.size w3 w4) := hb34
  clear hb4 hb34
  have hcm := ((HC1.out.keep HB2.out).keep HB3.out).keep HB4.out
  have HCM : Hid (CandsAt w4 a1 cs) := hcm
  have z := model_any t cs HW.out cap1 a1 w4 hcm
  rw [HN.out] at z
  clear hcm
  go_wp2_with fail
  refine z.mono ?_
  clear z
  rintro e w5 ⟨hm, rfl⟩
  rcases hm with ⟨rfl, hm⟩ | ⟨i, hi, rfl, hm⟩
  · have hWn : W = none := by rw [← HWW.out]; exact pick_none A hm
    subst hWn
    clear hm
    have hpn : ptrOf none = none := rfl
    have hen : expOf none = 0 := rfl
    go_wp2
    go_ret
    exact ⟨rfl, kb HB1.out (kb HB2.out (kb HB3.out HB4.out))⟩
  · have hWs : W = some ((A, i * 12), cs[i].1, cs[i].2) := by rw [← HWW.out]; exact pick_first A hm
    subst hWs
    clear hm
    obtain ⟨b, off, oa, oc, rfl, _, hcell1, _⟩ := HCM.out i hi
    have hiN : i < N := by have := HN.out; omega
    have hps := run_ptr_same (some ⟨A, i * 12, none⟩)
    have hpn : ptrOf (some ((A, i * 12), cs[i].1, cs[i].2)) = some ⟨A, i * 12, none⟩ := rfl
    have hen : expOf (some ((A, i * 12), cs[i].1, cs[i].2)) = cs[i].2 := rfl
    go_wp2
    go_ret
    exact ⟨rfl, kb HB1.out (kb HB2.out (kb HB3.out HB4.out))⟩
end Go.Proofs.Qxb6603497a.pick

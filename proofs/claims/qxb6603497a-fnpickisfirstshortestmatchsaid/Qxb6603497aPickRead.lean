import Derived.Test.Qxb6603497aRows
import Derived.Test.Qxb6603497aPickDefs
import Derived.WalkKit
import Derived.WalkSpells
import Derived.Deep.LoopGhost
import Derived.ProofKit
import Derived.OpenShut
namespace Go.Proofs.Qxb6603497a.pick
open Go.ChangeShapes Go.WideShapes Go.ChangeAt Go.RowKit

theorem ret_bool {a b : Bool} (h : a = b) : Ending.returned (.bool a) = .returned (.bool b) := by rw [h]
theorem ret_int {k : IntKind} {a b : Int} (h : a = b) : Ending.returned (.int k a) = .returned (.int k b) := by rw [h]

theorem hasT_true {t : Int} {os : List Ob} (ht : t < 32) (k : Nat) (h : k < os.length) (e : (os[k].1 == t) = true) : hasT t os = true := by
  simp only [hasT, Bool.and_eq_true, decide_eq_true_eq, List.any_eq_true]
  exact ⟨ht, os[k], List.getElem_mem h, e⟩
theorem hasT_false {t : Int} {os : List Ob} (h : ∀ j (h : j < os.length), (os[j].1 == t) = false) : hasT t os = false := by
  have : os.any (fun o => o.1 == t) = false := by
    rw [List.any_eq_false]
    intro o ho
    obtain ⟨j, hj, rfl⟩ := List.getElem_of_mem ho
    simp [h j hj]
  simp [hasT, this]

/-- pickHas. -/
theorem has_any (os : List Ob) (hn : os.length ≤ maxLen) (cap : Nat) (a : Option Addr) (t : Int) (w : World) (hc : ObjsAt w a os) :
    Calls Try.prog 26 #[.slice a os.length cap, .int .i64 t] w fun e w' => e = .returned (.bool (hasT t os)) ∧ w' = w := by
  unfold maxLen at hn
  by_cases ht : 32 ≤ t
  · go_enter Try.func26, Try.ntmps26
    go_wp2
    go_ret
    exact ⟨ret_bool (by simp [hasT]; intro h; omega), rfl⟩
  · have Hc : Hid (ObjsAt w a os) := hc
    clear hc
    generalize hn' : os.length = n at hn
    have HN : Hid (os.length = n) := hn'
    clear hn'
    go_enter Try.func26, Try.ntmps26
    go_wp2
    go_loop [5] (fun i => ∃ k : Nat, k ≤ n ∧ i = .int .i64 k ∧ ∀ j (h : j < os.length), j < k → (os[j].1 == t) = false) (fun i => n - (intOf i).toNat)
    case atStart => exact ⟨0, Nat.zero_le _, rfl, fun j _ hj => by omega⟩
    case round =>
      obtain ⟨k, hk, rfl, hno⟩ := hrel
      have Hno : Hid (∀ j (h : j < os.length), j < k → (os[j].1 == t) = false) := hno
      clear hno
      by_cases hlt : k < n
      · have hk' : k < os.length := by have := HN.out; omega
        obtain ⟨b, off, rfl, hcell, _⟩ := Hc.out k hk'
        by_cases he : (os[k].1 == t) = true
        · go_wp2
          go_ret
          exact ⟨ret_bool (hasT_true (by omega) k hk' he).symm, rfl⟩
        · have he' : (os[k].1 == t) = false := by simpa using he
          clear he
          go_wp2
          go_round
          case rel =>
            refine ⟨k + 1, by omega, by go_num, fun j hj hlt' => ?_⟩
            by_cases e : j = k
            · subst e; exact he'
            · exact Hno.out j hj (by omega)
          case measure => simp [intOf]; omega
      · go_wp2
        go_ret
        exact ⟨ret_bool (hasT_false fun j hj => Hno.out j hj (by have := HN.out; omega)).symm, rfl⟩

/-- pickValueBytes. -/
theorem lvb_any (os : List Ob) (hn : os.length ≤ maxLen) (hv : vbs os ≤ 1048576) (cap : Nat) (a : Option Addr) (w : World) (hc : ObjsAt w a os) :
    Calls Try.prog 27 #[.slice a os.length cap] w fun e w' => e = .returned (.int .i64 (vbs os)) ∧ w' = w := by
  unfold maxLen at hn
  have Hc : Hid (ObjsAt w a os) := hc
  clear hc
  generalize hn' : os.length = n at hn
  have HN : Hid (os.length = n) := hn'
  clear hn'
  go_enter Try.func27, Try.ntmps27
  go_wp2
  go_loop [3, 4] (fun s i => ∃ k : Nat, k ≤ n ∧ i = .int .i64 k ∧ s = .int .i64 (vbs (os.take k))) (fun _ i => n - (intOf i).toNat)
  case atStart => exact ⟨0, Nat.zero_le _, rfl, rfl⟩
  case round =>
    obtain ⟨k, hk, rfl, rfl⟩ := hrel
    by_cases hlt : k < n
    · have hk' : k < os.length := by have := HN.out; omega
      obtain ⟨b, off, rfl, _, hcell⟩ := Hc.out k hk'
      have hs := vbs_take_succ os k hk'
      have hle := vbs_take_le os (k + 1)
      have hle2 := vbs_take_le os k
      have hz : os[k].2.size ≤ 1048576 := by omega
      have HS : Hid (vbs (os.take (k + 1)) = vbs (os.take k) + os[k].2.size) := hs
      clear hs hle
      go_wp2
      go_round
      case rel => exact ⟨k + 1, by omega, by go_num, by rw [HS.out]; go_num⟩
      case measure => simp [intOf]; omega
    · go_wp2
      go_ret
      exact ⟨ret_int (by rw [List.take_of_length_le (by have := HN.out; omega)]), rfl⟩

/-- pickAnyMatch. -/
theorem anyMatch_any (cs : List Cd) (hf : Fit cs) (cap : Nat) (a : Option Addr) (t : Int) (w : World) (hc : CandsAt w a cs) :
    Calls Try.prog 19 #[.int .i64 t, .slice a cs.length cap] w fun e w' => e = .returned (.bool (cs.any fun c => hasT t c.1)) ∧ w' = w := by
  have hn := hf.1
  have HF : Hid (Fit cs) := hf
  clear hf
  unfold maxLen at hn
  have Hc : Hid (CandsAt w a cs) := hc
  clear hc
  generalize hn' : cs.length = n at hn
  have HN : Hid (cs.length = n) := hn'
  clear hn'
  go_enter Try.func19, Try.ntmps19
  go_wp2
  go_loop [5] (fun i => ∃ k : Nat, k ≤ n ∧ i = .int .i64 k ∧ ∀ j (h : j < cs.length), j < k → hasT t cs[j].1 = false) (fun i => n - (intOf i).toNat)
  case atStart => exact ⟨0, Nat.zero_le _, rfl, fun j _ hj => by omega⟩
  case round =>
    obtain ⟨k, hk, rfl, hno⟩ := hrel
    have Hno : Hid (∀ j (h : j < cs.length), j < k → hasT t cs[j].1 = false) := hno
    clear hno
    by_cases hlt : k < n
    · have hk' : k < cs.length := by have := HN.out; omega
      obtain ⟨b, off, oa, oc, rfl, hcell, _, hob⟩ := Hc.out k hk'
      have Hob : Hid (ObjsAt w oa cs[k].1) := hob
      clear hob
      have hlen := (HF.out.2 cs[k] (List.getElem_mem hk')).1
      cases he : hasT t cs[k].1
      · have he' := he
        have HE : Hid (hasT t cs[k].1 = false) := he
        clear he he'
        go_wp2_with (go_at_call 26; refine (has_any _ hlen _ _ _ _ Hob.out).mono ?_; rw [HE.out]; rintro e w' ⟨rfl, rfl⟩)
        go_round
        case rel =>
          refine ⟨k + 1, by omega, by go_num, fun j hj hlt' => ?_⟩
          by_cases e : j = k
          · subst e; exact HE.out
          · exact Hno.out j hj (by omega)
        case measure => simp [intOf]; omega
      · have HE : Hid (hasT t cs[k].1 = true) := he
        clear he
        go_wp2_with (go_at_call 26; refine (has_any _ hlen _ _ _ _ Hob.out).mono ?_; rw [HE.out]; rintro e w' ⟨rfl, rfl⟩)
        go_ret
        exact ⟨ret_bool (List.any_eq_true.2 ⟨_, List.getElem_mem hk', HE.out⟩).symm, rfl⟩
    · go_wp2
      go_ret
      refine ⟨ret_bool (Eq.symm (List.any_eq_false.2 fun c hc => ?_)), rfl⟩
      obtain ⟨j, hj, rfl⟩ := List.getElem_of_mem hc
      simp [Hno.out j hj (by have := HN.out; omega)]
end Go.Proofs.Qxb6603497a.pick

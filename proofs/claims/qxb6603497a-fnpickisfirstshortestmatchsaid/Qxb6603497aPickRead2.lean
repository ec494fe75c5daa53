import Derived.Test.Qxb6603497aPickRead
namespace Go.Proofs.Qxb6603497a.pick
open Go.ChangeShapes Go.WideShapes Go.ChangeAt Go.RowKit

/-- What pickNegType hands back: a bool that, where it says no, says that no type code is negative. -/
def NegPost (cs : List Cd) (e : Ending) : Prop := ∃ b, e = .returned (.bool b) ∧ (b = false → ∀ c ∈ cs, ∀ o ∈ c.1, 0 ≤ o.1)

/-- pickNegType. -/
theorem neg_any (cs : List Cd) (hf : Fit cs) (cap : Nat) (a : Option Addr) (w : World) (hc : CandsAt w a cs) :
    Calls Try.prog 12 #[.slice a cs.length cap] w fun e w' => NegPost cs e ∧ w' = w := by
  have hn := hf.1
  have HF : Hid (Fit cs) := hf
  clear hf
  unfold maxLen at hn
  have Hc : Hid (CandsAt w a cs) := hc
  clear hc
  generalize hn' : cs.length = n at hn
  have HN : Hid (cs.length = n) := hn'
  clear hn'
  go_enter Try.func12, Try.ntmps12
  go_wp2
  go_loop [3] (fun i => ∃ k : Nat, k ≤ n ∧ i = .int .i64 k ∧ ∀ j (h : j < cs.length), j < k → ∀ o ∈ cs[j].1, 0 ≤ o.1) (fun i => n - (intOf i).toNat)
  case atStart => exact ⟨0, Nat.zero_le _, rfl, fun j _ hj => by omega⟩
  case round =>
    obtain ⟨k, hk, rfl, hno⟩ := hrel
    have Hno : Hid (∀ j (h : j < cs.length), j < k → ∀ o ∈ cs[j].1, 0 ≤ o.1) := hno
    clear hno
    by_cases hlt : k < n
    · have hk' : k < cs.length := by have := HN.out; omega
      obtain ⟨b, off, oa, oc, rfl, hcell, _, hob⟩ := Hc.out k hk'
      have Hob : Hid (ObjsAt w oa cs[k].1) := hob
      clear hob
      have hlen := (HF.out.2 cs[k] (List.getElem_mem hk')).1
      unfold maxLen at hlen
      generalize hos : cs[k].1 = os at *
      have HOS : Hid (cs[k].1 = os) := hos
      clear hos
      generalize hm : os.length = m at *
      have HM : Hid (os.length = m) := hm
      clear hm
      go_wp2
      go_loop [5] (fun i => ∃ q : Nat, q ≤ m ∧ i = .int .i64 q ∧ ∀ j (h : j < os.length), j < q → 0 ≤ os[j].1) (fun i => m - (intOf i).toNat)
      case atStart => exact ⟨0, Nat.zero_le _, rfl, fun j _ hj => by omega⟩
      case round =>
        obtain ⟨q, hq, rfl, hno⟩ := hrel
        have Hno2 : Hid (∀ j (h : j < os.length), j < q → 0 ≤ os[j].1) := hno
        clear hno
        by_cases hlt2 : q < m
        · have hq' : q < os.length := by have := HM.out; omega
          obtain ⟨b2, off2, rfl, hcell2, _⟩ := Hob.out q hq'
          by_cases hneg : os[q].1 < 0
          · go_wp2
            go_ret
            exact ⟨⟨true, rfl, fun h => by cases h⟩, rfl⟩
          · go_wp2
            go_round
            case rel =>
              refine ⟨q + 1, by omega, by go_num, fun j hj hlt' => ?_⟩
              by_cases e : j = q
              · subst e; omega
              · exact Hno2.out j hj (by omega)
            case measure => simp [intOf]; omega
        · go_wp2
          go_round
          case rel =>
            refine ⟨k + 1, by omega, by go_num, fun j hj hlt' o ho => ?_⟩
            by_cases e : j = k
            · subst e
              rw [HOS.out] at ho
              obtain ⟨x, hx, rfl⟩ := List.getElem_of_mem ho
              exact Hno2.out x hx (by have := HM.out; omega)
            · exact Hno.out j hj (by omega) o ho
          case measure => simp [intOf]; omega
    · go_wp2
      go_ret
      refine ⟨⟨false, rfl, fun _ c hc o ho => ?_⟩, rfl⟩
      obtain ⟨j, hj, rfl⟩ := List.getElem_of_mem hc
      exact Hno.out j hj (by have := HN.out; omega) o ho

def pw : List Cd → Nat
  | [] => 0
  | c :: cs => 24 * c.1.length + vbs c.1 + pw cs
theorem wgt_pw (cs : List Cd) : wgt cs = 32 * cs.length + pw cs := by
  induction cs with
  | nil => rfl
  | cons c cs ih => simp only [wgt, pw, List.length_cons, ih]; omega
theorem pw_append (a b : List Cd) : pw (a ++ b) = pw a + pw b := by
  induction a with
  | nil => simp [pw]
  | cons o a ih => simp [pw, ih]; omega
theorem pw_take_succ (cs : List Cd) (k : Nat) (h : k < cs.length) : pw (cs.take (k + 1)) = pw (cs.take k) + (24 * cs[k].1.length + vbs cs[k].1) := by
  rw [List.take_succ_eq_append_getElem h, pw_append]; simp [pw]

/-- What pickBytes hands back: a number that, where it is small, says that the weight is. -/
def BytesPost (cs : List Cd) (e : Ending) : Prop := ∃ n : Int, e = .returned (.int .i64 n) ∧ (n ≤ 1048576 → wgt cs ≤ 1048576)

set_option maxHeartbeats 1000000 in
/-- pickBytes. -/
theorem bytes_any (cs : List Cd) (hf : Fit cs) (h16 : cs.length ≤ 65536) (cap : Nat) (a : Option Addr) (w : World) (hc : CandsAt w a cs) :
    Calls Try.prog 11 #[.slice a cs.length cap] w fun e w' => BytesPost cs e ∧ w' = w := by
  have HF : Hid (Fit cs) := hf
  clear hf
  have Hc : Hid (CandsAt w a cs) := hc
  clear hc
  generalize hn' : cs.length = n at h16
  have HN : Hid (cs.length = n) := hn'
  clear hn'
  go_enter Try.func11, Try.ntmps11
  go_wp2
  go_loop [3, 4] (fun s i => ∃ k c : Nat, k ≤ n ∧ i = .int .i64 k ∧ s = .int .i64 c ∧ c ≤ 2097152 ∧ c = 32 * n + pw (cs.take k)) (fun _ i => n - (intOf i).toNat)
  case atStart => exact ⟨0, 32 * n, Nat.zero_le _, rfl, by go_num, by omega, by simp [pw]⟩
  case round =>
    obtain ⟨k, c, hk, rfl, rfl, hcl, hce⟩ := hrel
    have HCE : Hid (c = 32 * n + pw (cs.take k)) := hce
    clear hce
    by_cases hlt : k < n
    · have hk' : k < cs.length := by have := HN.out; omega
      obtain ⟨b, off, oa, oc, rfl, hcell, _, hob⟩ := Hc.out k hk'
      have Hob : Hid (ObjsAt w oa cs[k].1) := hob
      clear hob
      have hlen := (HF.out.2 cs[k] (List.getElem_mem hk')).1
      have hsz := (HF.out.2 cs[k] (List.getElem_mem hk')).2
      have HPW : Hid (pw (cs.take (k + 1)) = pw (cs.take k) + (24 * cs[k].1.length + vbs cs[k].1)) := pw_take_succ cs k hk'
      unfold maxLen at hlen
      generalize hos : cs[k].1 = os at *
      have HSZ : Hid (∀ o ∈ os, o.2.size ≤ maxLen) := hsz
      clear hos hsz
      generalize hm : os.length = m at *
      have HM : Hid (os.length = m) := hm
      clear hm
      by_cases hbig : 1048576 < m
      · go_wp2
        go_ret
        exact ⟨⟨_, rfl, fun h => by omega⟩, rfl⟩
      by_cases hbig2 : 1048576 < c + 24 * m
      · go_wp2
        go_ret
        exact ⟨⟨_, rfl, fun h => by omega⟩, rfl⟩
      go_wp2
      go_loop [3, 6] (fun s i => ∃ q d : Nat, q ≤ m ∧ i = .int .i64 q ∧ s = .int .i64 d ∧ d ≤ 1048576 ∧ d = c + 24 * m + vbs (os.take q)) (fun _ i => m - (intOf i).toNat)
      case atStart => exact ⟨0, c + 24 * m, Nat.zero_le _, rfl, by go_num, by omega, by simp [vbs]⟩
      case round =>
        obtain ⟨q, d, hq, rfl, rfl, hdl, hde⟩ := hrel
        have HDE : Hid (d = c + 24 * m + vbs (os.take q)) := hde
        clear hde
        by_cases hlt2 : q < m
        · have hq' : q < os.length := by have := HM.out; omega
          obtain ⟨b2, off2, rfl, _, hcell2⟩ := Hob.out q hq'
          have hz := HSZ.out os[q] (List.getElem_mem hq')
          unfold maxLen at hz
          have HVB : Hid (vbs (os.take (q + 1)) = vbs (os.take q) + os[q].2.size) := vbs_take_succ os q hq'
          by_cases hb1 : 1048576 < os[q].2.size
          · go_wp2
            go_ret
            exact ⟨⟨_, rfl, fun h => by omega⟩, rfl⟩
          by_cases hb2 : 1048576 < d + os[q].2.size
          · go_wp2
            go_ret
            exact ⟨⟨_, rfl, fun h => by omega⟩, rfl⟩
          go_wp2
          go_round
          case rel => exact ⟨q + 1, d + os[q].2.size, by omega, by go_num, by go_num, by omega, by rw [HVB.out, HDE.out]; omega⟩
          case measure => simp [intOf]; omega
        · go_wp2
          go_round
          case rel =>
            refine ⟨k + 1, d, by omega, by go_num, rfl, by omega, ?_⟩
            have e1 := HPW.out
            have e2 := HDE.out
            have e3 := HCE.out
            have e4 := HM.out
            rw [List.take_of_length_le (by omega)] at e2
            omega
          case measure => simp [intOf]; omega
    · go_wp2
      go_ret
      refine ⟨⟨_, rfl, fun h => ?_⟩, rfl⟩
      have e1 := HCE.out
      have e2 := HN.out
      rw [List.take_of_length_le (by omega)] at e1
      rw [wgt_pw]
      have h' : (c : Int) ≤ 1048576 := h
      omega

/-- What zzBytes hands back: some bool. -/
def BoolPost (e : Ending) : Prop := ∃ b, e = .returned (.bool b)

set_option maxHeartbeats 1000000 in
/-- zzBytes_FnPickSplitsOverParts. -/
theorem zz_any (cs : List Cd) (hf : Fit cs) (cap : Nat) (a : Option Addr) (t0 t2 : Int) (w : World) (hc : CandsAt w a cs) :
    Calls Try.prog 18 #[.int .i64 t0, .slice a cs.length cap, .int .i64 t2] w fun e w' => BoolPost e ∧ w' = w := by
  have hn := hf.1
  have HF : Hid (Fit cs) := hf
  clear hf
  unfold maxLen at hn
  have Hc : Hid (CandsAt w a cs) := hc
  clear hc
  generalize hn' : cs.length = n at hn
  have HN : Hid (cs.length = n) := hn'
  clear hn'
  by_cases hb0 : 1048576 < n
  · go_enter Try.func18, Try.ntmps18
    go_wp2
    go_ret
    exact ⟨⟨_, rfl⟩, rfl⟩
  go_enter Try.func18, Try.ntmps18
  go_wp2
  go_loop [7, 8] (fun s i => ∃ k c : Nat, k ≤ n ∧ i = .int .i64 k ∧ s = .int .i64 c ∧ c ≤ 1048576) (fun _ i => n - (intOf i).toNat)
  case atStart => exact ⟨0, n, Nat.zero_le _, rfl, by go_num, by omega⟩
  case round =>
    obtain ⟨k, c, hk, rfl, rfl, hcl⟩ := hrel
    by_cases hlt : k < n
    · have hk' : k < cs.length := by have := HN.out; omega
      obtain ⟨b, off, oa, oc, rfl, hcell, _, hob⟩ := Hc.out k hk'
      have Hob : Hid (ObjsAt w oa cs[k].1) := hob
      clear hob
      have hlen := (HF.out.2 cs[k] (List.getElem_mem hk')).1
      have hsz := (HF.out.2 cs[k] (List.getElem_mem hk')).2
      unfold maxLen at hlen
      generalize hos : cs[k].1 = os at *
      have HSZ : Hid (∀ o ∈ os, o.2.size ≤ maxLen) := hsz
      clear hos hsz
      generalize hm : os.length = m at *
      have HM : Hid (os.length = m) := hm
      clear hm
      by_cases hbig : 1048576 < m
      · go_wp2
        go_ret
        exact ⟨⟨_, rfl⟩, rfl⟩
      by_cases hbig2 : 1048576 < c + m
      · go_wp2
        go_ret
        exact ⟨⟨_, rfl⟩, rfl⟩
      go_wp2
      go_loop [7, 9] (fun s i => ∃ q d : Nat, q ≤ m ∧ i = .int .i64 q ∧ s = .int .i64 d ∧ d ≤ 1048576) (fun _ i => m - (intOf i).toNat)
      case atStart => exact ⟨0, c + m, Nat.zero_le _, rfl, by go_num, by omega⟩
      case round =>
        obtain ⟨q, d, hq, rfl, rfl, hdl⟩ := hrel
        by_cases hlt2 : q < m
        · have hq' : q < os.length := by have := HM.out; omega
          obtain ⟨b2, off2, rfl, _, hcell2⟩ := Hob.out q hq'
          have hz := HSZ.out os[q] (List.getElem_mem hq')
          unfold maxLen at hz
          by_cases hb1 : 1048576 < os[q].2.size
          · go_wp2
            go_ret
            exact ⟨⟨_, rfl⟩, rfl⟩
          by_cases hb2 : 1048576 < d + os[q].2.size
          · go_wp2
            go_ret
            exact ⟨⟨_, rfl⟩, rfl⟩
          go_wp2
          go_round
          case rel => exact ⟨q + 1, d + os[q].2.size, by omega, by go_num, by go_num, by omega⟩
          case measure => simp [intOf]; omega
        · go_wp2
          go_round
          case rel => exact ⟨k + 1, d, by omega, by go_num, rfl, by omega⟩
          case measure => simp [intOf]; omega
    · go_wp2
      go_ret
      exact ⟨⟨_, rfl⟩, rfl⟩
set_option maxHeartbeats 1000000 in
/-- zzBytes_FnPickIsFirstShortestMatch. -/
theorem zz10_any (cs : List Cd) (hf : Fit cs) (cap : Nat) (a : Option Addr) (t0 : Int) (w : World) (hc : CandsAt w a cs) :
    Calls Try.prog 10 #[.int .i64 t0, .slice a cs.length cap] w fun e w' => BoolPost e ∧ w' = w := by
  have hn := hf.1
  have HF : Hid (Fit cs) := hf
  clear hf
  unfold maxLen at hn
  have Hc : Hid (CandsAt w a cs) := hc
  clear hc
  generalize hn' : cs.length = n at hn
  have HN : Hid (cs.length = n) := hn'
  clear hn'
  by_cases hb0 : 1048576 < n
  · go_enter Try.func10, Try.ntmps10
    go_wp2
    go_ret
    exact ⟨⟨_, rfl⟩, rfl⟩
  go_enter Try.func10, Try.ntmps10
  go_wp2
  go_loop [5, 6] (fun s i => ∃ k c : Nat, k ≤ n ∧ i = .int .i64 k ∧ s = .int .i64 c ∧ c ≤ 1048576) (fun _ i => n - (intOf i).toNat)
  case atStart => exact ⟨0, n, Nat.zero_le _, rfl, by go_num, by omega⟩
  case round =>
    obtain ⟨k, c, hk, rfl, rfl, hcl⟩ := hrel
    by_cases hlt : k < n
    · have hk' : k < cs.length := by have := HN.out; omega
      obtain ⟨b, off, oa, oc, rfl, hcell, _, hob⟩ := Hc.out k hk'
      have Hob : Hid (ObjsAt w oa cs[k].1) := hob
      clear hob
      have hlen := (HF.out.2 cs[k] (List.getElem_mem hk')).1
      have hsz := (HF.out.2 cs[k] (List.getElem_mem hk')).2
      unfold maxLen at hlen
      generalize hos : cs[k].1 = os at *
      have HSZ : Hid (∀ o ∈ os, o.2.size ≤ maxLen) := hsz
      clear hos hsz
      generalize hm : os.length = m at *
      have HM : Hid (os.length = m) := hm
      clear hm
      by_cases hbig : 1048576 < m
      · go_wp2
        go_ret
        exact ⟨⟨_, rfl⟩, rfl⟩
      by_cases hbig2 : 1048576 < c + m
      · go_wp2
        go_ret
        exact ⟨⟨_, rfl⟩, rfl⟩
      go_wp2
      go_loop [5, 7] (fun s i => ∃ q d : Nat, q ≤ m ∧ i = .int .i64 q ∧ s = .int .i64 d ∧ d ≤ 1048576) (fun _ i => m - (intOf i).toNat)
      case atStart => exact ⟨0, c + m, Nat.zero_le _, rfl, by go_num, by omega⟩
      case round =>
        obtain ⟨q, d, hq, rfl, rfl, hdl⟩ := hrel
        by_cases hlt2 : q < m
        · have hq' : q < os.length := by have := HM.out; omega
          obtain ⟨b2, off2, rfl, _, hcell2⟩ := Hob.out q hq'
          have hz := HSZ.out os[q] (List.getElem_mem hq')
          unfold maxLen at hz
          by_cases hb1 : 1048576 < os[q].2.size
          · go_wp2
            go_ret
            exact ⟨⟨_, rfl⟩, rfl⟩
          by_cases hb2 : 1048576 < d + os[q].2.size
          · go_wp2
            go_ret
            exact ⟨⟨_, rfl⟩, rfl⟩
          go_wp2
          go_round
          case rel => exact ⟨q + 1, d + os[q].2.size, by omega, by go_num, by go_num, by omega⟩
          case measure => simp [intOf]; omega
        · go_wp2
          go_round
          case rel => exact ⟨k + 1, d, by omega, by go_num, rfl, by omega⟩
          case measure => simp [intOf]; omega
    · go_wp2
      go_ret
      exact ⟨⟨_, rfl⟩, rfl⟩
end Go.Proofs.Qxb6603497a.pick

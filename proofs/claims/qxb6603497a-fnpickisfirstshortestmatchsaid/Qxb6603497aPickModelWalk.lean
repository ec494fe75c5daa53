import Derived.Test.Qxb6603497aPickModel
namespace Go.Proofs.Qxb6603497a.pick
open Go.ChangeShapes Go.WideShapes Go.ChangeAt Go.RowKit

set_option maxRecDepth 100000 in
set_option maxHeartbeats 4000000 in
theorem model_any (t : Int) (cs : List Cd) (hw : wgt cs ≤ 1048576) (cap : Nat) (a : Option Addr) (w : World) (hc : CandsAt w a cs) :
    Calls Try.prog 17 #[.int .i64 t, .slice a cs.length cap] w fun e w' => ModelPost t cs e ∧ w' = w := by
  have hl := wgt_len cs
  have HW : Hid (∀ c ∈ cs, 32 + 24 * c.1.length + vbs c.1 ≤ 1048576) := fun c hc => Nat.le_trans (wgt_mem hc) hw
  have Hc : Hid (CandsAt w a cs) := hc
  generalize hn' : cs.length = n at *
  have HN : Hid (cs.length = n) := hn'
  have hn : n ≤ 65536 := by omega
  clear hc hw hl hn'
  go_enter Try.func17, Try.ntmps17
  go_wp2
  go_loop [5, 6] (fun s i => ∃ (k : Nat) (m : Int), k ≤ n ∧ i = .int .i64 k ∧ s = .int .i64 m ∧ -1 ≤ m ∧ M1 t cs k m) (fun _ i => n - (intOf i).toNat)
  case atStart => exact ⟨0, -1, Nat.zero_le _, rfl, rfl, by omega, M1_start t cs⟩
  case round =>
    obtain ⟨k, m, hk, rfl, rfl, hm, hrl⟩ := hrel
    have HM1 : Hid (M1 t cs k m) := hrl
    clear hrl
    by_cases hlt : k < n
    · have hk' : k < cs.length := by have := HN.out; omega
      obtain ⟨b, off, oa, oc, rfl, hcell, _, hob⟩ := Hc.out k hk'
      have hlen := HW.out cs[k] (List.getElem_mem hk')
      have hml : cs[k].1.length ≤ maxLen := by unfold maxLen; omega
      have z := has_any cs[k].1 hml oc oa t w hob
      clear hob hml
      cases hh : hasT t cs[k].1
      · rw [hh] at z
        have HH : Hid (hasT t cs[k].1 = false) := hh
        clear hh
        go_wp2_with fail
        refine z.mono ?_
        clear z
        rintro e w' ⟨rfl, rfl⟩
        go_wp2
        go_round
        case rel => exact ⟨k + 1, m, by omega, by go_num, rfl, hm, M1_no HM1.out hk' (Or.inl HH.out)⟩
        case measure => simp [intOf]; omega
      · rw [hh] at z
        have HH : Hid (hasT t cs[k].1 = true) := hh
        clear hh
        by_cases hm0 : m < 0
        · go_wp2_with fail
          refine z.mono ?_
          clear z
          rintro e w' ⟨rfl, rfl⟩
          go_wp2
          go_round
          case rel => exact ⟨k + 1, _, by omega, by go_num, rfl, by omega, M1_yes HM1.out hk' HH.out (Or.inl hm0)⟩
          case measure => simp [intOf]; omega
        · by_cases hml : (cs[k].1.length : Int) < m
          · go_wp2_with fail
            refine z.mono ?_
            clear z
            rintro e w' ⟨rfl, rfl⟩
            go_wp2
            go_round
            case rel => exact ⟨k + 1, _, by omega, by go_num, rfl, by omega, M1_yes HM1.out hk' HH.out (Or.inr hml)⟩
            case measure => simp [intOf]; omega
          · go_wp2_with fail
            refine z.mono ?_
            clear z
            rintro e w' ⟨rfl, rfl⟩
            go_wp2
            go_round
            case rel => exact ⟨k + 1, m, by omega, by go_num, rfl, hm, M1_no HM1.out hk' (Or.inr ⟨by omega, by omega⟩)⟩
            case measure => simp [intOf]; omega
    · by_cases hm0 : m < 0
      · have em : m = -1 := by omega
        subst em
        go_wp2
        go_ret
        exact ⟨Or.inl ⟨rfl, fun j hj => none_of HM1.out (by have := HN.out; omega) j hj⟩, rfl⟩
      · go_wp2
        go_loop [7, 8] (fun s i => ∃ (k2 : Nat) (mb : Int), k2 ≤ n ∧ i = .int .i64 k2 ∧ s = .int .i64 mb ∧ -1 ≤ mb ∧ M2 t cs m k2 mb) (fun _ i => n - (intOf i).toNat)
        case atStart => exact ⟨0, -1, Nat.zero_le _, rfl, rfl, by omega, M2_start t cs m⟩
        case round =>
          obtain ⟨k2, mb, hk2, rfl, rfl, hmb, hrl⟩ := hrel
          have HM2 : Hid (M2 t cs m k2 mb) := hrl
          clear hrl
          by_cases hlt2 : k2 < n
          · have hk2' : k2 < cs.length := by have := HN.out; omega
            obtain ⟨b, off, oa, oc, rfl, hcell, hcell1, hob⟩ := Hc.out k2 hk2'
            have hlen := HW.out cs[k2] (List.getElem_mem hk2')
            have hml : cs[k2].1.length ≤ maxLen := by unfold maxLen; omega
            have z := has_any cs[k2].1 hml oc oa t _ hob
            have zv := lvb_any cs[k2].1 hml (by omega) oc oa _ hob
            clear hob hml
            cases hh : hasT t cs[k2].1
            · rw [hh] at z
              have HH : Hid (hasT t cs[k2].1 = false) := hh
              clear hh zv
              go_wp2_with fail
              refine z.mono ?_
              clear z
              rintro e w' ⟨rfl, rfl⟩
              go_wp2
              go_round
              case rel => exact ⟨k2 + 1, mb, by omega, by go_num, rfl, hmb, M2_no HM2.out hk2' (Or.inl HH.out)⟩
              case measure => simp [intOf]; omega
            · rw [hh] at z
              have HH : Hid (hasT t cs[k2].1 = true) := hh
              clear hh
              by_cases el : (cs[k2].1.length : Int) = m
              · have elb : ((cs[k2].1.length : Int) == m) = true := beq_iff_eq.2 el
                have EL : Hid ((cs[k2].1.length : Int) = m) := el
                clear el
                by_cases hb0 : mb < 0
                · go_wp2_with fail
                  refine z.mono ?_
                  clear z
                  rintro e w' ⟨rfl, rfl⟩
                  go_wp2_with fail
                  refine zv.mono ?_
                  clear zv
                  rintro e w' ⟨rfl, rfl⟩
                  go_wp2
                  go_round
                  case rel => exact ⟨k2 + 1, _, by omega, by go_num, rfl, by omega, M2_yes HM2.out hk2' HH.out EL.out (Or.inl hb0)⟩
                  case measure => simp [intOf]; omega
                · by_cases hbl : (vbs cs[k2].1 : Int) < mb
                  · go_wp2_with fail
                    refine z.mono ?_
                    clear z
                    rintro e w' ⟨rfl, rfl⟩
                    go_wp2_with fail
                    refine zv.mono ?_
                    clear zv
                    rintro e w' ⟨rfl, rfl⟩
                    go_wp2
                    go_round
                    case rel => exact ⟨k2 + 1, _, by omega, by go_num, rfl, by omega, M2_yes HM2.out hk2' HH.out EL.out (Or.inr hbl)⟩
                    case measure => simp [intOf]; omega
                  · go_wp2_with fail
                    refine z.mono ?_
                    clear z
                    rintro e w' ⟨rfl, rfl⟩
                    go_wp2_with fail
                    refine zv.mono ?_
                    clear zv
                    rintro e w' ⟨rfl, rfl⟩
                    go_wp2
                    go_round
                    case rel => exact ⟨k2 + 1, mb, by omega, by go_num, rfl, hmb, M2_no HM2.out hk2' (Or.inr (Or.inr ⟨by omega, by omega⟩))⟩
                    case measure => simp [intOf]; omega
              · have elb : ((cs[k2].1.length : Int) == m) = false := beq_eq_false_iff_ne.2 el
                have EL : Hid ((cs[k2].1.length : Int) ≠ m) := el
                clear el
                clear zv
                go_wp2_with fail
                refine z.mono ?_
                clear z
                rintro e w' ⟨rfl, rfl⟩
                go_wp2
                go_round
                case rel => exact ⟨k2 + 1, mb, by omega, by go_num, rfl, hmb, M2_no HM2.out hk2' (Or.inr (Or.inl EL.out))⟩
                case measure => simp [intOf]; omega
          · go_wp2
            go_loop [10, 11, 12] (fun x s i => ∃ (k3 : Nat) (sb : Bool) (xv : Int), k3 ≤ n ∧ i = .int .i64 k3 ∧ s = .bool sb ∧ x = .int .i64 xv ∧ M3 t cs m mb k3 sb xv) (fun _ _ i => n - (intOf i).toNat)
            case atStart => exact ⟨0, false, 0, Nat.zero_le _, rfl, rfl, rfl, M3_start t cs m mb⟩
            case round =>
              obtain ⟨k3, sb, xv, hk3, rfl, rfl, rfl, hrl⟩ := hrel
              have HM3 : Hid (M3 t cs m mb k3 sb xv) := hrl
              clear hrl
              by_cases hlt3 : k3 < n
              · have hk3' : k3 < cs.length := by have := HN.out; omega
                obtain ⟨b, off, oa, oc, rfl, hcell, hcell1, hob⟩ := Hc.out k3 hk3'
                have hlen := HW.out cs[k3] (List.getElem_mem hk3')
                have hml : cs[k3].1.length ≤ maxLen := by unfold maxLen; omega
                have z := has_any cs[k3].1 hml oc oa t _ hob
                have zv := lvb_any cs[k3].1 hml (by omega) oc oa _ hob
                clear hob hml
                cases hh : hasT t cs[k3].1
                · rw [hh] at z
                  have HH : Hid (hasT t cs[k3].1 = false) := hh
                  clear hh zv
                  go_wp2_with fail
                  refine z.mono ?_
                  clear z
                  rintro e w' ⟨rfl, rfl⟩
                  go_wp2
                  go_round
                  case rel => exact ⟨k3 + 1, sb, xv, by omega, by go_num, rfl, rfl, M3_no HM3.out hk3' (Or.inl HH.out)⟩
                  case measure => simp [intOf]; omega
                · rw [hh] at z
                  have HH : Hid (hasT t cs[k3].1 = true) := hh
                  clear hh
                  by_cases el : (cs[k3].1.length : Int) = m
                  · have elb : ((cs[k3].1.length : Int) == m) = true := beq_iff_eq.2 el
                    have EL : Hid ((cs[k3].1.length : Int) = m) := el
                    clear el
                    by_cases ev : (vbs cs[k3].1 : Int) = mb
                    · have evb : ((vbs cs[k3].1 : Int) == mb) = true := beq_iff_eq.2 ev
                      have EV : Hid ((vbs cs[k3].1 : Int) = mb) := ev
                      clear ev
                      cases sb
                      · go_wp2_with fail
                        refine z.mono ?_
                        clear z
                        rintro e w' ⟨rfl, rfl⟩
                        go_wp2_with fail
                        refine zv.mono ?_
                        clear zv
                        rintro e w' ⟨rfl, rfl⟩
                        go_wp2
                        go_round
                        case rel => exact ⟨k3 + 1, true, _, by omega, by go_num, rfl, rfl, M3_yes HM3.out hk3' HH.out EL.out EV.out (Or.inl rfl)⟩
                        case measure => simp [intOf]; omega
                      · by_cases hxl : xv < cs[k3].2
                        · go_wp2_with fail
                          refine z.mono ?_
                          clear z
                          rintro e w' ⟨rfl, rfl⟩
                          go_wp2_with fail
                          refine zv.mono ?_
                          clear zv
                          rintro e w' ⟨rfl, rfl⟩
                          go_wp2
                          go_round
                          case rel => exact ⟨k3 + 1, true, _, by omega, by go_num, rfl, rfl, M3_yes HM3.out hk3' HH.out EL.out EV.out (Or.inr hxl)⟩
                          case measure => simp [intOf]; omega
                        · go_wp2_with fail
                          refine z.mono ?_
                          clear z
                          rintro e w' ⟨rfl, rfl⟩
                          go_wp2_with fail
                          refine zv.mono ?_
                          clear zv
                          rintro e w' ⟨rfl, rfl⟩
                          go_wp2
                          go_round
                          case rel => exact ⟨k3 + 1, true, xv, by omega, by go_num, rfl, rfl, M3_no HM3.out hk3' (Or.inr (Or.inr (Or.inr ⟨rfl, by omega⟩)))⟩
                          case measure => simp [intOf]; omega
                    · have evb : ((vbs cs[k3].1 : Int) == mb) = false := beq_eq_false_iff_ne.2 ev
                      have EV : Hid ((vbs cs[k3].1 : Int) ≠ mb) := ev
                      clear ev
                      go_wp2_with fail
                      refine z.mono ?_
                      clear z
                      rintro e w' ⟨rfl, rfl⟩
                      go_wp2_with fail
                      refine zv.mono ?_
                      clear zv
                      rintro e w' ⟨rfl, rfl⟩
                      go_wp2
                      go_round
                      case rel => exact ⟨k3 + 1, sb, xv, by omega, by go_num, rfl, rfl, M3_no HM3.out hk3' (Or.inr (Or.inr (Or.inl EV.out)))⟩
                      case measure => simp [intOf]; omega
                  · have elb : ((cs[k3].1.length : Int) == m) = false := beq_eq_false_iff_ne.2 el
                    have EL : Hid ((cs[k3].1.length : Int) ≠ m) := el
                    clear el
                    clear zv
                    go_wp2_with fail
                    refine z.mono ?_
                    clear z
                    rintro e w' ⟨rfl, rfl⟩
                    go_wp2
                    go_round
                    case rel => exact ⟨k3 + 1, sb, xv, by omega, by go_num, rfl, rfl, M3_no HM3.out hk3' (Or.inr (Or.inl EL.out))⟩
                    case measure => simp [intOf]; omega
              · go_wp2
                go_loop [13] (fun i => ∃ k4 : Nat, k4 ≤ n ∧ i = .int .i64 k4 ∧ M4 t cs m mb xv k4) (fun i => n - (intOf i).toNat)
                case atStart => exact ⟨0, Nat.zero_le _, rfl, M4_start t cs m mb xv⟩
                case round =>
                  obtain ⟨k4, hk4, rfl, hrl⟩ := hrel
                  have HM4 : Hid (M4 t cs m mb xv k4) := hrl
                  clear hrl
                  by_cases hlt4 : k4 < n
                  · have hk4' : k4 < cs.length := by have := HN.out; omega
                    obtain ⟨b, off, oa, oc, rfl, hcell, hcell1, hob⟩ := Hc.out k4 hk4'
                    have hlen := HW.out cs[k4] (List.getElem_mem hk4')
                    have hml : cs[k4].1.length ≤ maxLen := by unfold maxLen; omega
                    have z := has_any cs[k4].1 hml oc oa t _ hob
                    have zv := lvb_any cs[k4].1 hml (by omega) oc oa _ hob
                    clear hob hml
                    cases hh : hasT t cs[k4].1
                    · rw [hh] at z
                      have HH : Hid (hasT t cs[k4].1 = false) := hh
                      clear hh zv
                      go_wp2_with fail
                      refine z.mono ?_
                      clear z
                      rintro e w' ⟨rfl, rfl⟩
                      go_wp2
                      go_round
                      case rel => exact ⟨k4 + 1, by omega, by go_num, M4_no HM4.out hk4' (Or.inl HH.out)⟩
                      case measure => simp [intOf]; omega
                    · rw [hh] at z
                      have HH : Hid (hasT t cs[k4].1 = true) := hh
                      clear hh
                      by_cases el : (cs[k4].1.length : Int) = m
                      · have elb : ((cs[k4].1.length : Int) == m) = true := beq_iff_eq.2 el
                        have EL : Hid ((cs[k4].1.length : Int) = m) := el
                        clear el
                        by_cases ev : (vbs cs[k4].1 : Int) = mb
                        · have evb : ((vbs cs[k4].1 : Int) == mb) = true := beq_iff_eq.2 ev
                          have EV : Hid ((vbs cs[k4].1 : Int) = mb) := ev
                          clear ev
                          by_cases ex : cs[k4].2 = xv
                          · have exb : (cs[k4].2 == xv) = true := beq_iff_eq.2 ex
                            have EX : Hid (cs[k4].2 = xv) := ex
                            clear ex
                            go_wp2_with fail
                            refine z.mono ?_
                            clear z
                            rintro e w' ⟨rfl, rfl⟩
                            go_wp2_with fail
                            refine zv.mono ?_
                            clear zv
                            rintro e w' ⟨rfl, rfl⟩
                            go_wp2
                            go_ret
                            exact ⟨Or.inr ⟨k4, hk4', rfl, first_of HN.out (by omega) (by omega) (by omega) HM1.out (by omega) HM2.out HM3.out HM4.out hk4' HH.out EL.out EV.out EX.out⟩, rfl⟩
                          · have exb : (cs[k4].2 == xv) = false := beq_eq_false_iff_ne.2 ex
                            have EX : Hid (cs[k4].2 ≠ xv) := ex
                            clear ex
                            go_wp2_with fail
                            refine z.mono ?_
                            clear z
                            rintro e w' ⟨rfl, rfl⟩
                            go_wp2_with fail
                            refine zv.mono ?_
                            clear zv
                            rintro e w' ⟨rfl, rfl⟩
                            go_wp2
                            go_round
                            case rel => exact ⟨k4 + 1, by omega, by go_num, M4_no HM4.out hk4' (Or.inr (Or.inr (Or.inr EX.out)))⟩
                            case measure => simp [intOf]; omega
                        · have evb : ((vbs cs[k4].1 : Int) == mb) = false := beq_eq_false_iff_ne.2 ev
                          have EV : Hid ((vbs cs[k4].1 : Int) ≠ mb) := ev
                          clear ev
                          go_wp2_with fail
                          refine z.mono ?_
                          clear z
                          rintro e w' ⟨rfl, rfl⟩
                          go_wp2_with fail
                          refine zv.mono ?_
                          clear zv
                          rintro e w' ⟨rfl, rfl⟩
                          go_wp2
                          go_round
                          case rel => exact ⟨k4 + 1, by omega, by go_num, M4_no HM4.out hk4' (Or.inr (Or.inr (Or.inl EV.out)))⟩
                          case measure => simp [intOf]; omega
                      · have elb : ((cs[k4].1.length : Int) == m) = false := beq_eq_false_iff_ne.2 el
                        have EL : Hid ((cs[k4].1.length : Int) ≠ m) := el
                        clear el
                        clear zv
                        go_wp2_with fail
                        refine z.mono ?_
                        clear z
                        rintro e w' ⟨rfl, rfl⟩
                        go_wp2
                        go_round
                        case rel => exact ⟨k4 + 1, by omega, by go_num, M4_no HM4.out hk4' (Or.inr (Or.inl EL.out))⟩
                        case measure => simp [intOf]; omega
                  · exact (found_of HN.out (by omega) (by omega) HM1.out (by omega) HM2.out HM3.out HM4.out (by omega)).elim
end Go.Proofs.Qxb6603497a.pick

import Derived.Test.Qxb6603684aDropTop
namespace Go.Proofs.Qxb6603684a.drop
open Go.ChangeShapes Go.WideShapes Go.ChangeAt Go.RowKit

/-- The ranks: after k rounds. -/
def RankRel (w2 : World) (R n : Nat) (rs : List Rg) (k : Nat) (wr : World) : Prop :=
  Below R w2 wr ∧ ∃ F, wr.rowIs R 3 n F ∧ ∀ j (h : j < rs.length), j < k → F j = .int .i64 (if rs[j].c < 32 then -1 else (kept (rs.take j) : Int))

theorem rank_start (w : World) (n : Nat) (rs : List Rg) : RankRel w w.heap.size n rs 0 (w.alloc (.cells (madeCells #[.int .i64 0] n) 3)) :=
  ⟨(Below.refl _ _).alloc (Nat.le_refl _) _, _, World.rowIs_made _ _ _ _, fun _ _ hj => by omega⟩
theorem rank_no {w2 wr : World} {R n k : Nat} {rs : List Rg} (h : RankRel w2 R n rs k wr) (hk : k < rs.length) (hc : rs[k].c < 32) : RankRel w2 R n rs (k + 1) (wr.setCell ⟨R, k, none⟩ (.int .i64 (-1))) := by
  obtain ⟨hb, F, hF, hF'⟩ := h
  refine ⟨hb.setCell (Nat.le_refl _) _, _, hF.set _ _, fun j hj hlt => ?_⟩
  by_cases e : j = k
  · subst e; rw [if_pos rfl, if_pos hc]
  · rw [if_neg e]; exact hF' j hj (by omega)
theorem rank_yes {w2 wr : World} {R n k : Nat} {rs : List Rg} (h : RankRel w2 R n rs k wr) (hk : k < rs.length) (hc : ¬ rs[k].c < 32) (m : Nat) (hm : kept (rs.take k) = m) :
    RankRel w2 R n rs (k + 1) ((wr.setCell ⟨R, k, none⟩ (.int .i64 (-1))).setCell ⟨R, k, none⟩ (.int .i64 (m : Int))) := by
  obtain ⟨hb, F, hF, hF'⟩ := h
  refine ⟨(hb.setCell (Nat.le_refl _) _).setCell (Nat.le_refl _) _, _, (hF.set _ _).set _ _, fun j hj hlt => ?_⟩
  by_cases e : j = k
  · subst e; rw [if_pos rfl, if_neg hc, hm]
  · rw [if_neg e, if_neg e]; exact hF' j hj (by omega)

theorem kept_all (rs : List Rg) (k : Nat) (h : rs.length ≤ k) : kept (rs.take k) = kept rs := by rw [List.take_of_length_le h]

/-- What is left at the place of a region that is left. -/
theorem left_at (rs : List Rg) (ho : Ord rs) (i : Nat) (hi : i < rs.length) (hc : ¬ rs[i].c < 32) :
    ∃ h : kept (rs.take i) < (D rs).1.length, (D rs).1[kept (rs.take i)] = { rs[i] with p := anc (D rs).2 rs[i].p } := by
  have := long_of rs ho i hi hc
  obtain ⟨h, e⟩ := List.getElem?_eq_some_iff.1 this
  exact ⟨h, e⟩

theorem kb {a b c : World} (h : Below a.heap.size a b) (k : Below b.heap.size b c) : Below a.heap.size a c := h.trans (k.mono h.size)
theorem below_new (w : World) (o : Obj) : Below w.heap.size w (w.alloc o) := (Below.refl _ _).alloc (Nat.le_refl _) _

/-- The regions in a block of their own. -/
theorem RegsAt.at0 {w : World} {Z : Nat} {rs : List Rg} (h : RegsAt w (some ⟨Z, 0, none⟩) rs) (i : Nat) (hi : i < rs.length) :
    w.cell? ⟨Z, i * 5, none⟩ = some (.int .i64 rs[i].f) ∧ w.cell? ⟨Z, i * 5 + 1, none⟩ = some (.int .i64 rs[i].s) ∧ w.cell? ⟨Z, i * 5 + 2, none⟩ = some (.int .i64 rs[i].c) ∧
    w.cell? ⟨Z, i * 5 + 3, none⟩ = some (.int .i64 rs[i].k) ∧ w.cell? ⟨Z, i * 5 + 4, none⟩ = some (.int .i64 rs[i].p) := by
  obtain ⟨b, off, e, h1, h2, h3, h4, h5⟩ := h i hi
  simp only [Option.some.injEq, Addr.mk.injEq] at e
  obtain ⟨rfl, rfl, _⟩ := e
  simp only [Nat.zero_add] at h1 h2 h3 h4 h5
  exact ⟨h1, h2, h3, h4, h5⟩

theorem D_nil : (D []).1 = [] := rfl

set_option maxRecDepth 100000 in
set_option maxHeartbeats 8000000 in
/-- nil: no region. -/
theorem law_none (cap : Nat) (w : World) : Calls Try.prog 3 #[.slice none 0 cap] w fun e w' => LawPost w e w' := by
  have HRG : Hid (RegsAt w none []) := fun i hi => by simp at hi
  go_enter Try.func3, Try.ntmps3
  go_wp2_with fail
  refine (zz5_any none 0 cap (by omega) w).mono ?_
  rintro e w' ⟨⟨b, rfl⟩, rfl⟩
  cases b
  · go_wp2
    go_ret
    exact ⟨rfl, Below.refl _ _⟩
  have qn := q22n
  have hmk := run_make_row' (P := Try.prog) 26 3 (.int .i64 0) 8 Try.underlying26 info3 rfl .i64 .i64 0 (by omega) (by omega)
  go_wp2
  go_loop [4] (fun i => i = .int .i64 0) (fun _ => 0)
  case atStart => rfl
  case round =>
    subst hrel
    go_wp2_with fail
    refine (zdrop_any [] 0 rfl (by omega) (fun i hi => by simp at hi) _ _ _ HRG.out).mono ?_
    rintro e w2 ⟨v, rfl, hv, hb2⟩
    have hv0 : v = .slice none 0 0 := hv.2.2 D_nil
    subst hv0
    have HB2 : Hid (Below w'.heap.size w' w2) := hb2
    clear hv hb2
    have qe := q22e
    simp only [Int.natCast_zero] at hmk
    go_wp2
    clear hmk
    have HB3 : Hid (Below w'.heap.size w' (w2.alloc (.cells (madeCells #[.int .i64 0] 0) 3))) := HB2.out.alloc HB2.out.size _
    go_loop [8, 9] (fun s i => s = .int .i64 0 ∧ i = .int .i64 0) (fun _ _ => 0)
    case atStart => exact ⟨rfl, rfl⟩
    case round =>
      obtain ⟨rfl, rfl⟩ := hrel
      go_wp2
      go_loop [11] (fun i => i = .int .i64 0) (fun _ => 0)
      case atStart => rfl
      case round =>
        subst hrel
        go_wp2
        go_ret
        exact ⟨rfl, HB3.out⟩

set_option maxRecDepth 100000 in
set_option maxHeartbeats 8000000 in
theorem law_some (rs : List Rg) (n : Nat) (hn : rs.length = n) (hml : n ≤ maxLen) (cap : Nat) (ad : Addr) (w : World) (hc : RegsAt w (some ad) rs) :
    Calls Try.prog 3 #[.slice (some ad) n cap] w fun e w' => LawPost w e w' := by
  have HN : Hid (rs.length = n) := hn
  have Hc : Hid (RegsAt w (some ad) rs) := hc
  unfold maxLen at hml
  clear hn hc
  go_enter Try.func3, Try.ntmps3
  go_wp2_with fail
  refine (zz5_any (some ad) n cap (by omega) w).mono ?_
  rintro e w' ⟨⟨b, rfl⟩, rfl⟩
  cases b
  · go_wp2
    go_ret
    exact ⟨rfl, Below.refl _ _⟩
  by_cases h12 : 4096 < n
  · go_wp2
    go_ret
    exact ⟨rfl, Below.refl _ _⟩
  have qn := q22n
  have hmk1 := make24 n (by omega)
  have hcp := copy24 rs n HN.out ad cap w' Hc.out
  have HRG0 := hide' (regs_new w' rs 24)
  have HB0 := hide' (below_new w' (.cells (flat rs).toArray 24))
  have hZ1 : w'.heap.size < (w'.alloc (.cells (flat rs).toArray 24)).heap.size := by simp
  go_wp2
  generalize hWW : w'.alloc (.cells (flat rs).toArray 24) = w1 at *
  generalize hZ : w'.heap.size = Z at *
  have HZ : Hid (w'.heap.size = Z) := hZ
  have HRG : Hid (RegsAt w1 (some ⟨Z, 0, none⟩) rs) := HRG0.out
  have HB1 : Hid (Below w'.heap.size w' w1) := by rw [HZ.out]; exact HB0.out
  clear hWW hmk1 hcp HRG0 HB0 hZ
  have hmkx : True := trivial
  clear hmkx
  have hg12 : n ≤ 4096 := by omega
  clear h12 hml
  go_loop [4] (fun i => ∃ k : Nat, k ≤ n ∧ i = .int .i64 k ∧ ∀ j (h : j < rs.length), j < k → rs[j].p < (j : Int)) (fun i => n - (intOf i).toNat)
  case atStart => exact ⟨0, Nat.zero_le _, rfl, fun _ _ hj => by omega⟩
  case round =>
    obtain ⟨k, hk, rfl, hrl⟩ := hrel
    have HR : Hid (∀ j (h : j < rs.length), j < k → rs[j].p < (j : Int)) := hrl
    clear hrl
    by_cases hlt : k < n
    · have hk' : k < rs.length := by have := HN.out; omega
      obtain ⟨_, _, _, _, h4⟩ := HRG.out.at0 k hk'
      by_cases hp : (k : Int) ≤ rs[k].p
      · go_wp2
        go_ret
        exact ⟨rfl, HB1.out⟩
      · go_wp2
        go_round
        case rel =>
          refine ⟨k + 1, by omega, by go_num, fun j hj hlt' => ?_⟩
          by_cases e : j = k
          · subst e; omega
          · exact HR.out j hj (by omega)
        case measure => simp [intOf]; omega
    · have HO : Hid (Ord rs) := fun j hj => HR.out j hj (by have := HN.out; omega)
      clear HR
      go_wp2_with fail
      refine (zdrop_any rs n HN.out hg12 HO.out _ _ _ HRG.out).mono ?_
      rintro e w2 ⟨v, rfl, hv, hb2⟩
      obtain ⟨oa, ocap, rfl, hor, honil, hoa⟩ := hv.regs
      have HOR : Hid (RegsAt w2 oa (D rs).1) := hor
      have HB2 : Hid (Below w1.heap.size w1 w2) := hb2
      have HRG2 : Hid (RegsAt w2 (some ⟨Z, 0, none⟩) rs) := HRG.out.keep hb2
      have HNIL : Hid (oa = none ↔ (D rs).1 = []) := honil
      have HLL : Hid ((D rs).1.length = kept rs) := long_len rs
      clear hv hb2 hor honil hoa
      have hmk := run_make_row' (P := Try.prog) 26 3 (.int .i64 0) 8 Try.underlying26 info3 rfl .i64 .i64 n (by omega) (by omega)
      have HS : Hid (RankRel w2 w2.heap.size n rs 0 (w2.alloc (.cells (madeCells #[.int .i64 0] n) 3))) := rank_start w2 n rs
      generalize hKK : (D rs).1.length = K at *
      have HKK : Hid ((D rs).1.length = K) := hKK
      clear hKK
      have hK12 : K ≤ 4096 := by have := HLL.out; have := kept_le rs; have := HN.out; omega
      go_wp2
      clear hmk
      generalize hR : w2.heap.size = R at *
      have HR2 : Hid (w2.heap.size = R) := hR
      clear hR
      go_loopw [8, 9] (fun s i wr => ∃ (k m : Nat), k ≤ n ∧ i = .int .i64 k ∧ s = .int .i64 m ∧ m ≤ k ∧ kept (rs.take k) = m ∧ RankRel w2 R n rs k wr) (fun _ i _ => n - (intOf i).toNat)
      case atStart => exact ⟨0, 0, Nat.zero_le _, rfl, rfl, by omega, rfl, HS.out⟩
      case round =>
        clear HS
        obtain ⟨q, m, hq, rfl, rfl, hmq, hkm, hrl⟩ := hrel
        have HKM : Hid (kept (rs.take q) = m) := hkm
        have HRK : Hid (RankRel w2 R n rs q wr) := hrl
        clear hkm hrl
        by_cases hlt2 : q < n
        · have hq' : q < rs.length := by have := HN.out; omega
          obtain ⟨_, _, h2, _, _⟩ := HRG2.out.at0 q hq'
          obtain ⟨hbk, F, hF, _⟩ := HRK.out
          have hbR : Z < R := by have := cell_lt h2; have := HR2.out; omega
          have g2 := (hbk.cell (p := ⟨Z, q * 5 + 2, none⟩) hbR).trans h2
          have hf0 := hF.cell (i := q) hlt2
          have hf1 := hF.frozen q
          have HKS : Hid (kept (rs.take (q + 1)) = kept (rs.take q) + (if rs[q].c < 32 then 0 else 1)) := kept_succ rs q hq'
          clear h2 hbk hF
          by_cases hcc : rs[q].c < 32
          · go_wp2
            go_roundw
            case rel => exact ⟨q + 1, m, by omega, by go_num, rfl, by omega, by rw [HKS.out, if_pos hcc, HKM.out]; rfl, rank_no HRK.out hq' hcc⟩
            case measure => simp [intOf]; omega
          · go_wp2
            go_roundw
            case rel => exact ⟨q + 1, m + 1, by omega, by go_num, by go_num, by omega, by rw [HKS.out, if_neg hcc, HKM.out], rank_yes HRK.out hq' hcc m HKM.out⟩
            case measure => simp [intOf]; omega
        · have HMK : Hid (m = K) := by have e1 := HKM.out; rw [kept_all rs q (by have := HN.out; omega)] at e1; have e2 := HLL.out; show m = K; omega
          have hmK := HMK.out
          subst hmK
          have HRK2 : Hid (RankRel w2 R n rs n wr) := by have : q = n := by omega
                                                         subst this; exact HRK.out
          clear HRK HKM
          obtain ⟨w3, rfl⟩ : ∃ x, x = wr := ⟨wr, rfl⟩
          have HB3 : Hid (Below w2.heap.size w2 w3) := by rw [HR2.out]; exact HRK2.out.1
          have HRG3 : Hid (RegsAt w3 (some ⟨Z, 0, none⟩) rs) := HRG2.out.keep HB3.out
          have HOR3 : Hid (RegsAt w3 oa (D rs).1) := HOR.out.keep HB3.out
          have qe := q22e
          rcases oa with _ | oad
          · have hm0 : m = 0 := by have := HNIL.out.1 rfl; have := HKK.out; rw [‹(D rs).1 = []›] at this; simpa using this.symm
            subst hm0
            go_wp2
            go_loopw [10, 11] (fun s i wr => ∃ (j kk : Nat), j ≤ n ∧ i = .int .i64 j ∧ s = .int .i64 kk ∧ kk ≤ j ∧ kept (rs.take j) = kk ∧ Below w3.heap.size w3 wr) (fun _ i _ => n - (intOf i).toNat)
            case atStart => exact ⟨0, 0, Nat.zero_le _, rfl, rfl, by omega, rfl, Below.refl _ _⟩
            case round =>
              obtain ⟨j, kk, hj, rfl, rfl, hkj, hkk, hbw⟩ := hrel
              have HKK2 : Hid (kept (rs.take j) = kk) := hkk
              have HBW : Hid (Below w3.heap.size w3 wr) := hbw
              clear hkk hbw
              by_cases hlt3 : j < n
              · have hj' : j < rs.length := by have := HN.out; omega
                obtain ⟨h0, h1, h2, h3, h4⟩ := HRG3.out.at0 j hj'
                have g0 := keep_cell HBW.out h0
                have g1 := keep_cell HBW.out h1
                have g2 := keep_cell HBW.out h2
                have g3 := keep_cell HBW.out h3
                have g4 := keep_cell HBW.out h4
                have hZr : Z < wr.heap.size := cell_lt g0
                have HKS : Hid (kept (rs.take (j + 1)) = kept (rs.take j) + (if rs[j].c < 32 then 0 else 1)) := kept_succ rs j hj'
                clear h0 h1 h2 h3 h4
                by_cases hcc : rs[j].c < 32
                · go_wp2
                  go_roundw
                  case rel => exact ⟨j + 1, kk, by omega, by go_num, rfl, by omega, by rw [HKS.out, if_pos hcc, HKK2.out]; rfl, HBW.out.alloc HBW.out.size _⟩
                  case measure => simp [intOf]; omega
                · obtain ⟨hkl, hke⟩ := left_at rs HO.out j hj' hcc
                  exact absurd hkl (by have := HKK.out; omega)
              · go_wp2
                go_ret
                exact ⟨rfl, kb HB1.out (kb HB2.out (kb HB3.out HBW.out))⟩
          · have hm0 : ¬ m = 0 := by intro e; have e2 := HKK.out; rw [e] at e2; have := HNIL.out.2 (List.eq_nil_of_length_eq_zero e2); cases this
            have hmb : ((m : Int) == 0) = false := beq_eq_false_iff_ne.2 (by omega)
            clear hm0
            go_wp2
            go_loopw [10, 11] (fun s i wr => ∃ (j kk : Nat), j ≤ n ∧ i = .int .i64 j ∧ s = .int .i64 kk ∧ kk ≤ j ∧ kept (rs.take j) = kk ∧ Below w3.heap.size w3 wr) (fun _ i _ => n - (intOf i).toNat)
            case atStart => exact ⟨0, 0, Nat.zero_le _, rfl, rfl, by omega, rfl, Below.refl _ _⟩
            case round =>
              obtain ⟨j, kk, hj, rfl, rfl, hkj, hkk, hbw⟩ := hrel
              have HKK2 : Hid (kept (rs.take j) = kk) := hkk
              have HBW : Hid (Below w3.heap.size w3 wr) := hbw
              clear hkk hbw
              by_cases hlt3 : j < n
              · have hj' : j < rs.length := by have := HN.out; omega
                obtain ⟨h0, h1, h2, h3, h4⟩ := HRG3.out.at0 j hj'
                have g0 := keep_cell HBW.out h0
                have g1 := keep_cell HBW.out h1
                have g2 := keep_cell HBW.out h2
                have g3 := keep_cell HBW.out h3
                have g4 := keep_cell HBW.out h4
                have hZr : Z < wr.heap.size := cell_lt g0
                have HKS : Hid (kept (rs.take (j + 1)) = kept (rs.take j) + (if rs[j].c < 32 then 0 else 1)) := kept_succ rs j hj'
                clear h0 h1 h2 h3 h4
                by_cases hcc : rs[j].c < 32
                · go_wp2
                  go_roundw
                  case rel => exact ⟨j + 1, kk, by omega, by go_num, rfl, by omega, by rw [HKS.out, if_pos hcc, HKK2.out]; rfl, HBW.out.alloc HBW.out.size _⟩
                  case measure => simp [intOf]; omega
                · obtain ⟨hkl, hke⟩ := left_at rs HO.out j hj' hcc
                  have hkk' : kk < (D rs).1.length := by have := HKK2.out; omega
                  have hke' : (D rs).1[kk] = { rs[j] with p := anc (D rs).2 rs[j].p } := by rw [← hke]; congr 1; exact HKK2.out.symm
                  have hkm : kk < m := by have := HKK.out; omega
                  obtain ⟨b2, off2, hoad, o0, o1, o2, o3, o4⟩ := HOR3.out kk hkk'
                  obtain rfl : oad = ⟨b2, off2, none⟩ := by simpa using hoad
                  rw [hke'] at o0 o1 o2 o3 o4
                  simp only at o0 o1 o2 o3 o4
                  have p0 := keep_cell HBW.out o0
                  have p1 := keep_cell HBW.out o1
                  have p2 := keep_cell HBW.out o2
                  have p3 := keep_cell HBW.out o3
                  have p4 := keep_cell HBW.out o4
                  have hb2r : b2 < wr.heap.size := cell_lt p0
                  have hRr : R < wr.heap.size := by obtain ⟨_, F, hF, _⟩ := HRK2.out; have := hF.lt; have := HBW.out.size; omega
                  generalize hav : anc (D rs).2 rs[j].p = av at *
                  have HAV : Hid (anc (D rs).2 rs[j].p = av) := hav
                  have HPJ : Hid (rs[j].p < (j : Int)) := HO.out j hj'
                  clear hke hke' hkl hoad o0 o1 o2 o3 o4 hav
                  go_wp2
                  go_loop [14] (fun p => ∃ pp : Int, p = .int .i64 pp ∧ pp < (j : Int) ∧ anc (D rs).2 pp = av) (fun p => (intOf p + 1).toNat)
                  case atStart => exact ⟨_, rfl, HPJ.out, HAV.out⟩
                  case round =>
                    obtain ⟨pp, rfl, hpj, hpa⟩ := hrel
                    have HPA : Hid (anc (D rs).2 pp = av) := hpa
                    clear hpa
                    by_cases hp0 : pp < 0
                    · have hav1 : av = -1 := by rw [← HPA.out]; unfold anc; rw [if_pos hp0]
                      subst hav1
                      go_wp2
                      go_roundw
                      case rel => exact ⟨j + 1, kk + 1, by omega, by go_num, by go_num, by omega, by rw [HKS.out, if_neg (by omega), HKK2.out], (HBW.out.alloc HBW.out.size _).alloc (by simp; have := HBW.out.size; omega) _⟩
                      case measure => simp [intOf]; omega
                    · obtain ⟨q2, rfl⟩ := Int.eq_ofNat_of_zero_le (show 0 ≤ pp by omega)
                      have hq2 : q2 < n := by omega
                      have hq2' : q2 < rs.length := by have := HN.out; omega
                      obtain ⟨_, _, e2, _, e4⟩ := HRG3.out.at0 q2 hq2'
                      have f2 := keep_cell HBW.out e2
                      have f4 := keep_cell HBW.out e4
                      have HAT : Hid ((D rs).2.getD q2 0 = av) := by have := HPA.out; unfold anc at this; rw [if_neg hp0, Int.toNat_natCast] at this; exact this
                      have HAO := hide' (at_of rs HO.out q2 hq2')
                      have HPQ : Hid (rs[q2].p < (q2 : Int)) := HO.out q2 hq2'
                      clear e2 e4
                      by_cases hc2 : rs[q2].c < 32
                      · go_wp2
                        go_round
                        case rel =>
                          have h1 := HPQ.out
                          refine ⟨_, rfl, by omega, ?_⟩
                          have h2 := HAO.out
                          rw [if_pos hc2, HAT.out] at h2
                          exact h2.symm
                        case measure => have := HPQ.out; simp [intOf]; omega
                      · have hrk : w3.cell? ⟨R, q2, none⟩ = some (.int .i64 av) := by
                          obtain ⟨_, F, hF, hF'⟩ := HRK2.out
                          rw [hF.cell hq2, hF' q2 hq2' hq2, if_neg hc2]
                          have h2 := HAO.out
                          rw [if_neg hc2, HAT.out] at h2
                          rw [h2]
                        have frk := keep_cell HBW.out hrk
                        clear hrk
                        go_wp2
                        go_roundw
                        case rel => exact ⟨j + 1, kk + 1, by omega, by go_num, by go_num, by omega, by rw [HKS.out, if_neg (by omega), HKK2.out], (HBW.out.alloc HBW.out.size _).alloc (by simp; have := HBW.out.size; omega) _⟩
                        case measure => simp [intOf]; omega
              · go_wp2
                go_ret
                exact ⟨rfl, kb HB1.out (kb HB2.out (kb HB3.out HBW.out))⟩
end Go.Proofs.Qxb6603684a.drop

import Derived.Test.Qxb6603497aPickBits
namespace Go.Proofs.Qxb6603497a.pick
open Go.ChangeShapes Go.WideShapes Go.ChangeAt Go.RowKit

/-- As pick orders two answerings, by their objects and expiries. -/
def shorterB (o1 : List Ob) (e1 : Int) (o2 : List Ob) (e2 : Int) : Bool :=
  if o1.length = o2.length then (if vbs o1 = vbs o2 then decide (e2 < e1) else decide (vbs o1 < vbs o2)) else decide (o1.length < o2.length)

set_option maxHeartbeats 1000000 in
theorem shorter_any (p1 p2 : Nat × Nat) (o1 o2 : List Ob) (e1 e2 : Int) (h1 : o1.length ≤ 1048576) (h2 : o2.length ≤ 1048576) (v1 : vbs o1 ≤ 1048576) (v2 : vbs o2 ≤ 1048576) (w : World)
    (ha : AssAt w p1 o1) (hb : AssAt w p2 o2) :
    Calls Try.prog 32 #[.agg #[.pointer (some ⟨p1.1, p1.2, none⟩), .int .i64 e1], .agg #[.pointer (some ⟨p2.1, p2.2, none⟩), .int .i64 e2]] w
      fun e w' => e = .returned (.bool (shorterB o1 e1 o2 e2)) ∧ Below w.heap.size w w' := by
  obtain ⟨a1, c1, hc1, hob1⟩ := ha
  obtain ⟨a2, c2, hc2, hob2⟩ := hb
  have Hob1 : Hid (ObsAt w a1 o1) := hob1
  have Hob2 : Hid (ObsAt w a2 o2) := hob2
  have HB : Hid (shorterB o1 e1 o2 e2 = if o1.length = o2.length then (if vbs o1 = vbs o2 then decide (e2 < e1) else decide (vbs o1 < vbs o2)) else decide (o1.length < o2.length)) := rfl
  generalize shorterB o1 e1 o2 e2 = B at *
  have hl1 := cell_lt hc1
  have hl2 := cell_lt hc2
  have l1 : o1.length ≤ maxLen := by unfold maxLen; omega
  have l2 : o2.length ≤ maxLen := by unfold maxLen; omega
  have L1 : Hid (o1.length ≤ maxLen) := l1
  have L2 : Hid (o2.length ≤ maxLen) := l2
  clear hob1 hob2 l1 l2
  by_cases hn : o1.length = o2.length
  · have hne : ((o1.length : Int) == (o2.length : Int)) = true := beq_iff_eq.2 (by omega)
    have HN : Hid (o1.length = o2.length) := hn
    clear hn
    go_enter Try.func32, Try.ntmps32
    go_wp2
    go_quiet (fail)
    go_wp2_with fail
    have hb0 : Below w.heap.size w (((w.alloc (Obj.cells #[Value.pointer (some { block := p1.fst, off := p1.snd }), Value.int IntKind.i64 e1] 38)).alloc (Obj.cells #[Value.pointer (some { block := p2.fst, off := p2.snd }), Value.int IntKind.i64 e2] 38)).drewN nq) :=
      below_drewN (((Below.refl _ _).alloc (Nat.le_refl _) _).alloc (by simp) _) _
    have hx0 : (((w.alloc (Obj.cells #[Value.pointer (some { block := p1.fst, off := p1.snd }), Value.int IntKind.i64 e1] 38)).alloc (Obj.cells #[Value.pointer (some { block := p2.fst, off := p2.snd }), Value.int IntKind.i64 e2] 38)).drewN nq).cell? ⟨w.heap.size, 0, none⟩ = some (.pointer (some ⟨p1.1, p1.2, none⟩)) := by simp [go_sem]
    have hx1 : (((w.alloc (Obj.cells #[Value.pointer (some { block := p1.fst, off := p1.snd }), Value.int IntKind.i64 e1] 38)).alloc (Obj.cells #[Value.pointer (some { block := p2.fst, off := p2.snd }), Value.int IntKind.i64 e2] 38)).drewN nq).cell? ⟨w.heap.size, 1, none⟩ = some (.int .i64 e1) := by simp [go_sem]
    have hy0 : (((w.alloc (Obj.cells #[Value.pointer (some { block := p1.fst, off := p1.snd }), Value.int IntKind.i64 e1] 38)).alloc (Obj.cells #[Value.pointer (some { block := p2.fst, off := p2.snd }), Value.int IntKind.i64 e2] 38)).drewN nq).cell? ⟨w.heap.size + 1, 0, none⟩ = some (.pointer (some ⟨p2.1, p2.2, none⟩)) := by simp [go_sem]
    have hy1 : (((w.alloc (Obj.cells #[Value.pointer (some { block := p1.fst, off := p1.snd }), Value.int IntKind.i64 e1] 38)).alloc (Obj.cells #[Value.pointer (some { block := p2.fst, off := p2.snd }), Value.int IntKind.i64 e2] 38)).drewN nq).cell? ⟨w.heap.size + 1, 1, none⟩ = some (.int .i64 e2) := by simp [go_sem]
    generalize (((w.alloc (Obj.cells #[Value.pointer (some { block := p1.fst, off := p1.snd }), Value.int IntKind.i64 e1] 38)).alloc (Obj.cells #[Value.pointer (some { block := p2.fst, off := p2.snd }), Value.int IntKind.i64 e2] 38)).drewN nq) = W0 at *
    have hd1 := keep_cell hb0 hc1
    have hd2 := keep_cell hb0 hc2
    have Hb0 : Hid (Below w.heap.size w W0) := hb0
    have D1 := hd1
    have D2 := hd2
    have HX1 : Hid (W0.cell? ⟨w.heap.size, 1, none⟩ = some (.int .i64 e1)) := hx1
    have HY1 : Hid (W0.cell? ⟨w.heap.size + 1, 1, none⟩ = some (.int .i64 e2)) := hy1
    clear hc1 hc2 hb0 D1 D2 hx1 hy1
    go_region_with (first
      | (go_at_call_of 42 (Value.slice a1 o1.length c1); refine (vb_any o1 L1.out v1 _ _ _ ?_).mono ?_; (exact Hob1.out.keep Hb0.out.drew); rintro e w1 ⟨rfl, hb1⟩; have k1 := keep_cell (w := W0.drew) hb1 hd1; have k2 := keep_cell (w := W0.drew) hb1 hd2; have k3 := keep_cell (w := W0.drew) hb1 hx0; have k4 := keep_cell (w := W0.drew) hb1 hy0)
      | (go_at_call_of 42 (Value.slice a2 o2.length c2); refine (vb_any o2 L2.out v2 _ _ _ ?_).mono ?_; exact (Hob2.out.keep Hb0.out.drew).keep hb1; rintro e w2 ⟨rfl, hb2⟩))
    all_goals
      have k5 := keep_cell hb2 (keep_cell (w := W0.drew) hb1 HX1.out)
      have k6 := keep_cell hb2 (keep_cell (w := W0.drew) hb1 HY1.out)
      have HF : Hid (Below w.heap.size w w2) := (Hb0.out.drew.trans (hb1.mono (by have := Hb0.out.size; exact this))).trans (hb2.mono (by have := Hb0.out.size; have := hb1.size; exact Nat.le_trans Hb0.out.size hb1.size))
      clear hd1 hd2 hx0 hy0 hb1 hb2
      by_cases hv : vbs o1 = vbs o2
      · have hve : ((vbs o1 : Int) == (vbs o2 : Int)) = true := beq_iff_eq.2 (by omega)
        have HV : Hid (vbs o1 = vbs o2) := hv
        clear hv
        go_wp2
        go_ret
        exact ⟨ret_bool (by rw [HB.out, if_pos HN.out, if_pos HV.out]), HF.out⟩
      · have hve : ((vbs o1 : Int) == (vbs o2 : Int)) = false := beq_eq_false_iff_ne.2 (by omega)
        have HV : Hid (¬ vbs o1 = vbs o2) := hv
        clear hv
        go_wp2
        go_ret
        exact ⟨ret_bool (by rw [HB.out, if_pos HN.out, if_neg HV.out]), HF.out⟩
  · have hne : ((o1.length : Int) == (o2.length : Int)) = false := beq_eq_false_iff_ne.2 (by omega)
    have HN : Hid (¬ o1.length = o2.length) := hn
    clear hn
    go_enter Try.func32, Try.ntmps32
    go_wp2
    go_quiet (fail)
    go_wp2
    go_ret
    refine ⟨ret_bool ?_, below_drewN (((Below.refl _ _).alloc (Nat.le_refl _) _).alloc (by simp) _) _⟩
    rw [HB.out, if_neg HN.out]
end Go.Proofs.Qxb6603497a.pick

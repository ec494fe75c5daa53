import Derived.Test.Qxb6603684aSkipLane
import Derived.Laws.BitsAllLaws
import Derived.WalkSmall
namespace Go.Proofs.Qxb6603684a.skip
open Go.ChangeShapes Go.WideShapes Go.ChangeAt Go.RowKit

theorem or_small {a b : Nat} (ha : a < 1073741824) (hb : b < 1073741824) : a ||| b < 1073741824 := Nat.or_lt_two_pow (n := 30) ha hb
theorem or_u32 {a b : Nat} (ha : a < 4294967296) (hb : b < 4294967296) : a ||| b < 4294967296 := Nat.or_lt_two_pow (n := 32) ha hb

/-- The four, or'ed as the text does it. -/
theorem or4 (a b c d : Nat) (ha : a < 4294967296) (hb : b < 4294967296) (hc : c < 4294967296) (hd : d < 4294967296) : ∃ x y z : Nat,
    bits .or .u32 (a : Int) (b : Int) = (x : Int) ∧ bits .or .u32 (x : Int) (c : Int) = (y : Int) ∧ bits .or .u32 (y : Int) (d : Int) = (z : Int) ∧
    (a < 1073741824 ∧ b < 1073741824 ∧ c < 1073741824 ∧ d < 1073741824 → decide ((1073741824 : Int) ≤ (z : Int)) = false) ∧
    (1073741824 ≤ a ∨ 1073741824 ≤ b ∨ 1073741824 ≤ c ∨ 1073741824 ≤ d → (1073741824 : Int) ≤ (z : Int)) := by
  have h1 := or_u32 ha hb
  have h2 := or_u32 h1 hc
  refine ⟨a ||| b, a ||| b ||| c, a ||| b ||| c ||| d, u32_or_nat a b ha hb, u32_or_nat _ c h1 hc, u32_or_nat _ d h2 hd, fun h => ?_, fun h => ?_⟩
  · have := or_small (or_small (or_small h.1 h.2.1) h.2.2.1) h.2.2.2
    simp; omega
  · have g1 : a ≤ a ||| b := Nat.left_le_or
    have g2 : b ≤ a ||| b := Nat.right_le_or
    have g3 : a ||| b ≤ a ||| b ||| c := Nat.left_le_or
    have g4 : c ≤ a ||| b ||| c := Nat.right_le_or
    have g5 : a ||| b ||| c ≤ a ||| b ||| c ||| d := Nat.left_le_or
    have g6 : d ≤ a ||| b ||| c ||| d := Nat.right_le_or
    omega

theorem run_min4 {P : Program} (w : World) (a b c d m : Nat) (h : min (min (min a b) c) d = m) (ts : Array TypeId) (t : TypeId) :
    (Builtin.min_ ts t #[.int .i64 (a : Int), .int .i64 (b : Int), .int .i64 (c : Int), .int .i64 (d : Int)]).run P w = .ok (.int .i64 (m : Int)) w := by
  have e : (if (d : Int) < (if (c : Int) < (if (b : Int) < (a : Int) then (b : Int) else (a : Int)) then (c : Int) else (if (b : Int) < (a : Int) then (b : Int) else (a : Int))) then (d : Int) else (if (c : Int) < (if (b : Int) < (a : Int) then (b : Int) else (a : Int)) then (c : Int) else (if (b : Int) < (a : Int) then (b : Int) else (a : Int)))) = (m : Int) := by
    split <;> split <;> split <;> omega
  simp only [Builtin.min_, Builtin.min2, List.foldlM, Sem.run_bind, Sem.run_pure]
  simp
  simp only [← Int.ofNat_lt]
  exact e

/-- A text in memory. -/
structure Txt (w : World) (za : Option Addr) (zn zc : Nat) (zs : List Nat) : Prop where
  len : zs.length = zn
  le : zn ≤ 65536
  cap : zn ≤ zc
  row : RowAt .u8 w za zs
  b8 : ∀ z ∈ zs, z < 256
/-- The transitions in memory. -/
structure Tab (w : World) (ta : Option Addr) (tn : Nat) (tr : List Nat) : Prop where
  len : tr.length = tn
  le : tn ≤ 65536
  row : RowAt .u32 w ta tr
  b32 : ∀ z ∈ tr, z < 4294967296
theorem Txt.keep {w w' : World} {za : Option Addr} {zn zc : Nat} {zs : List Nat} (h : Txt w za zn zc zs) (hb : Below w.heap.size w w') : Txt w' za zn zc zs := ⟨h.len, h.le, h.cap, h.row.keep hb, h.b8⟩
theorem Tab.keep {w w' : World} {ta : Option Addr} {tn : Nat} {tr : List Nat} (h : Tab w ta tn tr) (hb : Below w.heap.size w w') : Tab w' ta tn tr := ⟨h.len, h.le, h.row.keep hb, h.b32⟩

theorem row_base {k : IntKind} {w : World} {a : Option Addr} {zs : List Nat} (h : RowAt k w a zs) (h0 : 0 < zs.length) : ∃ b off, a = some ⟨b, off, none⟩ ∧ ∀ i (_ : i < zs.length), w.cell? ⟨b, off + i, none⟩ = some (.int k (zs[i] : Nat)) := by
  obtain ⟨b, off, h1, h2⟩ := h 0 h0
  refine ⟨b, off, h1, fun i hi => ?_⟩
  obtain ⟨b', off', h1', h2'⟩ := h i hi
  rw [h1] at h1'
  cases h1'
  exact h2'

/-- What one lane reads in the round i, in the walk's words. -/
theorem lane_read {w : World} {L tb toff : Nat} {cl : Nat → Nat} {tr zs : List Nat} {za : Option Addr} {zn zc tn i x : Nat}
    (hz : Txt w za zn zc zs) (hcl : ∀ i, i < 256 → w.cell? ⟨L, i, none⟩ = some (.int .u32 (cl i : Nat))) (htn : tr.length = tn)
    (ht : ∀ i (_ : i < tr.length), w.cell? ⟨tb, toff + i, none⟩ = some (.int .u32 (tr[i] : Nat))) (h32 : ∀ z ∈ tr, z < 4294967296)
    (hi : i < zn) (hin : idx cl x (zs.getD i 0) < tr.length) :
    ∃ b off c I T d : Nat, za = some ⟨b, off, none⟩ ∧ w.cell? ⟨b, off + i, none⟩ = some (.int .u8 (c : Nat)) ∧ c < 256 ∧ b < w.heap.size ∧ w.cell? ⟨L, c, none⟩ = some (.int .u32 (d : Nat)) ∧
      ((x : Int) + (d : Int)) % 4294967296 = (I : Int) ∧ I < tn ∧ w.cell? ⟨tb, toff + I, none⟩ = some (.int .u32 (T : Nat)) ∧ Hid (T < 4294967296) ∧ Hid (tr.getD (idx cl x (zs.getD i 0)) 0 = T) := by
  have hi' : i < zs.length := by rw [hz.len]; exact hi
  obtain ⟨b, off, h1, h2⟩ := hz.row i hi'
  have hc := hz.b8 zs[i] (List.getElem_mem hi')
  have e : zs.getD i 0 = zs[i] := by simp [List.getD, hi']
  rw [e] at hin
  refine ⟨b, off, zs[i], idx cl x zs[i], tr[idx cl x zs[i]], cl zs[i], h1, h2, hc, cell_lt h2, hcl _ hc, ?_, by rw [← htn]; exact hin, ht _ hin, h32 _ (List.getElem_mem hin), ?_⟩
  · unfold idx; omega
  · show _ = _; rw [e]; simp [List.getD, hin]

def SkRel (cl : Nat → Nat) (tr z0 z1 z2 z3 : List Nat) (v0 v1 v2 v3 k x0 x1 x2 x3 : Nat) : Prop :=
  run cl tr z0 k v0 = some x0 ∧ run cl tr z1 k v1 = some x1 ∧ run cl tr z2 k v2 = some x2 ∧ run cl tr z3 k v3 = some x3

theorem run_next {cl : Nat → Nat} {tr zs : List Nat} {k v x y : Nat} (h : run cl tr zs k v = some x) (h' : run cl tr zs (k + 1) v = some y) : idx cl x (zs.getD k 0) < tr.length ∧ tr.getD (idx cl x (zs.getD k 0)) 0 = y ∧ y < 1073741824 := by
  rw [run_succ h] at h'
  by_cases e : ok cl tr x (zs.getD k 0) = true
  · rw [if_pos e] at h'
    unfold ok at e
    simp only [Bool.and_eq_true, decide_eq_true_eq] at e
    exact ⟨e.1, by simpa using h', by rw [← Option.some.inj h']; exact e.2⟩
  · rw [if_neg e] at h'; cases h'
theorem not_ok {cl : Nat → Nat} {tr zs : List Nat} {N u T : Nat} (h : idx cl u (zs.getD N 0) < tr.length) (hT : tr.getD (idx cl u (zs.getD N 0)) 0 = T) (h' : ok cl tr u (zs.getD N 0) = false) : 1073741824 ≤ T := by
  unfold ok at h'
  rw [hT] at h'
  simp only [Bool.and_eq_false_iff, decide_eq_false_iff_not] at h'
  omega

def SkipPost (N u0 u1 u2 u3 : Nat) (w : World) (e : Ending) (w' : World) : Prop :=
  e = .returned (.tuple #[.int .i64 (N : Int), .int .u32 (u0 : Int), .int .u32 (u1 : Int), .int .u32 (u2 : Int), .int .u32 (u3 : Int)]) ∧ Below w.heap.size w w'

theorem results_tmp5 {fn : Func} {t0 t1 t2 t3 t4 : Tmp} (h : fn.results = #[.tmp t0, .tmp t1, .tmp t2, .tmp t3, .tmp t4]) (tmps : Array Value) (P : Program) (w : World) :
    (results fn tmps).run P w = .ok (.tuple #[tmps.getD t0 undef, tmps.getD t1 undef, tmps.getD t2 undef, tmps.getD t3 undef, tmps.getD t4 undef]) w := by
  simp [results, h]

set_option maxHeartbeats 4000000 in
set_option maxRecDepth 8000 in
theorem skip4_any (w : World) (L : Nat) (cl : Nat → Nat) (hcl : ∀ i, i < 256 → w.cell? ⟨L, i, none⟩ = some (.int .u32 (cl i : Nat)))
    (tr : List Nat) (ta : Option Addr) (tn tc : Nat) (htr : Tab w ta tn tr) (hL : w.cell? ⟨L, 258, none⟩ = some (.slice ta tn tc))
    (z0 z1 z2 z3 : List Nat) (a0 a1 a2 a3 : Option Addr) (n0 n1 n2 n3 c0 c1 c2 c3 : Nat) (hz0 : Txt w a0 n0 c0 z0) (hz1 : Txt w a1 n1 c1 z1) (hz2 : Txt w a2 n2 c2 z2) (hz3 : Txt w a3 n3 c3 z3)
    (v0 v1 v2 v3 : Nat) (b0 : v0 < 1073741824) (b1 : v1 < 1073741824) (b2 : v2 < 1073741824) (b3 : v3 < 1073741824)
    (m N u0 u1 u2 u3 : Nat) (hm : min (min (min n0 n1) n2) n3 = m) (hN : N ≤ m)
    (r0 : run cl tr z0 N v0 = some u0) (r1 : run cl tr z1 N v1 = some u1) (r2 : run cl tr z2 N v2 = some u2) (r3 : run cl tr z3 N v3 = some u3)
    (hst : N < m → idx cl u0 (z0.getD N 0) < tr.length ∧ idx cl u1 (z1.getD N 0) < tr.length ∧ idx cl u2 (z2.getD N 0) < tr.length ∧ idx cl u3 (z3.getD N 0) < tr.length ∧
      (ok cl tr u0 (z0.getD N 0) = false ∨ ok cl tr u1 (z1.getD N 0) = false ∨ ok cl tr u2 (z2.getD N 0) = false ∨ ok cl tr u3 (z3.getD N 0) = false)) :
    Calls Try.prog 12 #[.pointer (some ⟨L, 0, none⟩), .slice a0 n0 c0, .slice a1 n1 c1, .slice a2 n2 c2, .slice a3 n3 c3, .int .u32 (v0 : Int), .int .u32 (v1 : Int), .int .u32 (v2 : Int), .int .u32 (v3 : Int)] w fun e w' => SkipPost N u0 u1 u2 u3 w e w' := by
  have hLw := cell_lt hL
  obtain ⟨x, y, z, ho1, ho2, ho3, ho4, -⟩ := or4 v0 v1 v2 v3 (by omega) (by omega) (by omega) (by omega)
  replace ho4 := ho4 ⟨b0, b1, b2, b3⟩
  have hk0 : m ≤ c0 := by have := hz0.cap; omega
  have hk1 : m ≤ c1 := by have := hz1.cap; omega
  have hk2 : m ≤ c2 := by have := hz2.cap; omega
  have hk3 : m ≤ c3 := by have := hz3.cap; omega
  have hq0 : m ≤ n0 := by omega
  have hq1 : m ≤ n1 := by omega
  have hq2 : m ≤ n2 := by omega
  have hq3 : m ≤ n3 := by omega
  have h16 : m ≤ 65536 := by have := hz0.le; omega
  have hmin := fun w' => run_min4 (P := Try.prog) w' n0 n1 n2 n3 m hm
  have HCL : Hid (∀ i, i < 256 → w.cell? ⟨L, i, none⟩ = some (.int .u32 (cl i : Nat))) := hcl
  have HTR : Hid (Tab w ta tn tr) := htr
  have HZ0 : Hid (Txt w a0 n0 c0 z0) := hz0
  have HZ1 : Hid (Txt w a1 n1 c1 z1) := hz1
  have HZ2 : Hid (Txt w a2 n2 c2 z2) := hz2
  have HZ3 : Hid (Txt w a3 n3 c3 z3) := hz3
  have HR0 : Hid (run cl tr z0 N v0 = some u0) := r0
  have HR1 : Hid (run cl tr z1 N v1 = some u1) := r1
  have HR2 : Hid (run cl tr z2 N v2 = some u2) := r2
  have HR3 : Hid (run cl tr z3 N v3 = some u3) := r3
  have HST : Hid (N < m → _) := hst
  clear hcl htr hz0 hz1 hz2 hz3 r0 r1 r2 r3 hst hm b0 b1 b2 b3
  go_enter Try.func12, Try.ntmps12
  go_wp2
  go_quiet (fail)
  go_wp2
  go_quiet (fail)
  go_wp2
  go_loopw [5, 6, 7, 8, 18, 71] (fun s0 s1 s2 s3 sn i wr => ∃ k x0 x1 x2 x3 d : Nat, k ≤ N ∧ i = .int .i64 k ∧ s0 = .int .u32 x0 ∧ s1 = .int .u32 x1 ∧ s2 = .int .u32 x2 ∧ s3 = .int .u32 x3 ∧ sn = .int .i64 (m : Int) ∧ SkRel cl tr z0 z1 z2 z3 v0 v1 v2 v3 k x0 x1 x2 x3 ∧ wr = w.drewN d) (fun _ _ _ _ _ i _ => m - (intOf i).toNat)
  case atStart => exact ⟨0, v0, v1, v2, v3, _, Nat.zero_le _, rfl, rfl, rfl, rfl, rfl, rfl, ⟨rfl, rfl, rfl, rfl⟩, World.drewN_drewN ..⟩
  case round =>
    obtain ⟨k, x0, x1, x2, x3, dr, hk, rfl, rfl, rfl, rfl, rfl, rfl, hrl, rfl⟩ := hrel
    have HR : Hid (SkRel cl tr z0 z1 z2 z3 v0 v1 v2 v3 k x0 x1 x2 x3) := hrl
    clear hrl
    clear ho1 ho2 ho3 ho4
    by_cases hlt : k < m
    · have hins : idx cl x0 (z0.getD k 0) < tr.length ∧ idx cl x1 (z1.getD k 0) < tr.length ∧ idx cl x2 (z2.getD k 0) < tr.length ∧ idx cl x3 (z3.getD k 0) < tr.length := by
        obtain ⟨g0, g1, g2, g3⟩ := HR.out
        by_cases hkN : k < N
        · obtain ⟨y0, e0⟩ := run_pre HR0.out (k + 1) hkN
          obtain ⟨y1, e1⟩ := run_pre HR1.out (k + 1) hkN
          obtain ⟨y2, e2⟩ := run_pre HR2.out (k + 1) hkN
          obtain ⟨y3, e3⟩ := run_pre HR3.out (k + 1) hkN
          exact ⟨(run_next g0 e0).1, (run_next g1 e1).1, (run_next g2 e2).1, (run_next g3 e3).1⟩
        · obtain rfl : k = N := by omega
          have f0 := g0.symm.trans HR0.out
          have f1 := g1.symm.trans HR1.out
          have f2 := g2.symm.trans HR2.out
          have f3 := g3.symm.trans HR3.out
          cases f0; cases f1; cases f2; cases f3
          have h := HST.out hlt
          exact ⟨h.1, h.2.1, h.2.2.1, h.2.2.2.1⟩
      have HIN : Hid (_ ∧ _ ∧ _ ∧ _) := hins
      clear hins
      obtain ⟨tb, toff, rfl, hrow⟩ := row_base HTR.out.row (Nat.lt_of_le_of_lt (Nat.zero_le _) HIN.out.1)
      obtain ⟨p0, q0, d0, I0, T0, e0, rfl, hb0, hd0, hp0, hc0, hI0, hJ0, ht0, HT0, HV0⟩ := lane_read HZ0.out HCL.out HTR.out.len hrow HTR.out.b32 (show k < n0 by omega) HIN.out.1
      obtain ⟨p1, q1, d1, I1, T1, e1, rfl, hb1, hd1, hp1, hc1, hI1, hJ1, ht1, HT1, HV1⟩ := lane_read HZ1.out HCL.out HTR.out.len hrow HTR.out.b32 (show k < n1 by omega) HIN.out.2.1
      obtain ⟨p2, q2, d2, I2, T2, e2, rfl, hb2, hd2, hp2, hc2, hI2, hJ2, ht2, HT2, HV2⟩ := lane_read HZ2.out HCL.out HTR.out.len hrow HTR.out.b32 (show k < n2 by omega) HIN.out.2.2.1
      obtain ⟨p3, q3, d3, I3, T3, e3, rfl, hb3, hd3, hp3, hc3, hI3, hJ3, ht3, HT3, HV3⟩ := lane_read HZ3.out HCL.out HTR.out.len hrow HTR.out.b32 (show k < n3 by omega) HIN.out.2.2.2
      have htb := cell_lt ht0
      obtain ⟨x, y, z, ho1, ho2, ho3, ho4, ho5⟩ := or4 T0 T1 T2 T3 HT0.out HT1.out HT2.out HT3.out
      clear hrow
      by_cases hkN : k < N
      · have HX : Hid (run cl tr z0 (k+1) v0 = some T0 ∧ run cl tr z1 (k+1) v1 = some T1 ∧ run cl tr z2 (k+1) v2 = some T2 ∧ run cl tr z3 (k+1) v3 = some T3 ∧ T0 < 1073741824 ∧ T1 < 1073741824 ∧ T2 < 1073741824 ∧ T3 < 1073741824) := by
          obtain ⟨g0, g1, g2, g3⟩ := HR.out
          obtain ⟨y0, e0⟩ := run_pre HR0.out (k + 1) hkN
          obtain ⟨y1, e1⟩ := run_pre HR1.out (k + 1) hkN
          obtain ⟨y2, e2⟩ := run_pre HR2.out (k + 1) hkN
          obtain ⟨y3, e3⟩ := run_pre HR3.out (k + 1) hkN
          have f0 := run_next g0 e0
          have f1 := run_next g1 e1
          have f2 := run_next g2 e2
          have f3 := run_next g3 e3
          rw [HV0.out] at f0
          rw [HV1.out] at f1
          rw [HV2.out] at f2
          rw [HV3.out] at f3
          rw [← f0.2.1] at e0 f0
          rw [← f1.2.1] at e1 f1
          rw [← f2.2.1] at e2 f2
          rw [← f3.2.1] at e3 f3
          exact ⟨e0, e1, e2, e3, f0.2.2, f1.2.2, f2.2.2, f3.2.2⟩
        replace ho4 := ho4 HX.out.2.2.2.2
        clear ho5
        go_wp2
        go_quiet (fail)
        go_wp2
        go_round
        case rel => exact ⟨k + 1, T0, T1, T2, T3, _, hkN, by go_num, rfl, rfl, rfl, rfl, rfl, ⟨HX.out.1, HX.out.2.1, HX.out.2.2.1, HX.out.2.2.2.1⟩, rfl⟩
        case measure => simp [intOf]; omega
      · obtain rfl : k = N := by omega
        have HE : Hid (x0 = u0 ∧ x1 = u1 ∧ x2 = u2 ∧ x3 = u3) := by
          obtain ⟨g0, g1, g2, g3⟩ := HR.out
          exact ⟨Option.some.inj (g0.symm.trans HR0.out), Option.some.inj (g1.symm.trans HR1.out), Option.some.inj (g2.symm.trans HR2.out), Option.some.inj (g3.symm.trans HR3.out)⟩
        obtain ⟨rfl, rfl, rfl, rfl⟩ := HE.out
        replace ho5 := ho5 (by
          have h := (HST.out hlt).2.2.2.2
          rcases h with h | h | h | h
          · exact .inl (not_ok HIN.out.1 HV0.out h)
          · exact .inr (.inl (not_ok HIN.out.2.1 HV1.out h))
          · exact .inr (.inr (.inl (not_ok HIN.out.2.2.1 HV2.out h)))
          · exact .inr (.inr (.inr (not_ok HIN.out.2.2.2 HV3.out h))))
        clear ho4 HE
        go_wp2
        go_quiet (fail)
        go_wp2
        (try simp only [Exit.inBlock, Exit.then])
        refine bodyPost_ret (results_tmp5 rfl _ _ _) rfl ⟨rfl, ?_⟩
        exact below_drewN (Below.refl _ _) _
    · obtain rfl : k = N := by omega
      obtain rfl : k = m := by omega
      have HE : Hid (x0 = u0 ∧ x1 = u1 ∧ x2 = u2 ∧ x3 = u3) := by
        obtain ⟨g0, g1, g2, g3⟩ := HR.out
        exact ⟨Option.some.inj (g0.symm.trans HR0.out), Option.some.inj (g1.symm.trans HR1.out), Option.some.inj (g2.symm.trans HR2.out), Option.some.inj (g3.symm.trans HR3.out)⟩
      obtain ⟨rfl, rfl, rfl, rfl⟩ := HE.out
      clear HE
      go_wp2
      (try simp only [Exit.inBlock, Exit.then])
      refine bodyPost_ret (results_tmp5 rfl _ _ _) rfl ⟨rfl, ?_⟩
      exact below_drewN (Below.refl _ _) _
end Go.Proofs.Qxb6603684a.skip

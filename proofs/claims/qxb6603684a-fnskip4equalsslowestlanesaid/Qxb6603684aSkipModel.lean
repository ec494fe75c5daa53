import Derived.Test.Qxb6603684aSkipZZ
import Derived.Deep.DeepCutAuto
namespace Go.Proofs.Qxb6603684a.skip
open Go.ChangeShapes Go.WideShapes Go.ChangeAt Go.RowKit

theorem chain {a b c : World} (h : Below a.heap.size a b) (h' : Below b.heap.size b c) : Below a.heap.size a c := h.trans (h'.mono h.size)

theorem keepC {C : Array Value} {wA wk : World} {L : Nat} (h : ∀ i, i < 256 → wA.cell? ⟨L, i, none⟩ = C[i]?) (hL : L < wA.heap.size) (hb : Below wA.heap.size wA wk) : ∀ i, i < 256 → wk.cell? ⟨L, i, none⟩ = C[i]? :=
  fun i hi => (hb.cell (p := ⟨L, i, none⟩) hL).trans (h i hi)

theorem lane' {C : Array Value} {cl : Nat → Nat} (hC : Cls C cl) {wA wk : World} {ta za : Option Addr} {tn zn zc : Nat} {tr zs : List Nat} (ht : Tab wA ta tn tr) (hz : Txt wA za zn zc zs) (hb : Below wA.heap.size wA wk) (tc m v : Nat) (hm : m ≤ zn) (hv : v < 4294967296) :
    Calls Try.prog 11 #[.agg C, .slice ta tn tc, .slice za zn zc, .int .i64 (m : Int), .int .u32 (v : Int)] wk fun e w' => LanePost cl tr zs m v wk e w' :=
  lane_any C cl hC tr zs tn zn ht.len hz.len ht.le hz.le ta za tc zc m v hm hv wk (ht.keep hb).row (hz.keep hb).row hz.b8 ht.b32

theorem lane_full {cl : Nat → Nat} {tr zs : List Nat} {N v s u s0 u0 : Nat} {x : Bool} (h : Lane cl tr zs N v s u x) (hr : run cl tr zs s0 v = some u0) (hN : N ≤ s0) : run cl tr zs N v = some u := by
  by_cases e : s = N
  · rw [← e]; exact h.run
  · exfalso
    have hlt : s < N := by have := h.le; omega
    obtain ⟨y, hy⟩ := run_pre hr (s + 1) (by omega)
    rw [run_succ h.run, h.stop hlt] at hy
    simp at hy

theorem lane_end {cl : Nat → Nat} {tr zs : List Nat} {m v s g N u : Nat} {x : Bool} (h : Lane cl tr zs m v s g x) (hN : N ≤ s) (hx : ¬ (x = true ∧ s = N)) (hr : run cl tr zs N v = some u) (hNm : N < m) :
    idx cl u (zs.getD N 0) < tr.length ∧ (s = N → ok cl tr u (zs.getD N 0) = false) := by
  by_cases e : s = N
  · subst e
    have hu : g = u := Option.some.inj (h.run.symm.trans hr)
    subst hu
    refine ⟨?_, fun _ => h.stop hNm⟩
    rcases Nat.lt_or_ge (idx cl g (zs.getD s 0)) tr.length with h1 | h1
    · exact h1
    · exact absurd ⟨h.out.2 ⟨hNm, h1⟩, rfl⟩ hx
  · refine ⟨?_, fun h => absurd h e⟩
    obtain ⟨y, hy⟩ := run_pre h.run (N + 1) (by omega)
    exact (run_next hr hy).1

/-- What the model's answer says. -/
def Slow (cl : Nat → Nat) (tr z0 z1 z2 z3 : List Nat) (v0 v1 v2 v3 m N u0 u1 u2 u3 : Nat) : Prop :=
  N ≤ m ∧ run cl tr z0 N v0 = some u0 ∧ run cl tr z1 N v1 = some u1 ∧ run cl tr z2 N v2 = some u2 ∧ run cl tr z3 N v3 = some u3 ∧
  (N < m → idx cl u0 (z0.getD N 0) < tr.length ∧ idx cl u1 (z1.getD N 0) < tr.length ∧ idx cl u2 (z2.getD N 0) < tr.length ∧ idx cl u3 (z3.getD N 0) < tr.length ∧
      (ok cl tr u0 (z0.getD N 0) = false ∨ ok cl tr u1 (z1.getD N 0) = false ∨ ok cl tr u2 (z2.getD N 0) = false ∨ ok cl tr u3 (z3.getD N 0) = false))

theorem slow_of {cl : Nat → Nat} {tr z0 z1 z2 z3 : List Nat} {v0 v1 v2 v3 m N u0 u1 u2 u3 s0 s1 s2 s3 g0 g1 g2 g3 r0 r1 r2 r3 : Nat} {x0 x1 x2 x3 y0 y1 y2 y3 : Bool}
    (l0 : Lane cl tr z0 m v0 s0 g0 x0) (l1 : Lane cl tr z1 m v1 s1 g1 x1) (l2 : Lane cl tr z2 m v2 s2 g2 x2) (l3 : Lane cl tr z3 m v3 s3 g3 x3) (hN : min (min (min s0 s1) s2) s3 = N)
    (f0 : ¬ (x0 = true ∧ s0 = N)) (f1 : ¬ (x1 = true ∧ s1 = N)) (f2 : ¬ (x2 = true ∧ s2 = N)) (f3 : ¬ (x3 = true ∧ s3 = N))
    (k0 : Lane cl tr z0 N v0 r0 u0 y0) (k1 : Lane cl tr z1 N v1 r1 u1 y1) (k2 : Lane cl tr z2 N v2 r2 u2 y2) (k3 : Lane cl tr z3 N v3 r3 u3 y3) : Slow cl tr z0 z1 z2 z3 v0 v1 v2 v3 m N u0 u1 u2 u3 := by
  have q0 := lane_full k0 l0.run (by omega)
  have q1 := lane_full k1 l1.run (by omega)
  have q2 := lane_full k2 l2.run (by omega)
  have q3 := lane_full k3 l3.run (by omega)
  refine ⟨by have := l0.le; omega, q0, q1, q2, q3, fun hlt => ?_⟩
  have e0 := lane_end l0 (by omega) f0 q0 hlt
  have e1 := lane_end l1 (by omega) f1 q1 hlt
  have e2 := lane_end l2 (by omega) f2 q2 hlt
  have e3 := lane_end l3 (by omega) f3 q3 hlt
  refine ⟨e0.1, e1.1, e2.1, e3.1, ?_⟩
  have : s0 = N ∨ s1 = N ∨ s2 = N ∨ s3 = N := by omega
  rcases this with h | h | h | h
  · exact .inl (e0.2 h)
  · exact .inr (.inl (e1.2 h))
  · exact .inr (.inr (.inl (e2.2 h)))
  · exact .inr (.inr (.inr (e3.2 h)))

theorem results_tmp6 {fn : Func} {t0 t1 t2 t3 t4 t5 : Tmp} (h : fn.results = #[.tmp t0, .tmp t1, .tmp t2, .tmp t3, .tmp t4, .tmp t5]) (tmps : Array Value) (P : Program) (w : World) :
    (results fn tmps).run P w = .ok (.tuple #[tmps.getD t0 undef, tmps.getD t1 undef, tmps.getD t2 undef, tmps.getD t3 undef, tmps.getD t4 undef, tmps.getD t5 undef]) w := by
  simp [results, h]

def ModelPost (cl : Nat → Nat) (tr z0 z1 z2 z3 : List Nat) (v0 v1 v2 v3 m : Nat) (w : World) (e : Ending) (w' : World) : Prop :=
  ∃ (N u0 u1 u2 u3 : Nat) (b : Bool), e = .returned (.tuple #[.int .i64 (N : Int), .int .u32 (u0 : Int), .int .u32 (u1 : Int), .int .u32 (u2 : Int), .int .u32 (u3 : Int), .bool b]) ∧ Below w.heap.size w w' ∧
    (b = true → Slow cl tr z0 z1 z2 z3 v0 v1 v2 v3 m N u0 u1 u2 u3)

set_option maxHeartbeats 8000000 in
set_option maxRecDepth 8000 in
theorem model_any (C : Array Value) (cl : Nat → Nat) (hC : Cls C cl) (w : World)
    (tr : List Nat) (ta : Option Addr) (tn tc : Nat) (htr : Tab w ta tn tr)
    (z0 z1 z2 z3 : List Nat) (a0 a1 a2 a3 : Option Addr) (n0 n1 n2 n3 c0 c1 c2 c3 : Nat) (hz0 : Txt w a0 n0 c0 z0) (hz1 : Txt w a1 n1 c1 z1) (hz2 : Txt w a2 n2 c2 z2) (hz3 : Txt w a3 n3 c3 z3)
    (v0 v1 v2 v3 : Nat) (b0 : v0 < 1073741824) (b1 : v1 < 1073741824) (b2 : v2 < 1073741824) (b3 : v3 < 1073741824)
    (m : Nat) (hm : min (min (min n0 n1) n2) n3 = m) :
    Calls Try.prog 8 #[.agg C, .slice ta tn tc, .slice a0 n0 c0, .slice a1 n1 c1, .slice a2 n2 c2, .slice a3 n3 c3, .int .u32 (v0 : Int), .int .u32 (v1 : Int), .int .u32 (v2 : Int), .int .u32 (v3 : Int)] w fun e w' => ModelPost cl tr z0 z1 z2 z3 v0 v1 v2 v3 m w e w' := by
  obtain ⟨wA, hwA⟩ : ∃ x, w.alloc (.cells C 28) = x := ⟨_, rfl⟩
  have hbA : Below w.heap.size w wA := by rw [← hwA]; exact (Below.refl _ _).alloc (Nat.le_refl _) _
  have HBA : Hid (Below w.heap.size w wA) := hbA
  have HCC : Hid (∀ i, i < 256 → wA.cell? ⟨w.heap.size, i, none⟩ = C[i]?) := fun i _ => by rw [← hwA]; exact cell_box w C 28 i
  have HSZ : Hid (w.heap.size < wA.heap.size) := by rw [← hwA]; simp [Hid]
  have HC : Hid (Cls C cl) := hC
  have HTR : Hid (Tab wA ta tn tr) := htr.keep hbA
  have HZ0 : Hid (Txt wA a0 n0 c0 z0) := hz0.keep hbA
  have HZ1 : Hid (Txt wA a1 n1 c1 z1) := hz1.keep hbA
  have HZ2 : Hid (Txt wA a2 n2 c2 z2) := hz2.keep hbA
  have HZ3 : Hid (Txt wA a3 n3 c3 z3) := hz3.keep hbA
  have HV : Hid (v0 < 4294967296 ∧ v1 < 4294967296 ∧ v2 < 4294967296 ∧ v3 < 4294967296) := ⟨by omega, by omega, by omega, by omega⟩
  have hd0 : decide ((1073741824 : Int) ≤ (v0 : Int)) = false := by simp; omega
  have hd1 : decide ((1073741824 : Int) ≤ (v1 : Int)) = false := by simp; omega
  have hd2 : decide ((1073741824 : Int) ≤ (v2 : Int)) = false := by simp; omega
  have hd3 : decide ((1073741824 : Int) ≤ (v3 : Int)) = false := by simp; omega
  obtain ⟨m1, hm1⟩ : ∃ x, min n0 n1 = x := ⟨_, rfl⟩
  obtain ⟨m2, hm2⟩ : ∃ x, min m1 n2 = x := ⟨_, rfl⟩
  have hm3 : min m2 n3 = m := by omega
  have HM : Hid (m ≤ n0 ∧ m ≤ n1 ∧ m ≤ n2 ∧ m ≤ n3) := ⟨by omega, by omega, by omega, by omega⟩
  have HM1 : Hid (min n0 n1 = m1) := hm1
  have HM2 : Hid (min m1 n2 = m2) := hm2
  have HM3 : Hid (min m2 n3 = m) := hm3
  clear hC htr hz0 hz1 hz2 hz3 b0 b1 b2 b3 hm hm1 hm2 hm3 hbA
  go_enter Try.func8, Try.ntmps8
  go_upto_if 75 with fail
  go_cut [26] (fun n wx => n = .int .i64 (m1 : Int) ∧ wx = wA)
  case first =>
    as_aux_lemma =>
    by_cases hlt : n1 < n0
    · go_wp2_with fail
      go_meet
      exact ⟨by have : n1 = m1 := by { have := HM1.out; omega }
                rw [this], rfl⟩
    · go_wp2_with fail
      go_meet
      exact ⟨by have : n0 = m1 := by { have := HM1.out; omega }
                rw [this], rfl⟩
  case rest =>
  obtain ⟨rfl, hw⟩ := hcut
  subst hw
  clear hwA
  go_upto_if 81 with fail
  go_cut [26] (fun n wx => n = .int .i64 (m2 : Int) ∧ wx = wc)
  case first =>
    as_aux_lemma =>
    by_cases hlt : n2 < m1
    · go_wp2_with fail
      go_meet
      exact ⟨by have : n2 = m2 := by { have := HM2.out; omega }
                rw [this], rfl⟩
    · go_wp2_with fail
      go_meet
      exact ⟨by have : m1 = m2 := by { have := HM2.out; omega }
                rw [this], rfl⟩
  case rest =>
  obtain ⟨rfl, hw⟩ := hcut
  subst hw
  go_upto_if 87 with fail
  go_cut [26] (fun n wx => n = .int .i64 (m : Int) ∧ wx = wc)
  case first =>
    as_aux_lemma =>
    by_cases hlt : n3 < m2
    · go_wp2_with fail
      go_meet
      exact ⟨by have : n3 = m := by { have := HM3.out; omega }
                rw [this], rfl⟩
    · go_wp2_with fail
      go_meet
      exact ⟨by have : m2 = m := by { have := HM3.out; omega }
                rw [this], rfl⟩
  case rest =>
  obtain ⟨rfl, hw⟩ := hcut
  subst hw
  obtain ⟨wA, rfl⟩ : ∃ x, x = wc := ⟨wc, rfl⟩
  have HB0 : Hid (Below wA.heap.size wA wA) := Below.refl _ _
  go_wp2_with (refine wpList_loadAgg _ rfl 28 27 _ rfl 256 w.heap.size C rfl Try.underlying28 (by kernel_rfl) HC.out.size (keepC HCC.out HSZ.out HB0.out) ?_)
  refine (lane' HC.out HTR.out HZ0.out HB0.out tc m v0 (HM.out.1) HV.out.1).mono ?_
  rintro e w1 ⟨s0, g0, x0, rfl, hl, hb⟩
  have HL0 : Hid (Lane cl tr z0 m v0 s0 g0 x0) := hl
  have HB1 : Hid (Below wA.heap.size wA w1) := chain HB0.out hb
  clear hl hb
  go_wp2_with (refine wpList_loadAgg _ rfl 28 27 _ rfl 256 w.heap.size C rfl Try.underlying28 (by kernel_rfl) HC.out.size (keepC HCC.out HSZ.out HB1.out) ?_)
  refine (lane' HC.out HTR.out HZ1.out HB1.out tc m v1 (HM.out.2.1) HV.out.2.1).mono ?_
  rintro e w2 ⟨s1, g1, x1, rfl, hl, hb⟩
  have HL1 : Hid (Lane cl tr z1 m v1 s1 g1 x1) := hl
  have HB2 : Hid (Below wA.heap.size wA w2) := chain HB1.out hb
  clear hl hb
  go_wp2_with (refine wpList_loadAgg _ rfl 28 27 _ rfl 256 w.heap.size C rfl Try.underlying28 (by kernel_rfl) HC.out.size (keepC HCC.out HSZ.out HB2.out) ?_)
  refine (lane' HC.out HTR.out HZ2.out HB2.out tc m v2 (HM.out.2.2.1) HV.out.2.2.1).mono ?_
  rintro e w3 ⟨s2, g2, x2, rfl, hl, hb⟩
  have HL2 : Hid (Lane cl tr z2 m v2 s2 g2 x2) := hl
  have HB3 : Hid (Below wA.heap.size wA w3) := chain HB2.out hb
  clear hl hb
  go_wp2_with (refine wpList_loadAgg _ rfl 28 27 _ rfl 256 w.heap.size C rfl Try.underlying28 (by kernel_rfl) HC.out.size (keepC HCC.out HSZ.out HB3.out) ?_)
  refine (lane' HC.out HTR.out HZ3.out HB3.out tc m v3 (HM.out.2.2.2) HV.out.2.2.2).mono ?_
  rintro e w4 ⟨s3, g3, x3, rfl, hl, hb⟩
  have HL3 : Hid (Lane cl tr z3 m v3 s3 g3 x3) := hl
  have HB4 : Hid (Below wA.heap.size wA w4) := chain HB3.out hb
  clear hl hb
  obtain ⟨N1, hN1⟩ : ∃ x, min s0 s1 = x := ⟨_, rfl⟩
  obtain ⟨N2, hN2⟩ : ∃ x, min N1 s2 = x := ⟨_, rfl⟩
  obtain ⟨N, hN3⟩ : ∃ x, min N2 s3 = x := ⟨_, rfl⟩
  have HN1 : Hid (min s0 s1 = N1) := hN1
  have HN2 : Hid (min N1 s2 = N2) := hN2
  have HN3 : Hid (min N2 s3 = N) := hN3
  have HN : Hid (min (min (min s0 s1) s2) s3 = N) := by show _ = _; omega
  have HNM : Hid (N ≤ m) := by have := HL0.out.le; show _ ≤ _; omega
  clear hN1 hN2 hN3
  go_upto_if 133 with fail
  go_cut [39] (fun n wx => n = .int .i64 (N1 : Int) ∧ wx = w4)
  case first =>
    as_aux_lemma =>
    by_cases hlt : s1 < s0
    · go_wp2_with fail
      go_meet
      exact ⟨by have : s1 = N1 := by { have := HN1.out; omega }
                rw [this], rfl⟩
    · go_wp2_with fail
      go_meet
      exact ⟨by have : s0 = N1 := by { have := HN1.out; omega }
                rw [this], rfl⟩
  case rest =>
  obtain ⟨rfl, hw⟩ := hcut
  subst hw
  obtain ⟨w4, rfl⟩ : ∃ x, x = wc := ⟨wc, rfl⟩
  go_upto_if 137 with fail
  go_cut [39] (fun n wx => n = .int .i64 (N2 : Int) ∧ wx = w4)
  case first =>
    as_aux_lemma =>
    by_cases hlt : s2 < N1
    · go_wp2_with fail
      go_meet
      exact ⟨by have : s2 = N2 := by { have := HN2.out; omega }
                rw [this], rfl⟩
    · go_wp2_with fail
      go_meet
      exact ⟨by have : N1 = N2 := by { have := HN2.out; omega }
                rw [this], rfl⟩
  case rest =>
  obtain ⟨rfl, hw⟩ := hcut
  subst hw
  obtain ⟨w4, rfl⟩ : ∃ x, x = wc := ⟨wc, rfl⟩
  go_upto_if 141 with fail
  go_cut [39] (fun n wx => n = .int .i64 (N : Int) ∧ wx = w4)
  case first =>
    as_aux_lemma =>
    by_cases hlt : s3 < N2
    · go_wp2_with fail
      go_meet
      exact ⟨by have : s3 = N := by { have := HN3.out; omega }
                rw [this], rfl⟩
    · go_wp2_with fail
      go_meet
      exact ⟨by have : N2 = N := by { have := HN3.out; omega }
                rw [this], rfl⟩
  case rest =>
  obtain ⟨rfl, hw⟩ := hcut
  subst hw
  obtain ⟨w4, rfl⟩ : ∃ x, x = wc := ⟨wc, rfl⟩
  obtain ⟨B, hB⟩ : ∃ B, ((x0 && ((s0 : Int) == (N : Int))) || (x1 && ((s1 : Int) == (N : Int))) || (x2 && ((s2 : Int) == (N : Int))) || (x3 && ((s3 : Int) == (N : Int)))) = B := ⟨_, rfl⟩
  have HBB : Hid (((x0 && ((s0 : Int) == (N : Int))) || (x1 && ((s1 : Int) == (N : Int))) || (x2 && ((s2 : Int) == (N : Int))) || (x3 && ((s3 : Int) == (N : Int)))) = B) := hB
  clear hB
  go_upto_region 21 with fail
  go_cut [172] (fun c wx => c = .bool B ∧ wx = w4)
  case first =>
    as_aux_lemma =>
    cases x0
    · cases x1
      · cases x2
        · cases x3
          · as_aux_lemma =>
            go_wp2_with fail
            go_meet
            exact ⟨by rw [← HBB.out]; simp [*], rfl⟩
          · cases e3 : ((s3 : Int) == (N : Int))
            · as_aux_lemma =>
              go_wp2_with fail
              go_meet
              exact ⟨by rw [← HBB.out]; simp [*], rfl⟩
            · as_aux_lemma =>
              go_wp2_with fail
              go_meet
              exact ⟨by rw [← HBB.out]; simp [*], rfl⟩
        · cases e2 : ((s2 : Int) == (N : Int))
          · cases x3
            · as_aux_lemma =>
              go_wp2_with fail
              go_meet
              exact ⟨by rw [← HBB.out]; simp [*], rfl⟩
            · cases e3 : ((s3 : Int) == (N : Int))
              · as_aux_lemma =>
                go_wp2_with fail
                go_meet
                exact ⟨by rw [← HBB.out]; simp [*], rfl⟩
              · as_aux_lemma =>
                go_wp2_with fail
                go_meet
                exact ⟨by rw [← HBB.out]; simp [*], rfl⟩
          · as_aux_lemma =>
            go_wp2_with fail
            go_meet
            exact ⟨by rw [← HBB.out]; simp [*], rfl⟩
      · cases e1 : ((s1 : Int) == (N : Int))
        · cases x2
          · cases x3
            · as_aux_lemma =>
              go_wp2_with fail
              go_meet
              exact ⟨by rw [← HBB.out]; simp [*], rfl⟩
            · cases e3 : ((s3 : Int) == (N : Int))
              · as_aux_lemma =>
                go_wp2_with fail
                go_meet
                exact ⟨by rw [← HBB.out]; simp [*], rfl⟩
              · as_aux_lemma =>
                go_wp2_with fail
                go_meet
                exact ⟨by rw [← HBB.out]; simp [*], rfl⟩
          · cases e2 : ((s2 : Int) == (N : Int))
            · cases x3
              · as_aux_lemma =>
                go_wp2_with fail
                go_meet
                exact ⟨by rw [← HBB.out]; simp [*], rfl⟩
              · cases e3 : ((s3 : Int) == (N : Int))
                · as_aux_lemma =>
                  go_wp2_with fail
                  go_meet
                  exact ⟨by rw [← HBB.out]; simp [*], rfl⟩
                · as_aux_lemma =>
                  go_wp2_with fail
                  go_meet
                  exact ⟨by rw [← HBB.out]; simp [*], rfl⟩
            · as_aux_lemma =>
              go_wp2_with fail
              go_meet
              exact ⟨by rw [← HBB.out]; simp [*], rfl⟩
        · as_aux_lemma =>
          go_wp2_with fail
          go_meet
          exact ⟨by rw [← HBB.out]; simp [*], rfl⟩
    · cases e0 : ((s0 : Int) == (N : Int))
      · cases x1
        · cases x2
          · cases x3
            · as_aux_lemma =>
              go_wp2_with fail
              go_meet
              exact ⟨by rw [← HBB.out]; simp [*], rfl⟩
            · cases e3 : ((s3 : Int) == (N : Int))
              · as_aux_lemma =>
                go_wp2_with fail
                go_meet
                exact ⟨by rw [← HBB.out]; simp [*], rfl⟩
              · as_aux_lemma =>
                go_wp2_with fail
                go_meet
                exact ⟨by rw [← HBB.out]; simp [*], rfl⟩
          · cases e2 : ((s2 : Int) == (N : Int))
            · cases x3
              · as_aux_lemma =>
                go_wp2_with fail
                go_meet
                exact ⟨by rw [← HBB.out]; simp [*], rfl⟩
              · cases e3 : ((s3 : Int) == (N : Int))
                · as_aux_lemma =>
                  go_wp2_with fail
                  go_meet
                  exact ⟨by rw [← HBB.out]; simp [*], rfl⟩
                · as_aux_lemma =>
                  go_wp2_with fail
                  go_meet
                  exact ⟨by rw [← HBB.out]; simp [*], rfl⟩
            · as_aux_lemma =>
              go_wp2_with fail
              go_meet
              exact ⟨by rw [← HBB.out]; simp [*], rfl⟩
        · cases e1 : ((s1 : Int) == (N : Int))
          · cases x2
            · cases x3
              · as_aux_lemma =>
                go_wp2_with fail
                go_meet
                exact ⟨by rw [← HBB.out]; simp [*], rfl⟩
              · cases e3 : ((s3 : Int) == (N : Int))
                · as_aux_lemma =>
                  go_wp2_with fail
                  go_meet
                  exact ⟨by rw [← HBB.out]; simp [*], rfl⟩
                · as_aux_lemma =>
                  go_wp2_with fail
                  go_meet
                  exact ⟨by rw [← HBB.out]; simp [*], rfl⟩
            · cases e2 : ((s2 : Int) == (N : Int))
              · cases x3
                · as_aux_lemma =>
                  go_wp2_with fail
                  go_meet
                  exact ⟨by rw [← HBB.out]; simp [*], rfl⟩
                · cases e3 : ((s3 : Int) == (N : Int))
                  · as_aux_lemma =>
                    go_wp2_with fail
                    go_meet
                    exact ⟨by rw [← HBB.out]; simp [*], rfl⟩
                  · as_aux_lemma =>
                    go_wp2_with fail
                    go_meet
                    exact ⟨by rw [← HBB.out]; simp [*], rfl⟩
              · as_aux_lemma =>
                go_wp2_with fail
                go_meet
                exact ⟨by rw [← HBB.out]; simp [*], rfl⟩
          · as_aux_lemma =>
            go_wp2_with fail
            go_meet
            exact ⟨by rw [← HBB.out]; simp [*], rfl⟩
      · as_aux_lemma =>
        go_wp2_with fail
        go_meet
        exact ⟨by rw [← HBB.out]; simp [*], rfl⟩
  case rest =>
  obtain ⟨rfl, hw⟩ := hcut
  subst hw
  obtain ⟨w4, rfl⟩ : ∃ x, x = wc := ⟨wc, rfl⟩
  cases B
  case true =>
    as_aux_lemma =>
    go_wp2_with fail
    (try simp only [Exit.inBlock, Exit.then])
    refine bodyPost_ret (results_tmp6 rfl _ _ _) rfl ⟨0, 0, 0, 0, 0, false, rfl, ?_, fun h => by cases h⟩
    exact HBA.out.trans (HB4.out.mono (Nat.le_of_lt HSZ.out))
  case false =>
    as_aux_lemma =>
    go_wp2_with (refine wpList_loadAgg _ rfl 28 27 _ rfl 256 w.heap.size C rfl Try.underlying28 (by kernel_rfl) HC.out.size (keepC HCC.out HSZ.out HB4.out) ?_)
    refine (lane' HC.out HTR.out HZ0.out HB4.out tc N v0 (Nat.le_trans HNM.out HM.out.1) HV.out.1).mono ?_
    rintro e w5 ⟨r0, u0, y0, rfl, hl, hb⟩
    have HK0 : Hid (Lane cl tr z0 N v0 r0 u0 y0) := hl
    have HB5 : Hid (Below wA.heap.size wA w5) := chain HB4.out hb
    clear hl hb
    go_wp2_with (refine wpList_loadAgg _ rfl 28 27 _ rfl 256 w.heap.size C rfl Try.underlying28 (by kernel_rfl) HC.out.size (keepC HCC.out HSZ.out HB5.out) ?_)
    refine (lane' HC.out HTR.out HZ1.out HB5.out tc N v1 (Nat.le_trans HNM.out HM.out.2.1) HV.out.2.1).mono ?_
    rintro e w6 ⟨r1, u1, y1, rfl, hl, hb⟩
    have HK1 : Hid (Lane cl tr z1 N v1 r1 u1 y1) := hl
    have HB6 : Hid (Below wA.heap.size wA w6) := chain HB5.out hb
    clear hl hb
    go_wp2_with (refine wpList_loadAgg _ rfl 28 27 _ rfl 256 w.heap.size C rfl Try.underlying28 (by kernel_rfl) HC.out.size (keepC HCC.out HSZ.out HB6.out) ?_)
    refine (lane' HC.out HTR.out HZ2.out HB6.out tc N v2 (Nat.le_trans HNM.out HM.out.2.2.1) HV.out.2.2.1).mono ?_
    rintro e w7 ⟨r2, u2, y2, rfl, hl, hb⟩
    have HK2 : Hid (Lane cl tr z2 N v2 r2 u2 y2) := hl
    have HB7 : Hid (Below wA.heap.size wA w7) := chain HB6.out hb
    clear hl hb
    go_wp2_with (refine wpList_loadAgg _ rfl 28 27 _ rfl 256 w.heap.size C rfl Try.underlying28 (by kernel_rfl) HC.out.size (keepC HCC.out HSZ.out HB7.out) ?_)
    refine (lane' HC.out HTR.out HZ3.out HB7.out tc N v3 (Nat.le_trans HNM.out HM.out.2.2.2) HV.out.2.2.2).mono ?_
    rintro e w8 ⟨r3, u3, y3, rfl, hl, hb⟩
    have HK3 : Hid (Lane cl tr z3 N v3 r3 u3 y3) := hl
    have HB8 : Hid (Below wA.heap.size wA w8) := chain HB7.out hb
    clear hl hb
    go_wp2_with fail
    (try simp only [Exit.inBlock, Exit.then])
    refine bodyPost_ret (results_tmp6 rfl _ _ _) rfl ⟨N, u0, u1, u2, u3, true, rfl, ?_, fun _ => ?_⟩
    · exact HBA.out.trans (HB8.out.mono (Nat.le_of_lt HSZ.out))
    · have hb := HBB.out
      simp only [Bool.or_eq_false_iff, Bool.and_eq_false_iff, beq_eq_false_iff_ne] at hb
      obtain ⟨⟨⟨f0, f1⟩, f2⟩, f3⟩ := hb
      refine slow_of HL0.out HL1.out HL2.out HL3.out HN.out ?_ ?_ ?_ ?_ HK0.out HK1.out HK2.out HK3.out
      · rintro ⟨h1, h2⟩; rcases f0 with h | h; (rw [h1] at h; cases h); exact h (by rw [h2])
      · rintro ⟨h1, h2⟩; rcases f1 with h | h; (rw [h1] at h; cases h); exact h (by rw [h2])
      · rintro ⟨h1, h2⟩; rcases f2 with h | h; (rw [h1] at h; cases h); exact h (by rw [h2])
      · rintro ⟨h1, h2⟩; rcases f3 with h | h; (rw [h1] at h; cases h); exact h (by rw [h2])
end Go.Proofs.Qxb6603684a.skip

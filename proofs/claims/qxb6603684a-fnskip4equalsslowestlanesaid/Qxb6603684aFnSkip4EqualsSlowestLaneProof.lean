import Derived.Test.Qxb6603684aRows
import Derived.Test.Qxb6603684aSkipLaw
import Derived.Test.Qxb6603684aSkipOpen
import Derived.WalkKit
import Derived.ProofKit
import Derived.OpenShut
import Derived.ChangeOld
import Derived.Below
namespace Go.Proofs.Qxb6603684a.fnSkip4EqualsSlowestLane
open Go.ChangeShapes Go.WideShapes Go.ChangeAt Go.RowKit
set_option linter.unusedVariables false

theorem own : ownKnob Try.prog.godebug = none := by kernel_rfl
theorem laidOut : laidOutB Try.prog = true := by kernel_rfl

set_option maxHeartbeats 4000000 in
set_option maxRecDepth 100000 in
theorem lifted (os : Os) (started : os.Started) (H : Type) (enc : TypeId × Value → H) :
    ReturnsInHanded {} Try.checked os 4 .any (Rows.fnSkip4EqualsSlowestLaneSpec.pre6 enc Try.prog Try.f4 Rows.fnSkip4EqualsSlowestLaneRow.domain false) (Rows.fnSkip4EqualsSlowestLaneSpec.post enc Try.prog Try.f4 false true false false) := by
  refine returnsInHanded_of_change (C := Try.checked) own started (by kernel_rfl) Try.func4
    (ChangeSpec.witness6 (enc := enc) (C := Try.checked) false ⟨#[], #[.agg (Array.replicate 256 (.int .u32 0)), .slice none 0 0, .slice none 0 0, .slice none 0 0, .slice none 0 0, .slice none 0 0, .int .u32 0, .int .u32 0, .int .u32 0, .int .u32 0], []⟩ 8 (by kernel_rfl) (by kernel_rfl) (by kernel_rfl) (by kernel_rfl)) ?_
  intro W base args ds gs before hval0 hW hcnd _
  have hval : ∀ (j : Nat) t v, Try.f4.params[j]? = some t → args[j]? = some v → Value.okWide Try.prog W .any base t v := hval0
  have hW' := hW
  obtain ⟨p, q, hA0, hV, rfl, hfz, hnd⟩ := hW
  have hA : DataW.TrodAll enc Try.prog W 0 (fun _ => true) true Try.f4.params.toList args.toList ds p := hA0
  rw [Try.params4] at hA hval
  obtain ⟨v0, vs0, d0, ds0, p0, q0, hargs, rfl, rfl, h0, r0⟩ := trodAll_cons hA
  obtain ⟨v1, vs1, d1, ds1, p1, q1, rfl, rfl, rfl, h1, r1⟩ := trodAll_cons r0
  obtain ⟨v2, vs2, d2, ds2, p2, q2, rfl, rfl, rfl, h2, r2⟩ := trodAll_cons r1
  obtain ⟨v3, vs3, d3, ds3, p3, q3, rfl, rfl, rfl, h3, r3⟩ := trodAll_cons r2
  obtain ⟨v4, vs4, d4, ds4, p4, q4, rfl, rfl, rfl, h4, r4⟩ := trodAll_cons r3
  obtain ⟨v5, vs5, d5, ds5, p5, q5, rfl, rfl, rfl, h5, r5⟩ := trodAll_cons r4
  obtain ⟨v6, vs6, d6, ds6, p6, q6, rfl, rfl, rfl, h6, r6⟩ := trodAll_cons r5
  obtain ⟨v7, vs7, d7, ds7, p7, q7, rfl, rfl, rfl, h7, r7⟩ := trodAll_cons r6
  obtain ⟨v8, vs8, d8, ds8, p8, q8, rfl, rfl, rfl, h8, r8⟩ := trodAll_cons r7
  obtain ⟨v9, vs9, d9, ds9, p9, q9, rfl, rfl, rfl, h9, r9⟩ := trodAll_cons r8
  obtain ⟨rfl, rfl, rfl⟩ := trodAll_nil r9
  obtain rfl : args = #[v0, v1, v2, v3, v4, v5, v6, v7, v8, v9] := by cases args; simp_all
  obtain ⟨rfl, rfl⟩ := trodVars_none hV
  have k0 := h0
  have lt0 : ∀ x ∈ p0, x.block < W.heap.size := by obtain ⟨m, hm⟩ := k0; exact DataW.trod_lt m _ _ _ hm
  have k1 := h1
  have lt1 : ∀ x ∈ p1, x.block < W.heap.size := by obtain ⟨m, hm⟩ := k1; exact DataW.trod_lt m _ _ _ hm
  have k2 := h2
  have lt2 : ∀ x ∈ p2, x.block < W.heap.size := by obtain ⟨m, hm⟩ := k2; exact DataW.trod_lt m _ _ _ hm
  have k3 := h3
  have lt3 : ∀ x ∈ p3, x.block < W.heap.size := by obtain ⟨m, hm⟩ := k3; exact DataW.trod_lt m _ _ _ hm
  have k4 := h4
  have lt4 : ∀ x ∈ p4, x.block < W.heap.size := by obtain ⟨m, hm⟩ := k4; exact DataW.trod_lt m _ _ _ hm
  have k5 := h5
  have lt5 : ∀ x ∈ p5, x.block < W.heap.size := by obtain ⟨m, hm⟩ := k5; exact DataW.trod_lt m _ _ _ hm
  obtain ⟨C, rfl, hCs⟩ := skip.okWide_array Try.underlying28 (hval 0 28 v0 rfl rfl)
  obtain ⟨cl, hcl⟩ : ∃ cl, skip.Cls C cl := by
    obtain ⟨fuel, hf⟩ := h0
    exact skip.cls_of hf
  obtain ⟨a1, len1, cap1, rfl⟩ := okWide_slice Try.underlying29 (hval 1 29 v1 rfl rfl)
  obtain ⟨zs1, hl1, hc1, hm1, hr1, hb1⟩ : ∃ zs : List Nat, zs.length = len1 ∧ len1 ≤ cap1 ∧ len1 ≤ maxLen ∧ skip.RowAt .u32 W a1 zs ∧ ∀ z ∈ zs, z < 4294967296 := by
    obtain ⟨fuel, hf⟩ := h1
    obtain ⟨a, len, cap, zs, hcs, g1, g2, g3, g4, g5⟩ := skip.nums_of (fun n h => skip.nat_u32 h) Try.underlying29 Try.underlying27 skip.cells27 hf
    simp [Value.cells] at hcs
    obtain ⟨rfl, rfl, rfl⟩ := hcs
    exact ⟨zs, g1, g2, g3, g4, g5⟩
  obtain ⟨a2, len2, cap2, rfl⟩ := okWide_slice Try.underlying30 (hval 2 30 v2 rfl rfl)
  obtain ⟨zs2, hl2, hc2, hm2, hr2, hb2⟩ : ∃ zs : List Nat, zs.length = len2 ∧ len2 ≤ cap2 ∧ len2 ≤ maxLen ∧ skip.RowAt .u8 W a2 zs ∧ ∀ z ∈ zs, z < 256 := by
    obtain ⟨fuel, hf⟩ := h2
    obtain ⟨a, len, cap, zs, hcs, g1, g2, g3, g4, g5⟩ := skip.nums_of (fun n h => skip.nat_u8 h) Try.underlying30 Try.underlying5 skip.cells5 hf
    simp [Value.cells] at hcs
    obtain ⟨rfl, rfl, rfl⟩ := hcs
    exact ⟨zs, g1, g2, g3, g4, g5⟩
  obtain ⟨a3, len3, cap3, rfl⟩ := okWide_slice Try.underlying30 (hval 3 30 v3 rfl rfl)
  obtain ⟨zs3, hl3, hc3, hm3, hr3, hb3⟩ : ∃ zs : List Nat, zs.length = len3 ∧ len3 ≤ cap3 ∧ len3 ≤ maxLen ∧ skip.RowAt .u8 W a3 zs ∧ ∀ z ∈ zs, z < 256 := by
    obtain ⟨fuel, hf⟩ := h3
    obtain ⟨a, len, cap, zs, hcs, g1, g2, g3, g4, g5⟩ := skip.nums_of (fun n h => skip.nat_u8 h) Try.underlying30 Try.underlying5 skip.cells5 hf
    simp [Value.cells] at hcs
    obtain ⟨rfl, rfl, rfl⟩ := hcs
    exact ⟨zs, g1, g2, g3, g4, g5⟩
  obtain ⟨a4, len4, cap4, rfl⟩ := okWide_slice Try.underlying30 (hval 4 30 v4 rfl rfl)
  obtain ⟨zs4, hl4, hc4, hm4, hr4, hb4⟩ : ∃ zs : List Nat, zs.length = len4 ∧ len4 ≤ cap4 ∧ len4 ≤ maxLen ∧ skip.RowAt .u8 W a4 zs ∧ ∀ z ∈ zs, z < 256 := by
    obtain ⟨fuel, hf⟩ := h4
    obtain ⟨a, len, cap, zs, hcs, g1, g2, g3, g4, g5⟩ := skip.nums_of (fun n h => skip.nat_u8 h) Try.underlying30 Try.underlying5 skip.cells5 hf
    simp [Value.cells] at hcs
    obtain ⟨rfl, rfl, rfl⟩ := hcs
    exact ⟨zs, g1, g2, g3, g4, g5⟩
  obtain ⟨a5, len5, cap5, rfl⟩ := okWide_slice Try.underlying30 (hval 5 30 v5 rfl rfl)
  obtain ⟨zs5, hl5, hc5, hm5, hr5, hb5⟩ : ∃ zs : List Nat, zs.length = len5 ∧ len5 ≤ cap5 ∧ len5 ≤ maxLen ∧ skip.RowAt .u8 W a5 zs ∧ ∀ z ∈ zs, z < 256 := by
    obtain ⟨fuel, hf⟩ := h5
    obtain ⟨a, len, cap, zs, hcs, g1, g2, g3, g4, g5⟩ := skip.nums_of (fun n h => skip.nat_u8 h) Try.underlying30 Try.underlying5 skip.cells5 hf
    simp [Value.cells] at hcs
    obtain ⟨rfl, rfl, rfl⟩ := hcs
    exact ⟨zs, g1, g2, g3, g4, g5⟩
  obtain ⟨n6, rfl, rfl, rfl, w6⟩ := open_int Try.underlying27 (hval 6 27 v6 rfl rfl) h6
  have ww6 := w6
  obtain ⟨m6, rfl, hw6⟩ := skip.nat_u32 ww6
  obtain ⟨n7, rfl, rfl, rfl, w7⟩ := open_int Try.underlying27 (hval 7 27 v7 rfl rfl) h7
  have ww7 := w7
  obtain ⟨m7, rfl, hw7⟩ := skip.nat_u32 ww7
  obtain ⟨n8, rfl, rfl, rfl, w8⟩ := open_int Try.underlying27 (hval 8 27 v8 rfl rfl) h8
  have ww8 := w8
  obtain ⟨m8, rfl, hw8⟩ := skip.nat_u32 ww8
  obtain ⟨n9, rfl, rfl, rfl, w9⟩ := open_int Try.underlying27 (hval 9 27 v9 rfl rfl) h9
  have ww9 := w9
  obtain ⟨m9, rfl, hw9⟩ := skip.nat_u32 ww9
  clear hA0 hval0
  refine (skip.law_any C hcl.size W zs1 zs2 zs3 zs4 zs5 a1 a2 a3 a4 a5 len1 len2 len3 len4 len5 cap1 cap2 cap3 cap4 cap5 m6 m7 m8 m9 (skip.maxLen_le hm1) (skip.maxLen_le hm2) (skip.maxLen_le hm3) (skip.maxLen_le hm4) (skip.maxLen_le hm5)
    (fun h => ⟨hl1, h, hr1, hb1⟩) (fun h => ⟨hl2, h, hc2, hr2, hb2⟩) (fun h => ⟨hl3, h, hc3, hr3, hb3⟩) (fun h => ⟨hl4, h, hc4, hr4, hb4⟩) (fun h => ⟨hl5, h, hc5, hr5, hb5⟩)
    (fun _ _ _ _ _ => skip.eight C cl hcl zs1 zs2 zs3 zs4 zs5 len1 len2 len3 len4 len5 m6 m7 m8 m9 hw6 hw7 hw8 hw9)).mono fun e W' ⟨he, bel⟩ => ?_
  subst he
  exact ⟨_, rfl, _, _, _, [], _, [], hW', trodAll_mk1 (shut_bool Try.underlying4 _), (trodAll_cons_mk (Below.trod laidOut (by kernel_rfl) (of_decide_eq_true (by kernel_rfl)) k0 bel lt0) (trodAll_cons_mk (Below.trod laidOut (by kernel_rfl) (of_decide_eq_true (by kernel_rfl)) k1 bel lt1) (trodAll_cons_mk (Below.trod laidOut (by kernel_rfl) (of_decide_eq_true (by kernel_rfl)) k2 bel lt2) (trodAll_cons_mk (Below.trod laidOut (by kernel_rfl) (of_decide_eq_true (by kernel_rfl)) k3 bel lt3) (trodAll_cons_mk (Below.trod laidOut (by kernel_rfl) (of_decide_eq_true (by kernel_rfl)) k4 bel lt4) (trodAll_cons_mk (Below.trod laidOut (by kernel_rfl) (of_decide_eq_true (by kernel_rfl)) k5 bel lt5) (trodAll_cons_mk (shut_int Try.underlying27 w6) (trodAll_cons_mk (shut_int Try.underlying27 w7) (trodAll_cons_mk (shut_int Try.underlying27 w8) (trodAll_cons_mk (shut_int Try.underlying27 w9) trodAll_mk0)))))))))), rfl, bel.frame _, fun h => by cases h⟩

theorem over : Rows.fnSkip4EqualsSlowestLaneRow.holds Try.pinned (OpenSpec.ofChange Rows.fnSkip4EqualsSlowestLaneSpec) :=
  OpenClaim.holds_of_wide 4 Try.f4 rfl rfl rfl rfl rfl rfl rfl ⟨rfl, rfl, rfl, rfl, rfl⟩ rfl rfl rfl rfl rfl (by kernel_rfl) Try.func4 (by kernel_rfl)
    (of_decide_eq_true (by kernel_rfl)) (by unfold Func.isWrapper; first | (rw [if_pos (by decide +kernel)]; kernel_rfl) | (rw [if_neg (by decide +kernel)]; exact ⟨rfl, rfl⟩))
    (fun os started H enc _ => lifted os started H enc)

theorem proved : Rows.FnSkip4EqualsSlowestLaneSaid := over
end Go.Proofs.Qxb6603684a.fnSkip4EqualsSlowestLane

import Derived.Test.Qxb6603684aSkipTop
import Derived.Test.Qxb6603684aSkipModel
namespace Go.Proofs.Qxb6603684a.skip
open Go.ChangeShapes Go.WideShapes Go.ChangeAt Go.RowKit

theorem eight (C : Array Value) (cl : Nat → Nat) (hC : Cls C cl) (tr z0 z1 z2 z3 : List Nat) (tn n0 n1 n2 n3 v0 v1 v2 v3 : Nat) (b0 : v0 < 4294967296) (b1 : v1 < 4294967296) (b2 : v2 < 4294967296) (b3 : v3 < 4294967296) :
    Eight C tr z0 z1 z2 z3 tn n0 n1 n2 n3 v0 v1 v2 v3 := by
  intro w ta a0 a1 a2 a3 tc c0 c1 c2 c3 ht h0 h1 h2 h3
  by_cases hs : 1073741824 ≤ v0 ∨ 1073741824 ≤ v1 ∨ 1073741824 ≤ v2 ∨ 1073741824 ≤ v3
  · refine (model_sparse C w (.slice ta tn tc) a0 a1 a2 a3 n0 n1 n2 n3 c0 c1 c2 c3 v0 v1 v2 v3 hs).mono ?_
    rintro e w' ⟨rfl, hb⟩
    refine ⟨0, v0, v1, v2, v3, true, rfl, hb, fun _ w2 _ => ?_⟩
    exact zskip_any C cl hC w2 (.slice ta tn tc) rfl a0 a1 a2 a3 n0 n1 n2 n3 c0 c1 c2 c3 v0 v1 v2 v3 0 v0 v1 v2 v3 fun w1 L _ _ _ =>
      skip4_sparse w1 L a0 a1 a2 a3 n0 n1 n2 n3 c0 c1 c2 c3 v0 v1 v2 v3 b0 b1 b2 b3 hs
  · have e0 : v0 < 1073741824 := by omega
    have e1 : v1 < 1073741824 := by omega
    have e2 : v2 < 1073741824 := by omega
    have e3 : v3 < 1073741824 := by omega
    refine (model_any C cl hC w tr ta tn tc ht z0 z1 z2 z3 a0 a1 a2 a3 n0 n1 n2 n3 c0 c1 c2 c3 h0 h1 h2 h3 v0 v1 v2 v3 e0 e1 e2 e3 _ rfl).mono ?_
    rintro e w' ⟨N, u0, u1, u2, u3, b, rfl, hb, hslow⟩
    refine ⟨N, u0, u1, u2, u3, b, rfl, hb, fun hbt w2 hb2 => ?_⟩
    obtain ⟨hN, r0, r1, r2, r3, hst⟩ := hslow hbt
    exact zskip_any C cl hC w2 (.slice ta tn tc) rfl a0 a1 a2 a3 n0 n1 n2 n3 c0 c1 c2 c3 v0 v1 v2 v3 N u0 u1 u2 u3 fun w1 L hb3 hL hcl =>
      skip4_any w1 L cl hcl tr ta tn tc (ht.keep (chain hb2 hb3)) hL z0 z1 z2 z3 a0 a1 a2 a3 n0 n1 n2 n3 c0 c1 c2 c3 (h0.keep (chain hb2 hb3)) (h1.keep (chain hb2 hb3)) (h2.keep (chain hb2 hb3)) (h3.keep (chain hb2 hb3))
        v0 v1 v2 v3 e0 e1 e2 e3 _ N u0 u1 u2 u3 rfl hN r0 r1 r2 r3 hst
end Go.Proofs.Qxb6603684a.skip

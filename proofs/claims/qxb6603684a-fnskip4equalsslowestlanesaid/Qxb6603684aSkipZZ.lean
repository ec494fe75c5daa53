import Derived.Test.Qxb6603684aSkipFour
import Derived.Test.Qxb6603684aSkipLaws
namespace Go.Proofs.Qxb6603684a.skip
open Go.ChangeShapes Go.WideShapes Go.ChangeAt Go.RowKit

theorem cell_box (w : World) (C : Array Value) (t : TypeId) (i : Nat) : (w.alloc (.cells C t)).cell? ⟨w.heap.size, i, none⟩ = C[i]? := by
  exact World.cell?_alloc_at C t _ i rfl

set_option maxHeartbeats 2000000 in
set_option maxRecDepth 8000 in
/-- A sparse start: no step. -/
theorem skip4_sparse (w : World) (L : Nat) (a0 a1 a2 a3 : Option Addr) (n0 n1 n2 n3 c0 c1 c2 c3 : Nat)
    (v0 v1 v2 v3 : Nat) (b0 : v0 < 4294967296) (b1 : v1 < 4294967296) (b2 : v2 < 4294967296) (b3 : v3 < 4294967296)
    (hs : 1073741824 ≤ v0 ∨ 1073741824 ≤ v1 ∨ 1073741824 ≤ v2 ∨ 1073741824 ≤ v3) :
    Calls Try.prog 12 #[.pointer (some ⟨L, 0, none⟩), .slice a0 n0 c0, .slice a1 n1 c1, .slice a2 n2 c2, .slice a3 n3 c3, .int .u32 (v0 : Int), .int .u32 (v1 : Int), .int .u32 (v2 : Int), .int .u32 (v3 : Int)] w fun e w' => SkipPost 0 v0 v1 v2 v3 w e w' := by
  obtain ⟨x, y, z, ho1, ho2, ho3, -, ho4⟩ := or4 v0 v1 v2 v3 b0 b1 b2 b3
  replace ho4 := ho4 hs
  clear b0 b1 b2 b3 hs
  go_enter Try.func12, Try.ntmps12
  go_wp2
  (try simp only [Exit.inBlock, Exit.then])
  refine bodyPost_ret (results_tmp5 rfl _ _ _) rfl ⟨rfl, ?_⟩
  exact Below.refl _ _

set_option maxHeartbeats 2000000 in
set_option maxRecDepth 8000 in
/-- ZZSkip4 answers as (*literals).skip4 does, given what that answers on a fresh literals. -/
theorem zskip_any (C : Array Value) (cl : Nat → Nat) (hC : Cls C cl) (w : World) (t0 : Value) (ht0 : t0.cells = #[t0]) (a0 a1 a2 a3 : Option Addr) (n0 n1 n2 n3 c0 c1 c2 c3 : Nat) (v0 v1 v2 v3 : Nat) (N u0 u1 u2 u3 : Nat)
    (h12 : ∀ (w1 : World) (L : Nat), Below w.heap.size w w1 → w1.cell? ⟨L, 258, none⟩ = some t0 → (∀ i, i < 256 → w1.cell? ⟨L, i, none⟩ = some (.int .u32 (cl i : Nat))) →
      Calls Try.prog 12 #[.pointer (some ⟨L, 0, none⟩), .slice a0 n0 c0, .slice a1 n1 c1, .slice a2 n2 c2, .slice a3 n3 c3, .int .u32 (v0 : Int), .int .u32 (v1 : Int), .int .u32 (v2 : Int), .int .u32 (v3 : Int)] w1 fun e w' => SkipPost N u0 u1 u2 u3 w1 e w') :
    Calls Try.prog 9 #[.agg C, t0, .slice a0 n0 c0, .slice a1 n1 c1, .slice a2 n2 c2, .slice a3 n3 c3, .int .u32 (v0 : Int), .int .u32 (v1 : Int), .int .u32 (v2 : Int), .int .u32 (v3 : Int)] w fun e w' => SkipPost N u0 u1 u2 u3 w e w' := by
  have HC : Hid (Cls C cl) := hC
  have H12 : Hid (∀ (w1 : World) (L : Nat), Below w.heap.size w w1 → w1.cell? ⟨L, 258, none⟩ = some t0 → (∀ i, i < 256 → w1.cell? ⟨L, i, none⟩ = some (.int .u32 (cl i : Nat))) →
      Calls Try.prog 12 #[.pointer (some ⟨L, 0, none⟩), .slice a0 n0 c0, .slice a1 n1 c1, .slice a2 n2 c2, .slice a3 n3 c3, .int .u32 (v0 : Int), .int .u32 (v1 : Int), .int .u32 (v2 : Int), .int .u32 (v3 : Int)] w1 fun e w' => SkipPost N u0 u1 u2 u3 w1 e w') := h12
  have HV : Hid (t0.cells = #[t0]) := ht0
  clear hC h12 ht0
  go_enter Try.func9, Try.ntmps9
  go_wp2_with (first
    | refine wpList_loadAgg _ rfl 28 27 _ rfl 256 w.heap.size C rfl Try.underlying28 (by kernel_rfl) HC.out.size (fun i _ => cell_box w C 28 i) ?_
    | refine wpList_build45 _ rfl _ _ rfl C HC.out.size t0 HV.out rfl rfl ?_)
  intro B hB1 hB2
  have HB1 : Hid (∀ i, i < 256 → B[i]? = C[i]?) := hB1
  have HB2 : Hid (B[258]? = some t0) := hB2
  clear hB1 hB2
  go_wp2_with fail
  have hb : Below w.heap.size w ((w.alloc (Obj.cells C 28)).alloc (Obj.cells B 45)) := ((Below.refl _ _).alloc (Nat.le_refl _) _).alloc (by simp) _
  have hL : ∀ i, ((w.alloc (Obj.cells C 28)).alloc (Obj.cells B 45)).cell? ⟨w.heap.size + 1, i, none⟩ = B[i]? := by
    intro i
    have := cell_box (w.alloc (Obj.cells C 28)) B 45 i
    rwa [World.size_alloc] at this
  refine (H12.out _ (w.heap.size + 1) hb ((hL 258).trans HB2.out) (fun i hi => (hL i).trans ((HB1.out i hi).trans (HC.out.get i hi)))).mono ?_
  rintro e w' ⟨rfl, hb'⟩
  have HB : Hid (Below w.heap.size w w') := hb.trans (hb'.mono (by simp; omega))
  clear hb hb' hL
  go_wp2
  (try simp only [Exit.inBlock, Exit.then])
  refine bodyPost_ret (results_tmp5 rfl _ _ _) rfl ⟨rfl, ?_⟩
  exact HB.out
end Go.Proofs.Qxb6603684a.skip

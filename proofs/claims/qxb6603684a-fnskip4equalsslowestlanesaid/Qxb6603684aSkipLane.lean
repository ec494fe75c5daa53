import Derived.Test.Qxb6603684aRows
import Derived.Test.Qxb6603684aSkipPlain
import Derived.WalkKit
import Derived.WalkSpells
import Derived.ProofKit
import Derived.OpenShut
import Derived.BigQuiet
namespace Go.Proofs.Qxb6603684a.skip
open Go.ChangeShapes Go.WideShapes Go.ChangeAt Go.RowKit

def LanePost (cl : Nat → Nat) (tr zs : List Nat) (m v : Nat) (w : World) (e : Ending) (w' : World) : Prop :=
  ∃ (s u : Nat) (x : Bool), e = .returned (.tuple #[.int .i64 s, .int .u32 u, .bool x]) ∧ Lane cl tr zs m v s u x ∧ Below w.heap.size w w'

set_option maxHeartbeats 2000000 in
theorem lane_any (C : Array Value) (cl : Nat → Nat) (hC : Cls C cl) (tr zs : List Nat) (tn zn : Nat) (htn : tr.length = tn) (hzn : zs.length = zn) (h16 : tn ≤ 65536) (h16' : zn ≤ 65536) (ta za : Option Addr) (tc zc : Nat) (m v : Nat) (hm : m ≤ zn) (hv : v < 4294967296)
    (w : World) (htr : RowAt .u32 w ta tr) (hzs : RowAt .u8 w za zs) (hz8 : ∀ z ∈ zs, z < 256) (ht32 : ∀ z ∈ tr, z < 4294967296) :
    Calls Try.prog 11 #[.agg C, .slice ta tn tc, .slice za zn zc, .int .i64 m, .int .u32 v] w fun e w' => LanePost cl tr zs m v w e w' := by
  have HC : Hid (Cls C cl) := hC
  have HT : Hid (RowAt .u32 w ta tr) := htr
  have HZ : Hid (RowAt .u8 w za zs) := hzs
  have H8 : Hid (∀ z ∈ zs, z < 256) := hz8
  have H32 : Hid (∀ z ∈ tr, z < 4294967296) := ht32
  have HTN : Hid (tr.length = tn) := htn
  have HZN : Hid (zs.length = zn) := hzn
  clear hC htr hzs hz8 ht32 htn hzn
  go_enter Try.func11, Try.ntmps11
  go_wp2
  go_loop [4, 13] (fun s i => ∃ k u : Nat, k ≤ m ∧ i = .int .i64 k ∧ s = .int .u32 u ∧ u < 4294967296 ∧ run cl tr zs k v = some u) (fun _ i => m - (intOf i).toNat)
  case atStart => exact ⟨0, v, Nat.zero_le _, rfl, rfl, hv, rfl⟩
  case round =>
    obtain ⟨k, u, hk, rfl, rfl, hu, hru⟩ := hrel
    have HR : Hid (run cl tr zs k v = some u) := hru
    clear hru
    by_cases hlt : k < m
    · have hk' : k < zs.length := by have := HZN.out; omega
      obtain ⟨b, off, rfl, hcell⟩ := HZ.out k hk'
      have hz := H8.out zs[k] (List.getElem_mem hk')
      have hcl := HC.out.get zs[k] hz
      have hcl2 := HC.out.lt zs[k] hz
      have hb := cell_lt hcell
      have HGD : Hid (zs.getD k 0 = zs[k]) := by simp [Hid, List.getD, hk']
      obtain ⟨I, hI⟩ : ∃ I, idx cl u zs[k] = I := ⟨_, rfl⟩
      have eI : ((u : Int) + (cl zs[k] : Int)) % 4294967296 = (I : Int) := by rw [← hI]; unfold idx; omega
      have HI : Hid (idx cl u (zs.getD k 0) = I) := by show _ = _; rw [HGD.out]; exact hI
      have hI32 : I < 4294967296 := by rw [← hI]; exact Nat.mod_lt _ (by decide)
      clear hI
      by_cases hin : I < tn
      · have hI' : I < tr.length := by have := HTN.out; omega
        obtain ⟨b2, off2, rfl, hcell2⟩ := HT.out I hI'
        have hb2 := cell_lt hcell2
        have ht := H32.out tr[I] (List.getElem_mem hI')
        have HG2 : Hid (tr.getD I 0 = tr[I]) := by simp [Hid, List.getD, hI']
        by_cases hsp0 : 1073741824 ≤ tr[I]
        · have HSP : Hid (1073741824 ≤ tr[I]) := hsp0
          have hsp : (1073741824 : Int) ≤ (tr[I] : Int) := by omega
          clear hsp0
          go_wp2
          go_ret3
          refine ⟨k, u, false, rfl, ⟨hk, HR.out, fun _ => ?_, ⟨fun h => (by cases h), fun h => ?_⟩⟩, (Below.refl _ _).alloc (Nat.le_refl _) _⟩
          · unfold ok; rw [HI.out, HG2.out]; simp; intro _; exact HSP.out
          · have := h.2; rw [HI.out] at this; omega
        · have HSP : Hid (tr[I] < 1073741824) := by show _ < _; omega
          have HT32 : Hid (tr[I] < 4294967296) := ht
          have hsp : decide ((1073741824 : Int) ≤ (tr[I] : Int)) = false := by simp; omega
          clear hsp0 ht
          go_wp2
          go_round
          case rel =>
            refine ⟨k + 1, tr[I], by omega, by go_num, rfl, HT32.out, ?_⟩
            rw [run_succ HR.out, if_pos, HI.out, HG2.out]
            unfold ok; rw [HI.out, HG2.out]; simp; exact ⟨hI', HSP.out⟩
          case measure => simp [intOf]; omega
      · go_wp2
        go_ret3
        refine ⟨k, u, true, rfl, ⟨hk, HR.out, fun _ => ?_, ⟨fun _ => ⟨hlt, ?_⟩, fun _ => rfl⟩⟩, (Below.refl _ _).alloc (Nat.le_refl _) _⟩
        · unfold ok; rw [HI.out]; simp; intro h; have := HTN.out; omega
        · rw [HI.out]; have := HTN.out; omega
    · have hkm : k = m := by omega
      subst hkm
      go_wp2
      go_ret3
      exact ⟨k, u, false, rfl, ⟨hk, HR.out, fun h => absurd h hlt, ⟨fun h => (by cases h), fun h => absurd h.1 hlt⟩⟩, (Below.refl _ _).alloc (Nat.le_refl _) _⟩
end Go.Proofs.Qxb6603684a.skip

import Derived.Test.Qxb6603684aDropWalk
namespace Go.Proofs.Qxb6603684a.drop
open Go.ChangeShapes Go.WideShapes Go.ChangeAt Go.RowKit

theorem own_two {wr : World} {B : Nat} {t : TypeId} {v : Value} {L : List Rg} (h : Owned wr B t v L) (o1 o2 : Obj) : ((wr.alloc o1).alloc o2).ownsRow B t 5 v L.length (flat L) := (h.1.alloc o1).alloc o2

/-- One element more, copied. -/
theorem copy_step {w wr w3 : World} {B : Nat} {t : TypeId} {rs : List Rg} {k : Nat} {v v' : Value} {o1 o2 : Obj} (hk : k < rs.length) (hb : Below B w wr) (hB : B ≤ wr.heap.size) (ho : Owned wr B t v (rs.take k))
    (how : w3.ownsRow B t 5 v' ((rs.take k).length + 1) (flat (rs.take k) ++ rgCells rs[k])) (hg : ((wr.alloc o1).alloc o2).grownBy w3 v.ownBlock) (hn : v' = .slice none 0 0 ↔ v = .slice none 0 0 ∧ 1 = 0) :
    Below B w w3 ∧ Owned w3 B t v' (rs.take (k + 1)) ∧ B ≤ w3.heap.size := by
  have hs := hg.size
  simp only [World.size_alloc] at hs
  refine ⟨Below.grown ((hb.alloc hB _).alloc (by simp; omega) _) hg (by simp; omega) (fun j hj => (ho.1.lt j hj).1), ?_, by omega⟩
  rw [List.take_succ_eq_append_getElem hk]
  exact Owned.more _ how hn

def ZPost (w : World) (rs : List Rg) (e : Ending) (w' : World) : Prop :=
  ∃ v, e = .returned v ∧ Owned w' w.heap.size 24 v (D rs).1 ∧ Below w.heap.size w w'

def ZRel (w : World) (B : Nat) (t : TypeId) (rs : List Rg) (k : Nat) (v : Value) (wr : World) : Prop := Below B w wr ∧ Owned wr B t v (rs.take k) ∧ B ≤ wr.heap.size

set_option maxHeartbeats 2000000 in
theorem zdrop_any (rs : List Rg) (n : Nat) (hn : rs.length = n) (h12 : n ≤ 4096) (ho : Ord rs) (cap : Nat) (a : Option Addr) (w : World) (hc : RegsAt w a rs) :
    Calls Try.prog 6 #[.slice a n cap] w fun e w' => ZPost w rs e w' := by
  have HN : Hid (rs.length = n) := hn
  have Hc : Hid (RegsAt w a rs) := hc
  have HO : Hid (Ord rs) := ho
  clear hn hc ho
  have HS : Hid (ZRel w w.heap.size 38 rs 0 (.slice none 0 0) w) := ⟨Below.refl _ _, by simpa using owned_nil w _ _, Nat.le_refl _⟩
  obtain ⟨i0, hi, hz0, hz1, hz2⟩ := info_parts info38
  go_enter Try.func6, Try.ntmps6
  go_wp2
  go_loopw [3, 11] (fun s i wr => ∃ (k : Nat) (v : Value), k ≤ n ∧ i = .int .i64 k ∧ v = s ∧ ZRel w w.heap.size 38 rs k v wr) (fun _ i _ => n - (intOf i).toNat)
  case atStart => exact ⟨0, _, Nat.zero_le _, rfl, rfl, HS.out⟩
  case round =>
    clear HS
    obtain ⟨k, v, hk, rfl, rfl, hrl⟩ := hrel
    have HR : Hid (ZRel w w.heap.size 38 rs k v wr) := hrl
    clear hrl
    by_cases hlt : k < n
    · have hk' : k < rs.length := by have := HN.out; omega
      obtain ⟨b, off, rfl, h0, h1, h2, h3, h4⟩ := Hc.out k hk'
      have hb := HR.out.1
      have g0 := keep_cell hb h0
      have g1 := keep_cell hb h1
      have g2 := keep_cell hb h2
      have g3 := keep_cell hb h3
      have g4 := keep_cell hb h4
      have hsz : w.heap.size ≤ wr.heap.size := HR.out.2.2
      have HLE : Hid ((rs.take k).length = k) := by simp [Hid]; omega
      clear h0 h1 h2 h3 h4 hb
      go_wp2_with (first
        | (at_builtin; refine wpList_append_own _ rfl _ _ 36 rfl w.heap.size 38 i0 (.agg #[.int .i64 0, .int .i64 0, .int .i64 0, .int .i64 0, .int .i64 0]) 5 40 Try.underlying36 hi hz0 hz1 hz2 rfl (by decide) _ _ _ rfl (own_two HR.out.2.1 _ _) ⟨wr.heap.size + 1, 0, none⟩ 1 1 (rgCells rs[k]) rfl rfl (five_at _ rs[k] 38 _ (by simp)) (five_one _) (by have := HLE.out; unfold maxLen; omega) (by have := HLE.out; omega) (by simp; omega) ?_; intro v' w3 hown' hgrow3 hnil3
           have X := hide' (copy_step hk' HR.out.1 hsz HR.out.2.1 hown' hgrow3 hnil3)
           clear hown' hgrow3 hnil3))
      go_roundw
      case rel => exact ⟨k + 1, _, by omega, by go_num, rfl, X.out⟩
      case measure => simp [intOf]; omega
    · have hv := HR.out.2.1
      rw [List.take_of_length_le (by have := HN.out; omega)] at hv
      obtain ⟨ia, icap, rfl, hir, _, _⟩ := hv.regs
      have hz := drop_any rs rs.length rfl (by have := HN.out; omega) HO.out icap ia wr hir
      have HB1 : Hid (Below w.heap.size w wr) := HR.out.1
      have hsz : w.heap.size ≤ wr.heap.size := HR.out.2.2
      clear hv hir HR
      go_wp2_with fail
      refine hz.mono ?_
      clear hz
      rintro e w2 ⟨v2, rfl, hv2, hb2⟩
      obtain ⟨ja, jcap, rfl, hjr, _, _⟩ := hv2.regs
      have HJ : Hid (RegsAt w2 ja (D rs).1) := hjr
      have HB2 : Hid (Below w.heap.size w w2) := HB1.out.trans (hb2.mono hsz)
      have hsz2 : w.heap.size ≤ w2.heap.size := Nat.le_trans hsz hb2.size
      have hL : (D rs).1.length ≤ 4096 := by rw [long_len]; have := kept_le rs; have := HN.out; omega
      clear hv2 hb2 hjr HB1 hi hz0 hz1 hz2
      generalize hDL : (D rs).1 = L at *
      have HDL : Hid ((D rs).1 = L) := hDL
      clear hDL
      have HS : Hid (ZRel w2 w2.heap.size 24 L 0 (.slice none 0 0) w2) := ⟨Below.refl _ _, by simpa using owned_nil w2 _ _, Nat.le_refl _⟩
      obtain ⟨i1, hi, hz0, hz1, hz2⟩ := info_parts info24
      generalize hm : L.length = m at *
      have HM : Hid (L.length = m) := hm
      clear hm
      go_wp2
      go_loopw [6, 33] (fun s i wr => ∃ (k : Nat) (v : Value), k ≤ m ∧ i = .int .i64 k ∧ v = s ∧ ZRel w2 w2.heap.size 24 L k v wr) (fun _ i _ => m - (intOf i).toNat)
      case atStart => exact ⟨0, _, Nat.zero_le _, rfl, rfl, HS.out⟩
      case round =>
        clear HS
        obtain ⟨q, v, hq, rfl, rfl, hrl⟩ := hrel
        have HR : Hid (ZRel w2 w2.heap.size 24 L q v wr) := hrl
        clear hrl
        by_cases hlt2 : q < m
        · have hq' : q < L.length := by have := HM.out; omega
          obtain ⟨b, off, rfl, h0, h1, h2, h3, h4⟩ := HJ.out q hq'
          have hb := HR.out.1
          have g0 := keep_cell hb h0
          have g1 := keep_cell hb h1
          have g2 := keep_cell hb h2
          have g3 := keep_cell hb h3
          have g4 := keep_cell hb h4
          have hszr : w2.heap.size ≤ wr.heap.size := HR.out.2.2
          have HLE : Hid ((L.take q).length = q) := by simp [Hid]; omega
          clear h0 h1 h2 h3 h4 hb
          go_wp2_with (first
            | (at_builtin; refine wpList_append_own _ rfl _ _ 22 rfl w2.heap.size 24 i1 (.agg #[.int .i64 0, .int .i64 0, .int .i64 0, .int .i64 0, .int .i64 0]) 5 40 Try.underlying22 hi hz0 hz1 hz2 rfl (by decide) _ _ _ rfl (own_two HR.out.2.1 _ _) ⟨wr.heap.size + 1, 0, none⟩ 1 1 (rgCells L[q]) rfl rfl (five_at _ L[q] 24 _ (by simp)) (five_one _) (by have := HLE.out; unfold maxLen; omega) (by have := HLE.out; omega) (by simp; omega) ?_; intro v' w3 hown' hgrow3 hnil3
               have X := hide' (copy_step hq' HR.out.1 hszr HR.out.2.1 hown' hgrow3 hnil3)
               clear hown' hgrow3 hnil3))
          go_roundw
          case rel => exact ⟨q + 1, _, by omega, by go_num, rfl, X.out⟩
          case measure => simp [intOf]; omega
        · have hv := HR.out.2.1
          rw [List.take_of_length_le (by have := HM.out; omega)] at hv
          have HV : Hid (Owned wr w.heap.size 24 v L) := hv.below (Below.refl _ _) hsz2
          have HBF : Hid (Below w.heap.size w wr) := HB2.out.trans (HR.out.1.mono hsz2)
          clear hv HR
          go_wp2
          go_ret
          exact ⟨_, rfl, by rw [HDL.out]; exact HV.out, HBF.out⟩
end Go.Proofs.Qxb6603684a.drop

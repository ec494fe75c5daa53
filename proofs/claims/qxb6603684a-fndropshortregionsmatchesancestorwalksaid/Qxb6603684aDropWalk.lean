import Derived.Test.Qxb6603684aRows
import Derived.Test.Qxb6603684aDropMem
import Derived.WalkKit
import Derived.WalkSpells
import Derived.ProofKit
import Derived.OpenShut
import Derived.Lib.SliceRun
namespace Go.Proofs.Qxb6603684a.drop
open Go.ChangeShapes Go.WideShapes Go.ChangeAt Go.RowKit

theorem info3 : (Try.prog.info? 3).map (fun i => (i.zero, i.size, i.bytes)) = some (some (.int .i64 0), 1, 8) := by kernel_rfl
theorem info38 : (Try.prog.info? 38).map (fun i => (i.zero, i.size, i.bytes)) = some (some (.agg #[.int .i64 0, .int .i64 0, .int .i64 0, .int .i64 0, .int .i64 0]), 5, 40) := by kernel_rfl
theorem info24 : (Try.prog.info? 24).map (fun i => (i.zero, i.size, i.bytes)) = some (some (.agg #[.int .i64 0, .int .i64 0, .int .i64 0, .int .i64 0, .int .i64 0]), 5, 40) := by kernel_rfl

/-- What the loop of dropShortRegions keeps: old memory; the table's row; what is left so far. -/
def DropRel (w : World) (T n : Nat) (rs : List Rg) (k : Nat) (v : Value) (wr : World) : Prop :=
  Below T w wr ∧ (∃ F, wr.rowIs T 3 n F ∧ ∀ j, j < k → F j = .int .i64 ((D rs).2.getD j 0)) ∧ Owned wr (T + 1) 38 v (D (rs.take k)).1

def DropPost (w : World) (rs : List Rg) (e : Ending) (w' : World) : Prop :=
  ∃ v, e = .returned v ∧ Owned w' w.heap.size 38 v (D rs).1 ∧ Below w.heap.size w w'

theorem drop_start (w : World) (n : Nat) (rs : List Rg) : DropRel w w.heap.size n rs 0 (.slice none 0 0) (w.alloc (.cells (madeCells #[.int .i64 0] n) 3)) :=
  ⟨(Below.refl _ _).alloc (Nat.le_refl _) _, ⟨_, World.rowIs_made _ _ _ _, fun j hj => by omega⟩, owned_nil _ _ _⟩

theorem hide' {p : Prop} (h : p) : Hid p := h

theorem own2 {wr : World} {T k : Nat} {v : Value} {L : List Rg} (h : Owned wr (T + 1) 38 v L) (u : Value) (o1 o2 : Obj) :
    (((wr.setCell ⟨T, k, none⟩ u).alloc o1).alloc o2).ownsRow (T + 1) 38 5 v L.length (flat L) :=
  ((ownsRow_setCell_below h.1 (a := ⟨T, k, none⟩) (Nat.lt_succ_self T) u).alloc o1).alloc o2

theorem five_at (w : World) (g : Rg) (t : TypeId) (N : Nat) (hN : N = w.heap.size) : ∀ j u, (rgCells g)[j]? = some u → (w.alloc (.cells #[.int .i64 g.f, .int .i64 g.s, .int .i64 g.c, .int .i64 g.k, .int .i64 g.p] t)).cell? ((⟨N, 0, none⟩ : Addr).add j) = some u := by
  subst hN; exact five_new w g t

theorem drop_no {w wr : World} {T n k : Nat} {rs : List Rg} {v : Value} (h : DropRel w T n rs k v wr) (o : Obj) (m : Int) (hm : (D rs).2.getD k 0 = m) (hL : (D (rs.take (k + 1))).1 = (D (rs.take k)).1) :
    DropRel w T n rs (k + 1) v ((wr.setCell ⟨T, k, none⟩ (.int .i64 m)).alloc o) := by
  obtain ⟨hb, ⟨F, hF, hF'⟩, ho⟩ := h
  refine ⟨(hb.setCell (Nat.le_refl _) _).alloc (by simpa [World.setCell] using Nat.le_of_lt hF.lt) _, ⟨_, (hF.set k _).alloc o, fun j hj => ?_⟩, ?_⟩
  · by_cases e : j = k
    · subst e; rw [if_pos rfl, hm]
    · rw [if_neg e]; exact hF' j (by omega)
  · rw [hL]
    exact ⟨(ownsRow_setCell_below ho.1 (a := ⟨T, k, none⟩) (Nat.lt_succ_self T) _).alloc o, ho.2⟩

theorem drop_yes {w wr w3 : World} {T n k : Nat} {rs : List Rg} {v v' : Value} {o1 o2 : Obj} {g : Rg} (h : DropRel w T n rs k v wr) (m : Int) (hm : (D rs).2.getD k 0 = m) (hL : (D (rs.take (k + 1))).1 = (D (rs.take k)).1 ++ [g])
    (ho : w3.ownsRow (T + 1) 38 5 v' ((D (rs.take k)).1.length + 1) (flat (D (rs.take k)).1 ++ rgCells g)) (hg : (((wr.setCell ⟨T, k, none⟩ (.int .i64 m)).alloc o1).alloc o2).grownBy w3 v.ownBlock) (hn : v' = .slice none 0 0 ↔ v = .slice none 0 0 ∧ 1 = 0) :
    DropRel w T n rs (k + 1) v' w3 := by
  obtain ⟨hb, ⟨F, hF, hF'⟩, hown⟩ := h
  have hlt : ∀ j, v.ownBlock = some j → T + 1 ≤ j := fun j hj => (hown.1.lt j hj).1
  have hTw : T < wr.heap.size := hF.lt
  have hs : (wr.setCell ⟨T, k, none⟩ (.int .i64 m)).heap.size = wr.heap.size := by simp [World.setCell]
  refine ⟨Below.grown (((hb.setCell (Nat.le_refl _) _).alloc (by rw [hs]; omega) _).alloc (by simp only [World.size_alloc, hs]; omega) _) hg (by simp only [World.size_alloc, hs]; omega) (fun j hj => by have := hlt j hj; omega), ⟨_, (((hF.set k _).alloc o1).alloc o2).of_block (hg.block T (by simp only [World.size_alloc, hs]; omega) (fun e => by have := hlt T e.symm; omega)), fun j hj => ?_⟩, ?_⟩
  · by_cases e : j = k
    · subst e; rw [if_pos rfl, hm]
    · rw [if_neg e]; exact hF' j (by omega)
  · rw [hL]; exact Owned.more g ho hn

set_option maxHeartbeats 2000000 in
theorem drop_any (rs : List Rg) (n : Nat) (hn : rs.length = n) (h12 : n ≤ 4096) (ho : Ord rs) (cap : Nat) (a : Option Addr) (w : World) (hc : RegsAt w a rs) :
    Calls Try.prog 10 #[.slice a n cap] w fun e w' => DropPost w rs e w' := by
  have HN : Hid (rs.length = n) := hn
  have Hc : Hid (RegsAt w a rs) := hc
  have HO : Hid (Ord rs) := ho
  clear hn hc ho
  have hmk := run_make_row' (P := Try.prog) 26 3 (.int .i64 0) 8 Try.underlying26 info3 rfl .i64 .i64 n (by omega) (by omega)
  have HS : Hid (DropRel w w.heap.size n rs 0 (.slice none 0 0) (w.alloc (.cells (madeCells #[.int .i64 0] n) 3))) := drop_start w n rs
  go_enter Try.func10, Try.ntmps10
  go_wp2
  clear hmk
  generalize hT : w.heap.size = T at *
  have HT : Hid (w.heap.size = T) := hT
  clear hT
  go_loopw [3, 13] (fun s i wr => ∃ (k : Nat) (v : Value), k ≤ n ∧ i = .int .i64 k ∧ v = s ∧ DropRel w T n rs k v wr) (fun _ i _ => n - (intOf i).toNat)
  case atStart => exact ⟨0, _, Nat.zero_le _, rfl, rfl, HS.out⟩
  case round =>
    clear HS
    obtain ⟨k, v, hk, rfl, rfl, hrl⟩ := hrel
    have HR : Hid (DropRel w T n rs k v wr) := hrl
    clear hrl
    by_cases hlt : k < n
    · have hk' : k < rs.length := by have := HN.out; omega
      obtain ⟨b, off, rfl, h0, h1, h2, h3, h4⟩ := Hc.out k hk'
      obtain ⟨hb, ⟨F, hF, hF'⟩, how⟩ := HR.out
      obtain ⟨la, lcap, rfl, _, _, hla⟩ := how.regs
      have HOW : Hid (Owned wr (T + 1) 38 (.slice la (D (rs.take k)).1.length lcap) (D (rs.take k)).1) := how
      have hbT : b < T := by have := cell_lt h0; have := HT.out; omega
      have g0 := (hb.cell (p := ⟨b, off + k * 5, none⟩) hbT).trans h0
      have g1 := (hb.cell (p := ⟨b, off + k * 5 + 1, none⟩) hbT).trans h1
      have g2 := (hb.cell (p := ⟨b, off + k * 5 + 2, none⟩) hbT).trans h2
      have g3 := (hb.cell (p := ⟨b, off + k * 5 + 3, none⟩) hbT).trans h3
      have g4 := (hb.cell (p := ⟨b, off + k * 5 + 4, none⟩) hbT).trans h4
      have hTk := hF.cell (i := k) hlt
      have hTf := hF.frozen k
      have hTw : T < wr.heap.size := hF.lt
      have HF : Hid (wr.rowIs T 3 n F ∧ ∀ j, j < k → F j = .int .i64 ((D rs).2.getD j 0)) := ⟨hF, hF'⟩
      have HBW : Hid (Below T w wr) := hb
      have HLY := long_yes rs HO.out k hk'
      have HLN := long_no rs k hk'
      have HAT := at_of rs HO.out k hk'
      have hpk := HO.out k hk'
      have hKL : (D (rs.take k)).1.length = kept (rs.take k) := D_len1 rs k (by omega)
      have hKB : (D (rs.take k)).1.length ≤ k := by rw [hKL]; have := kept_le (rs.take k); simp at this; omega
      clear h0 h1 h2 h3 h4 hb hF hF' how hla
      have HHY : Hid (¬ rs[k].c < 32 → (D (rs.take (k + 1))).1 = (D (rs.take k)).1 ++ [{ rs[k] with p := anc (D rs).2 rs[k].p }]) := HLY
      have HHN : Hid (rs[k].c < 32 → (D (rs.take (k + 1))).1 = (D (rs.take k)).1) := HLN
      have HHA : Hid ((D rs).2.getD k 0 = if rs[k].c < 32 then anc (D rs).2 rs[k].p else (kept (rs.take k) : Int)) := HAT
      have HKL : Hid ((D (rs.take k)).1.length = kept (rs.take k)) := hKL
      clear HLY HLN HAT hKL
      have HR0 := HR.out
      obtain ⟨i0, hi, hz0, hz1, hz2⟩ := info_parts info38
      generalize hgk : rs[k] = g at *
      generalize hLk : (D (rs.take k)).1 = L at *
      have HLk : Hid ((D (rs.take k)).1 = L) := hLk
      clear hgk hLk HR0
      have hAB : ∀ j, (D rs).2.getD j 0 = (D rs).2.getD j 0 := fun _ => rfl
      clear hAB
      by_cases hp : g.p < 0
      · have HPV : Hid (anc (D rs).2 g.p = -1) := by unfold anc; rw [if_pos hp]; rfl
        by_cases hcc : g.c < 32
        · go_wp2
          go_roundw
          case rel =>
            refine ⟨k + 1, _, by omega, by go_num, rfl, drop_no HR.out _ _ ?_ ?_⟩
            · have := HHA.out; rw [if_pos hcc, HPV.out] at this; exact this
            · rw [HLk.out]; exact HHN.out hcc
          case measure => simp [intOf]; omega
        · have HM : Hid ((D rs).2.getD k 0 = (L.length : Int)) := by have := HHA.out; rw [if_neg hcc] at this; rw [HKL.out]; exact this
          have HY : Hid ((D (rs.take (k + 1))).1 = (D (rs.take k)).1 ++ [{ f := g.f, s := g.s, c := g.c, k := g.k, p := -1 }]) := by
            have := HHY.out hcc; rw [HPV.out] at this; rw [HLk.out]; exact this
          go_wp2_with (first
            | (at_builtin; refine wpList_append_own _ rfl _ _ 36 rfl (T + 1) 38 i0 (.agg #[.int .i64 0, .int .i64 0, .int .i64 0, .int .i64 0, .int .i64 0]) 5 40 Try.underlying36 hi hz0 hz1 hz2 rfl (by decide) _ L.length (flat L) rfl (own2 HOW.out _ _ _) ⟨wr.heap.size + 1, 0, none⟩ 1 1 (rgCells { f := g.f, s := g.s, c := g.c, k := g.k, p := -1 }) rfl rfl (five_at _ { f := g.f, s := g.s, c := g.c, k := g.k, p := -1 } 38 _ (by simp [World.setCell])) (five_one _) (by unfold maxLen; omega) (by omega) (by simp [World.setCell]; omega) ?_; intro v' w3 hown' hgrow3 hnil3
               have X1 := hide' hown'
               have X2 := hide' hgrow3
               have X3 := hide' hnil3
               clear hown' hgrow3 hnil3))
          go_roundw
          case rel =>
            refine ⟨k + 1, _, by omega, by go_num, rfl, drop_yes HR.out _ HM.out HY.out ?_ X2.out X3.out⟩
            rw [HLk.out]; exact X1.out
          case measure => simp [intOf]; omega
      · obtain ⟨q, hq⟩ := Int.eq_ofNat_of_zero_le (show 0 ≤ g.p by omega)
        have hqk : q < k := by omega
        have HPV : Hid (anc (D rs).2 g.p = (D rs).2.getD q 0) := by unfold anc; rw [if_neg hp, hq]; rfl
        have hTq := HF.out.1.cell (i := q) (by omega)
        rw [HF.out.2 q hqk] at hTq
        rw [hq] at g4
        generalize hpv : (D rs).2.getD q 0 = pv at *
        have HP2 : Hid (g.p = (q : Int)) := hq
        clear hpv hq hp hpk
        by_cases hcc : g.c < 32
        · go_wp2
          go_roundw
          case rel =>
            refine ⟨k + 1, _, by omega, by go_num, rfl, drop_no HR.out _ _ ?_ ?_⟩
            · have := HHA.out; rw [if_pos hcc, HPV.out] at this; exact this
            · rw [HLk.out]; exact HHN.out hcc
          case measure => simp [intOf]; omega
        · have HM : Hid ((D rs).2.getD k 0 = (L.length : Int)) := by have := HHA.out; rw [if_neg hcc] at this; rw [HKL.out]; exact this
          have HY : Hid ((D (rs.take (k + 1))).1 = (D (rs.take k)).1 ++ [{ f := g.f, s := g.s, c := g.c, k := g.k, p := pv }]) := by
            have := HHY.out hcc; rw [HPV.out] at this; rw [HLk.out]; exact this
          go_wp2_with (first
            | (at_builtin; refine wpList_append_own _ rfl _ _ 36 rfl (T + 1) 38 i0 (.agg #[.int .i64 0, .int .i64 0, .int .i64 0, .int .i64 0, .int .i64 0]) 5 40 Try.underlying36 hi hz0 hz1 hz2 rfl (by decide) _ L.length (flat L) rfl (own2 HOW.out _ _ _) ⟨wr.heap.size + 1, 0, none⟩ 1 1 (rgCells { f := g.f, s := g.s, c := g.c, k := g.k, p := pv }) rfl rfl (five_at _ { f := g.f, s := g.s, c := g.c, k := g.k, p := pv } 38 _ (by simp [World.setCell])) (five_one _) (by unfold maxLen; omega) (by omega) (by simp [World.setCell]; omega) ?_; intro v' w3 hown' hgrow3 hnil3
               have X1 := hide' hown'
               have X2 := hide' hgrow3
               have X3 := hide' hnil3
               clear hown' hgrow3 hnil3))
          go_roundw
          case rel =>
            refine ⟨k + 1, _, by omega, by go_num, rfl, drop_yes HR.out _ HM.out HY.out ?_ X2.out X3.out⟩
            rw [HLk.out]; exact X1.out
          case measure => simp [intOf]; omega
    · go_wp2
      go_ret
      refine ⟨_, rfl, ?_, by rw [HT.out]; exact HR.out.1⟩
      have := HR.out.2.2
      rw [List.take_of_length_le (by have := HN.out; omega)] at this
      exact this.below (B := w.heap.size) (Below.refl _ _) (by have := HT.out; omega)
end Go.Proofs.Qxb6603684a.drop

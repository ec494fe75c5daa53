import Derived.Test.Qxb6603497aCounts
namespace Go.Proofs.Qxb6603497a.counts
open Go.ChangeShapes Go.WideShapes Go.ChangeAt Go.RowKit

/-- The lock taken for reading, and let go again. -/
theorem Cache.round {w : World} {b : Nat} {h z : Int} (hc : Cache w b h z) (nq : Nat) : Cache (((w.setCell ⟨b, 6, none⟩ (.int .i32 1)).drewN nq).setCell ⟨b, 6, none⟩ (.int .i32 0)) b h z := by
  have key : ∀ i v, i ≠ 6 → w.cell? ⟨b, i, none⟩ = some v → (((w.setCell ⟨b, 6, none⟩ (.int .i32 1)).drewN nq).setCell ⟨b, 6, none⟩ (.int .i32 0)).cell? ⟨b, i, none⟩ = some v := fun i v hi h => by
    rw [World.cell?_setCell_other _ _ _ _ (fun e => hi (Addr.mk.inj e).2.1.symm)]
    show (w.setCell ⟨b, 6, none⟩ (.int .i32 1)).cell? ⟨b, i, none⟩ = some v
    rw [World.cell?_setCell_other _ _ _ _ (fun e => hi (Addr.mk.inj e).2.1.symm)]
    exact h
  refine ⟨key 2 _ (by decide) hc.c2, key 4 _ (by decide) hc.c4, key 5 _ (by decide) hc.c5, ?_, key 13 _ (by decide) hc.c13, key 14 _ (by decide) hc.c14, fun i => ?_⟩
  · refine World.cell?_setCell_same (u := .int .i32 1) _ _ _ ?_
    exact World.cell?_setCell_same (u := .int .i32 0) _ _ _ hc.c6
  · have := hc.fz i
    simp only [World.frozen?_setCell]
    show (w.setCell ⟨b, 6, none⟩ (.int .i32 1)).frozen? ⟨b, i, none⟩ = false
    rw [World.frozen?_setCell]; exact this

def CountsPost (w : World) (b : Nat) (h z : Int) (e : Ending) (w' : World) : Prop :=
  e = .returned (.tuple #[.int .i64 (h - z), .int .i64 z]) ∧ Cache w' b h z ∧ Below b w w'

set_option maxRecDepth 100000 in
set_option maxHeartbeats 1600000 in
theorem counts_any (b : Nat) (h z : Int) (hz0 : 0 ≤ z) (hzh : z ≤ h) (hh : h ≤ 9223372036854775807) (w : World) (hc : Cache w b h z) :
    Calls Try.prog 28 #[.pointer (some ⟨b, 0, none⟩)] w fun e w' => CountsPost w b h z e w' := by
  have HC : Hid (Cache w b h z) := hc
  have c13 : (w.setCell ⟨b, 6, none⟩ (.int .i32 1)).cell? ⟨b, 13, none⟩ = some (.int .i64 h) := (World.cell?_setCell_other _ ⟨b, 6, none⟩ ⟨b, 13, none⟩ _ (by simp)).trans hc.c13
  have c14 : (w.setCell ⟨b, 6, none⟩ (.int .i32 1)).cell? ⟨b, 14, none⟩ = some (.int .i64 z) := (World.cell?_setCell_other _ ⟨b, 6, none⟩ ⟨b, 14, none⟩ _ (by simp)).trans hc.c14
  clear hc
  go_enter_defers Try.func28, Try.ntmps28
  go_wp2_with fail
  refine (rlock b 2 _ _ _ HC.out.c2 HC.out.c5 HC.out.c6 (HC.out.fz _)).mono ?_
  rintro e w' ⟨rfl, rfl⟩
  go_wp2
  go_quiet (fail)
  go_wp2
  refine leaves_cons (f := 34) (args := #[.pointer (some ⟨b, 2, none⟩)]) (by simp) (by simp [go_sem]) ?_
  refine (runlock_deferred b 2 (.int .i32 0) (.int .u32 0) .returning _ ?a0 ?a2 ?a4 ?az).mono ?_
  case a0 => exact (World.cell?_setCell_other w ⟨b, 6, none⟩ ⟨b, 2, none⟩ _ (by simp)).trans HC.out.c2
  case a2 => exact (World.cell?_setCell_other w ⟨b, 6, none⟩ ⟨b, 4, none⟩ _ (by simp)).trans HC.out.c4
  case a4 => exact World.cell?_setCell_same (u := .int .i32 0) w _ _ HC.out.c6
  case az => exact (World.frozen?_setCell w _ _ _).trans (HC.out.fz 6)
  rintro e u' w'' ⟨rfl, rfl, rfl⟩
  exact ⟨_, results_tmp2 rfl _ _ _, rfl, HC.out.round nq, (below_drewN ((Below.refl b w).setCell (p := ⟨b, 6, none⟩) (Nat.le_refl b) _) nq).setCell (p := ⟨b, 6, none⟩) (Nat.le_refl b) _⟩

/-- ZZcounts. -/
theorem zcounts_any (b : Nat) (h z : Int) (hz0 : 0 ≤ z) (hzh : z ≤ h) (hh : h ≤ 9223372036854775807) (w : World) (hc : Cache w b h z) :
    Calls Try.prog 21 #[.pointer (some ⟨b, 0, none⟩)] w fun e w' => CountsPost w b h z e w' := by
  have HC : Hid (Cache w b h z) := hc
  clear hc
  go_enter Try.func21, Try.ntmps21
  go_wp2_with fail
  refine (counts_any b h z hz0 hzh hh w HC.out).mono ?_
  rintro e w' ⟨rfl, h1, h2⟩
  have H1 : Hid (Cache w' b h z) := h1
  have H2 : Hid (Below b w w') := h2
  clear h1 h2
  go_wp2
  go_ret2
  exact ⟨rfl, H1.out, H2.out⟩

set_option maxRecDepth 100000 in
set_option maxHeartbeats 1600000 in
/-- (*internal/sync.Mutex).TryLock, free. -/
theorem itry (b off : Nat) (w : World) (c0 : w.cell? ⟨b, off, none⟩ = some (.int .i32 0)) (hz : w.frozen? ⟨b, off, none⟩ = false) :
    Calls Try.prog 47 #[.pointer (some ⟨b, off, none⟩)] w fun e w' => e = .returned (.bool true) ∧ w' = w.setCell ⟨b, off, none⟩ (.int .i32 1) := by
  have h2 := disable
  have h3 := enable
  have h4 := acquire
  have hcas := run_call_cas_hit (P := Try.prog) Try.func48 (by kernel_rfl) (by kernel_rfl) (by kernel_rfl) .i32 (by kernel_rfl) (y := 1) c0 hz
  have c0' : (w.setCell ⟨b, off, none⟩ (.int .i32 1)).cell? ⟨b, off, none⟩ = some (.int .i32 1) := World.cell?_setCell_same (u := .int .i32 0) w _ _ c0
  have v0 := to_raw (src := 128) Try.underlying128 (by kernel_rfl) c0'
  have hb1 : bits .and .i32 0 5 = 0 := by decide
  have hb2 : bits .or .i32 0 1 = 1 := by decide
  go_enter Try.func47, Try.ntmps47
  go_wp2
  go_ret
  exact ⟨rfl, rfl⟩

/-- (*sync.Mutex).TryLock, free. -/
theorem mtry (b off : Nat) (w : World) (c0 : w.cell? ⟨b, off, none⟩ = some (.int .i32 0)) (hz : w.frozen? ⟨b, off, none⟩ = false) :
    Calls Try.prog 37 #[.pointer (some ⟨b, off, none⟩)] w fun e w' => e = .returned (.bool true) ∧ w' = w.setCell ⟨b, off, none⟩ (.int .i32 1) := by
  go_enter Try.func37, Try.ntmps37
  go_wp2_with fail
  refine (itry b off w c0 hz).mono ?_
  rintro e w' ⟨rfl, rfl⟩
  go_wp2
  go_ret
  exact ⟨rfl, rfl⟩

set_option maxRecDepth 100000 in
set_option maxHeartbeats 1600000 in
/-- (*sync.RWMutex).TryLock, the lock wholly free. -/
theorem rwtry (b off : Nat) (x2 x3 : Value) (w : World) (c0 : w.cell? ⟨b, off, none⟩ = some (.int .i32 0)) (c2 : w.cell? ⟨b, off + 2, none⟩ = some x2) (c3 : w.cell? ⟨b, off + 3, none⟩ = some x3)
    (c4 : w.cell? ⟨b, off + 4, none⟩ = some (.int .i32 0)) (z0 : w.frozen? ⟨b, off, none⟩ = false) (z4 : w.frozen? ⟨b, off + 4, none⟩ = false) :
    Calls Try.prog 29 #[.pointer (some ⟨b, off, none⟩)] w fun e w' => e = .returned (.bool true) ∧ w' = (w.setCell ⟨b, off, none⟩ (.int .i32 1)).setCell ⟨b, off + 4, none⟩ (.int .i32 (-1073741824)) := by
  have h1 := raceRead
  have h2 := disable
  have h3 := enable
  have h4 := acquire
  have v0 := to_raw (src := 115) Try.underlying115 (by kernel_rfl) c0
  have c4' : (w.setCell ⟨b, off, none⟩ (.int .i32 1)).cell? ⟨b, off + 4, none⟩ = some (.int .i32 0) := (World.cell?_setCell_other _ ⟨b, off, none⟩ ⟨b, off + 4, none⟩ _ (by simp)).trans c4
  have z4' : (w.setCell ⟨b, off, none⟩ (.int .i32 1)).frozen? ⟨b, off + 4, none⟩ = false := (World.frozen?_setCell w _ _ _).trans z4
  have hcas := run_call_cas_hit (P := Try.prog) Try.func48 (by kernel_rfl) (by kernel_rfl) (by kernel_rfl) .i32 (by kernel_rfl) (y := -1073741824) c4' z4'
  have c3' : ((w.setCell ⟨b, off, none⟩ (.int .i32 1)).setCell ⟨b, off + 4, none⟩ (.int .i32 (-1073741824))).cell? ⟨b, off + 3, none⟩ = some x3 :=
    (World.cell?_setCell_other _ ⟨b, off + 4, none⟩ ⟨b, off + 3, none⟩ _ (by simp)).trans ((World.cell?_setCell_other _ ⟨b, off, none⟩ ⟨b, off + 3, none⟩ _ (by simp)).trans c3)
  have c2' : ((w.setCell ⟨b, off, none⟩ (.int .i32 1)).setCell ⟨b, off + 4, none⟩ (.int .i32 (-1073741824))).cell? ⟨b, off + 2, none⟩ = some x2 :=
    (World.cell?_setCell_other _ ⟨b, off + 4, none⟩ ⟨b, off + 2, none⟩ _ (by simp)).trans ((World.cell?_setCell_other _ ⟨b, off, none⟩ ⟨b, off + 2, none⟩ _ (by simp)).trans c2)
  have v3 := to_raw (src := 117) Try.underlying117 (by kernel_rfl) c3'
  have v2 := to_raw (src := 117) Try.underlying117 (by kernel_rfl) c2'
  go_enter Try.func29, Try.ntmps29
  go_wp2_with fail
  refine (mtry b off w c0 z0).mono ?_
  rintro e w' ⟨rfl, rfl⟩
  go_wp2
  go_ret
  exact ⟨rfl, rfl⟩

/-- ZZtryLock. -/
theorem ztry (b : Nat) (h z : Int) (w : World) (hc : Cache w b h z) :
    Calls Try.prog 22 #[.pointer (some ⟨b, 0, none⟩)] w fun e w' => e = .returned (.bool true) ∧ Below b w w' := by
  have HC : Hid (Cache w b h z) := hc
  clear hc
  go_enter Try.func22, Try.ntmps22
  go_wp2_with fail
  refine (rwtry b 2 _ _ w HC.out.c2 HC.out.c4 HC.out.c5 HC.out.c6 (HC.out.fz _) (HC.out.fz _)).mono ?_
  rintro e w' ⟨rfl, rfl⟩
  have H : Hid (Below b w ((w.setCell ⟨b, 2, none⟩ (.int .i32 1)).setCell ⟨b, 2 + 4, none⟩ (.int .i32 (-1073741824)))) :=
    ((Below.refl b w).setCell (p := ⟨b, 2, none⟩) (Nat.le_refl b) _).setCell (p := ⟨b, 6, none⟩) (Nat.le_refl b) _
  go_wp2
  go_ret
  exact ⟨rfl, H.out⟩

def NewPost (w : World) (h z : Int) (e : Ending) (w' : World) : Prop :=
  e = .returned (.pointer (some ⟨w.heap.size, 0, none⟩)) ∧ Cache w' w.heap.size h z ∧ Below w.heap.size w w'

/-- ZZnewNegativeCache. -/
theorem new_any (m h z : Int) (w : World) : Calls Try.prog 20 #[.int .i64 m, .int .i64 h, .int .i64 z] w fun e w' => NewPost w h z e w' := by
  go_enter Try.func20, Try.ntmps20
  go_wp2
  go_ret
  refine ⟨rfl, ⟨by simp, by simp, by simp, by simp, by simp, by simp, fun i => ?_⟩, (Below.refl _ _).alloc (Nat.le_refl _) _⟩
  rw [frozen?_alloc_cells]
  simp [World.frozen?]

set_option maxHeartbeats 1600000 in
theorem walk (a0 a1 a2 : Int) (w1 : (Lit.int .i64 a1).wf = true) (w : World) :
    Calls Try.prog 7 #[.int .i64 a0, .int .i64 a1, .int .i64 a2] w fun e w' => e = .returned (.bool true) ∧ Below w.heap.size w w' := by
  have b1 := bounds_i64 w1
  clear w1
  by_cases h1 : a2 < 0
  · go_enter Try.func7, Try.ntmps7
    go_wp2
    go_ret
    exact ⟨rfl, Below.refl _ _⟩
  by_cases h2 : a1 < a2
  · go_enter Try.func7, Try.ntmps7
    go_wp2
    go_ret
    exact ⟨rfl, Below.refl _ _⟩
  by_cases h3 : a0 < a1
  · go_enter Try.func7, Try.ntmps7
    go_wp2
    go_ret
    exact ⟨rfl, Below.refl _ _⟩
  go_enter Try.func7, Try.ntmps7
  go_wp2_with fail
  refine (new_any _ _ _ _).mono ?_
  rintro e w1 ⟨rfl, hc1, hb1⟩
  have HC1 : Hid (Cache w1 w.heap.size a1 a2) := hc1
  have HB1 : Hid (Below w.heap.size w w1) := hb1
  clear hc1 hb1
  go_wp2_with fail
  refine (zcounts_any _ a1 a2 (by omega) (by omega) (by omega) _ HC1.out).mono ?_
  rintro e w2 ⟨rfl, hc2, hb2⟩
  have HC2 : Hid (Cache w2 w.heap.size a1 a2) := hc2
  have HB2 : Hid (Below w.heap.size w1 w2) := hb2
  clear hc2 hb2
  go_wp2_with fail
  refine (zcounts_any _ a1 a2 (by omega) (by omega) (by omega) _ HC2.out).mono ?_
  rintro e w3 ⟨rfl, hc3, hb3⟩
  have HC3 : Hid (Cache w3 w.heap.size a1 a2) := hc3
  have HB3 : Hid (Below w.heap.size w2 w3) := hb3
  clear hc3 hb3
  go_wp2_with fail
  refine (ztry _ a1 a2 _ HC3.out).mono ?_
  rintro e w4 ⟨rfl, hb4⟩
  have HB4 : Hid (Below w.heap.size w3 w4) := hb4
  clear hb4
  go_wp2
  go_ret
  exact ⟨rfl, ((HB1.out.trans HB2.out).trans HB3.out).trans HB4.out⟩
end Go.Proofs.Qxb6603497a.counts

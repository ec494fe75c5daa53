import Derived.Test.Qxb6603497aRows
import Derived.WalkKit
import Derived.WalkSpells
import Derived.ProofKit
import Derived.OpenShut
import Derived.Defers
import Derived.BigQuiet
import Derived.Deep.OwnRows
import Derived.Laws.LoneSync
import Derived.WalkSmall
namespace Go.Proofs.Qxb6603497a.counts
open Go.ChangeShapes Go.WideShapes Go.ChangeAt Go.RowKit

theorem raceRead (a : Addr) (w : World) : (callFunc 35 #[.pointer (some a)]).run Try.prog w = .ok (.value (.tuple #[])) w := run_call_marked Try.func35 (by kernel_rfl) (by kernel_rfl) (by kernel_rfl) .read (by kernel_rfl) a w
theorem disable (w : World) : (callFunc 36 #[]).run Try.prog w = .ok (.value (.tuple #[])) w := run_call_mark0 Try.func36 (by kernel_rfl) (by kernel_rfl) (by kernel_rfl) .disable (by kernel_rfl) w
theorem enable (w : World) : (callFunc 38 #[]).run Try.prog w = .ok (.value (.tuple #[])) w := run_call_mark0 Try.func38 (by kernel_rfl) (by kernel_rfl) (by kernel_rfl) .enable (by kernel_rfl) w
theorem acquire (a : Addr) (w : World) : (callFunc 41 #[.pointer (some a)]).run Try.prog w = .ok (.value (.tuple #[])) w := run_call_marked Try.func41 (by kernel_rfl) (by kernel_rfl) (by kernel_rfl) .acquire (by kernel_rfl) a w
theorem releaseMerge (a : Addr) (w : World) : (callFunc 45 #[.pointer (some a)]).run Try.prog w = .ok (.value (.tuple #[])) w := run_call_marked Try.func45 (by kernel_rfl) (by kernel_rfl) (by kernel_rfl) .releaseMerge (by kernel_rfl) a w

set_option maxRecDepth 100000 in
/-- A pointer turned to a raw one: the type 114. -/
theorem to_raw {src t : TypeId} (hs : Try.prog.underlying src = some (.pointer t)) (hsz : (Try.prog.info? t).map (fun i => decide (i.size = 0)) = some false) {a : Addr} {v : Value} {w : World} (hc : w.cell? a = some v) :
    (convert src 114 (.pointer (some a))).run Try.prog w = .ok (.pointer (some a)) w := by
  obtain ⟨e, n, hsh, hlt, hsp⟩ := World.shape?_of_cell? hc
  obtain ⟨i, hi, hz0⟩ := Option.map_eq_some_iff.1 hsz
  have hz : i.size ≠ 0 := by simpa using hz0
  have hge : ¬ (n ≤ a.off) := by omega
  simp only [convert, run_underlying hs, run_underlying Try.underlying114, Sem.run_bind]
  show Sem.run Try.prog (underlying src >>= fun u => underlying 114 >>= fun v => _) w = _
  simp [run_underlying hs, run_underlying Try.underlying114, Conv.seenAt, viewAt, cellsIn, sizeOf, typeInfo, hi, hz, hsh, hge, Result.andThen]

/-- The cache that the law makes, its lock free: the cells that are read, none frozen. -/
structure Cache (w : World) (b : Nat) (h z : Int) : Prop where
  c2 : w.cell? ⟨b, 2, none⟩ = some (.int .i32 0)
  c4 : w.cell? ⟨b, 4, none⟩ = some (.int .u32 0)
  c5 : w.cell? ⟨b, 5, none⟩ = some (.int .u32 0)
  c6 : w.cell? ⟨b, 6, none⟩ = some (.int .i32 0)
  c13 : w.cell? ⟨b, 13, none⟩ = some (.int .i64 h)
  c14 : w.cell? ⟨b, 14, none⟩ = some (.int .i64 z)
  fz : ∀ i, w.frozen? ⟨b, i, none⟩ = false

set_option maxRecDepth 100000 in
set_option maxHeartbeats 1600000 in
/-- (*sync.RWMutex).RLock, nobody at the lock. -/
theorem rlock (b off : Nat) (x0 x3 : Value) (w : World) (c0 : w.cell? ⟨b, off, none⟩ = some x0) (c3 : w.cell? ⟨b, off + 3, none⟩ = some x3)
    (hc : w.cell? ⟨b, off + 4, none⟩ = some (.int .i32 0)) (hz : w.frozen? ⟨b, off + 4, none⟩ = false) :
    Calls Try.prog 33 #[.pointer (some ⟨b, off, none⟩)] w fun e w' => e = .returned (.tuple #[]) ∧ w' = w.setCell ⟨b, off + 4, none⟩ (.int .i32 1) := by
  have h1 := raceRead
  have h2 := disable
  have h3 := enable
  have h4 := acquire
  have v0 := to_raw (src := 115) Try.underlying115 (by kernel_rfl) c0
  have hadd := run_call_add (P := Try.prog) Try.func50 (by kernel_rfl) (by kernel_rfl) (by kernel_rfl) .i32 (by kernel_rfl) (y := 1) (s := 1) hc hz (by simp [go_sem, IntKind.wrap_i32])
  have c3' : (w.setCell ⟨b, off + 4, none⟩ (.int .i32 1)).cell? ⟨b, off + 3, none⟩ = some x3 := (World.cell?_setCell_other _ ⟨b, off + 4, none⟩ ⟨b, off + 3, none⟩ _ (by simp)).trans c3
  have v3 := to_raw (src := 117) Try.underlying117 (by kernel_rfl) c3'
  go_enter Try.func33, Try.ntmps33
  go_wp2
  go_end0
  exact ⟨rfl, rfl⟩

set_option maxRecDepth 100000 in
set_option maxHeartbeats 1600000 in
/-- (*sync.RWMutex).RUnlock, deferred, one reader at the lock. -/
theorem runlock_deferred (b off : Nat) (x0 x2 : Value) (u : FrameMode) (w : World) (c0 : w.cell? ⟨b, off, none⟩ = some x0) (c2 : w.cell? ⟨b, off + 2, none⟩ = some x2) (hc : w.cell? ⟨b, off + 4, none⟩ = some (.int .i32 1)) (hz : w.frozen? ⟨b, off + 4, none⟩ = false) :
    CallsD Try.prog 34 #[.pointer (some ⟨b, off, none⟩)] u w fun e u' w' => u' = u ∧ (e = .returned (.tuple #[]) ∧ w' = w.setCell ⟨b, off + 4, none⟩ (.int .i32 0)) := by
  have h1 := raceRead
  have h2 := disable
  have h3 := enable
  have h4 := releaseMerge
  have v0 := to_raw (src := 115) Try.underlying115 (by kernel_rfl) c0
  have v2 := to_raw (src := 117) Try.underlying117 (by kernel_rfl) c2
  have hadd := run_call_add (P := Try.prog) Try.func50 (by kernel_rfl) (by kernel_rfl) (by kernel_rfl) .i32 (by kernel_rfl) (y := -1) (s := 0) hc hz (by simp [go_sem, IntKind.wrap_i32])
  go_enter_d Try.func34, Try.ntmps34
  go_wp2
  go_end0
  exact ⟨rfl, rfl⟩
end Go.Proofs.Qxb6603497a.counts

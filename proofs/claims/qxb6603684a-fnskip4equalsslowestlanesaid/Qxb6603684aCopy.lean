import Derived.Laws.CopyRow
import Derived.Laws.NewBlocks
import Derived.Laws.MakeOwn
namespace Go.Proofs.Qxb6603684a.copying
open Go

variable {P : Program}

theorem run_copy_rowN (w : World) (dT sT ty elem : TypeId) (g dLen dCap : Nat) (a : Addr) (sLen sCap : Nat) (cur : Array Value) (t : TypeId) (cs : List Value) (size : Nat)
    (hu : P.underlying dT = some (.slice elem)) (hs : (P.info? elem).map (·.size) = some size)
    (hg : w.heap[g]? = some (.cells cur t (0, 0))) (hn : cs.length = Nat.min sLen dLen * size)
    (hsrc : ∀ j v, cs[j]? = some v → w.cell? (a.add j) = some v) (hfit : cs.length ≤ cur.size) (h1 : ∀ v ∈ cs, v.oneCell' = true) :
    (Builtin.copy_ #[dT, sT] ty #[.slice (some ⟨g, 0, none⟩) dLen dCap, .slice (some a) sLen sCap]).run P w =
      .ok (goInt (Nat.min sLen dLen)) (w.setRow g (cs ++ cur.toList.drop cs.length).toArray) := by
  have hl := run_loadCells_list (P := P) w a cs hsrc
  have hst := run_storeCells_at P g 0 t cs 0 cur w hg (by simpa using hfit) h1
  cases hq : P.info? elem with
  | none => simp [hq] at hs
  | some i =>
    have hi : i.size = size := by simpa [hq] using hs
    simp [Builtin.copy_, run_underlying hu, Builtin.lenOf, Builtin.firstCells, sizeOf, typeInfo, hq, hi, ← hn, hl, hst]

theorem setRow_new (w : World) (c c' : Array Value) (t : TypeId) : (w.alloc (.cells c t)).setRow w.heap.size c' = w.alloc (.cells c' t) := by
  have h : ((w.heap.push (Obj.cells c t)).modify w.heap.size fun
      | .cells _ elem frozen => .cells c' elem frozen
      | o => o) = w.heap.push (Obj.cells c' t) := by
    apply Array.ext_getElem?
    intro i
    rw [Array.getElem?_modify]
    by_cases e : w.heap.size = i
    · subst e; simp
    · rw [if_neg e, Array.getElem?_push, Array.getElem?_push]
      simp [Ne.symm e]
  exact congrArg (fun H => ({ w with heap := H } : World)) h

/-- 'copy(z, src)' into a row that was just made, as long as what is copied. -/
theorem run_copy_made (w : World) (T ty elem : TypeId) (n : Nat) (a : Addr) (sCap : Nat) (c : Array Value) (cs : List Value) (size : Nat)
    (hu : P.underlying T = some (.slice elem)) (hs : (P.info? elem).map (·.size) = some size) (hn : cs.length = n * size) (hc : c.size = n * size)
    (hsrc : ∀ j v, cs[j]? = some v → w.cell? (a.add j) = some v) (h1 : ∀ v ∈ cs, v.oneCell' = true) :
    (Builtin.copy_ #[T, T] ty #[.slice (some ⟨w.heap.size, 0, none⟩) n n, .slice (some a) n sCap]).run P (w.alloc (.cells c elem)) =
      .ok (.int .i64 (n : Int)) (w.alloc (.cells cs.toArray elem)) := by
  have hm : Nat.min n n = n := Nat.min_self n
  have := run_copy_rowN (P := P) (w.alloc (.cells c elem)) T T ty elem w.heap.size n n a n sCap c elem cs size hu hs (heap_alloc_new w _) (by rw [hm]; exact hn)
    (fun j v hj => by
      have h := hsrc j v hj
      rw [World.cell?_alloc_lt _ _ _ (World.block_lt_of_cell? w _ h)]; exact h) (by omega) h1
  rw [this, setRow_new, hm]
  congr 3
  rw [List.drop_of_length_le (by simp; omega), List.append_nil]
end Go.Proofs.Qxb6603684a.copying

import Derived.Test.Qxb6604437aRows
import Derived.Test.Qxb6604437aShelf
import Derived.WalkKit
import Derived.WalkSpells
import Derived.ProofKit
import Derived.OpenShut
namespace Go.Proofs.Qxb6604437a.ucs
open Go.Shelf Go.RowKit

theorem size33 : (Try.prog.info? 33).map (·.size) = some 2 := by kernel_rfl
theorem lies33 : liesAt Try.prog Try.prog.depth 33 (2 / Try.prog.cellsOf 33) 0 33 1 = true := Try.Builder_Extra_169.liesBuilder

theorem conv_to (w : World) (b : Nat) (hsh : w.shape? b = some (33, 2)) :
    (convert 31 42 (.pointer (some ⟨b, 0, none⟩))).run Try.prog w = .ok (.pointer (some ⟨b, 0, none⟩)) w := by
  obtain ⟨j, hj, hjs⟩ := Option.map_eq_some_iff.1 size33
  simp only [convert, run_underlying Try.underlying31, run_underlying Try.underlying42, Sem.run_bind]
  show Sem.run Try.prog (underlying 31 >>= fun u => underlying 42 >>= fun v => _) w = _
  simp [run_underlying Try.underlying31, run_underlying Try.underlying42, Conv.seenAt, viewAt, cellsIn, hsh, sizeOf, typeInfo, hj, hjs]

theorem conv_from (w : World) (b : Nat) (hsh : w.shape? b = some (33, 2)) :
    (convert 42 31 (.pointer (some ⟨b, 0, none⟩))).run Try.prog w = .ok (.pointer (some ⟨b, 0, none⟩)) w := by
  obtain ⟨j, hj, hjs⟩ := Option.map_eq_some_iff.1 size33
  simp only [convert, run_underlying Try.underlying31, run_underlying Try.underlying42, Sem.run_bind]
  show Sem.run Try.prog (underlying 42 >>= fun u => underlying 31 >>= fun v => _) w = _
  simp [run_underlying Try.underlying31, run_underlying Try.underlying42, Conv.seenAt, viewAt, hsh, variablesAt, lies33, sizeOf, typeInfo, hj]
set_option maxHeartbeats 1000000 in
set_option maxRecDepth 100000 in
theorem check_used (b : Nat) (w : World) (h0 : w.cell? ⟨b, 0, none⟩ = some (.pointer (some ⟨b, 0, none⟩))) :
    Calls Try.prog 11 #[.pointer (some ⟨b, 0, none⟩)] w fun e w' => e = .returned (.tuple #[]) ∧ w' = w := by
  obtain ⟨j, hj, _⟩ := Option.map_eq_some_iff.1 size33
  go_enter Try.func11, Try.ntmps11
  go_wp2
  rw [Lib.run_neq_ptr_same w _ Try.underlying31 hj]
  go_wp2
  go_end0
  exact ⟨rfl, rfl⟩

set_option maxHeartbeats 1000000 in
set_option maxRecDepth 100000 in
theorem check_fresh (b : Nat) (w : World) (h0 : w.cell? ⟨b, 0, none⟩ = some (.pointer none)) (hsh : w.shape? b = some (33, 2)) (hfz : w.frozen? ⟨b, 0, none⟩ = false) :
    Calls Try.prog 11 #[.pointer (some ⟨b, 0, none⟩)] w fun e w' => e = .returned (.tuple #[]) ∧ w' = w.setCell ⟨b, 0, none⟩ (.pointer (some ⟨b, 0, none⟩)) := by
  obtain ⟨j, hj, hjs⟩ := Option.map_eq_some_iff.1 size33
  go_enter Try.func11, Try.ntmps11
  go_wp2
  rw [conv_to w b hsh]
  simp only [Result.andThen]
  rw [Oper.upon_value]
  go_wp2
  rw [run_callFunc_extern Try.func13 (by kernel_rfl) (by kernel_rfl) (by kernel_rfl) (e := Extern.AbiNoEscape.same) (by kernel_rfl)]
  rw [Lib.run_noEscape]
  simp only [Result.andThen]
  rw [Oper.upon_value]
  go_wp2
  rw [conv_from w b hsh]
  simp only [Result.andThen]
  rw [Oper.upon_value]
  go_wp2
  go_end0
  exact ⟨rfl, rfl⟩

theorem check_any (B b : Nat) (bs : List Value) (w : World) (h : Lib.IsBuilder 33 5 B b bs w) :
    Calls Try.prog 11 #[.pointer (some ⟨b, 0, none⟩)] w fun e w' => e = .returned (.tuple #[]) ∧ (Lib.BuilderAt 33 5 B b (.pointer (some ⟨b, 0, none⟩)) bs w' ∧ Below B w w') := by
  rcases h with h | h
  · refine (check_fresh b w h.cell0 h.shape h.frozen0).mono ?_
    rintro e w' ⟨rfl, rfl⟩
    exact ⟨rfl, h.used _, (Below.refl B w).setCell (p := ⟨b, 0, none⟩) h.1 _⟩
  · refine (check_used b w h.cell0).mono ?_
    rintro e w' ⟨rfl, rfl⟩
    exact ⟨rfl, h, Below.refl B _⟩

set_option maxHeartbeats 2000000 in
set_option maxRecDepth 100000 in
theorem rune_any (B b : Nat) (bs : List Value) (r : Int) (hr0 : -2147483648 ≤ r) (hr1 : r ≤ 2147483647) (w : World) (h : Lib.IsBuilder 33 5 B b bs w) (hlen : bs.length + 4 ≤ 140737488355328) (hBw : B ≤ w.heap.size) :
    Calls Try.prog 9 #[.pointer (some ⟨b, 0, none⟩), .int .i32 r] w fun e w' => e = .returned (.tuple #[.int .i64 (Lib.runeCells r).length, .nilIface]) ∧ (Lib.BuilderAt 33 5 B b (.pointer (some ⟨b, 0, none⟩)) (bs ++ Lib.runeCells r) w' ∧ Below B w w') := by
  have hk4 := Lib.runeCells_le r
  go_enter Try.func9, Try.ntmps9
  go_wp2_with fail
  refine (check_any B b bs _ h).mono ?_
  rintro e w1 ⟨rfl, h1, hb1⟩
  obtain ⟨hB, v, hbk, hown, hne⟩ := h1
  obtain ⟨ao, cap, rfl⟩ : ∃ ao cap, v = .slice ao bs.length cap := by
    rcases hown.2 with ⟨hv, h0⟩ | ⟨g, cap, cur, hv, _⟩
    · exact ⟨none, 0, by rw [hv, h0]⟩
    · exact ⟨_, _, hv⟩
  have c0 : w1.cell? ⟨b, 0, none⟩ = some (.pointer (some ⟨b, 0, none⟩)) := by rw [Lib.cell_of_heap hbk]; rfl
  have c1 : w1.cell? ⟨b, 1, none⟩ = some (.slice ao bs.length cap) := by rw [Lib.cell_of_heap hbk]; rfl
  go_wp2_with fail
  refine (Try.utf8_AppendRune_plain B _ bs.length bs r hr0 hr1 _ hown hlen (by have := hb1.size; omega)).mono ?_
  rintro e w2 ⟨v', rfl, hown', o, hgrow⟩
  have hlt : b < w1.heap.size := by
    rcases Nat.lt_or_ge b w1.heap.size with h' | h'
    · exact h'
    · simp [Array.getElem?_eq_none h'] at hbk
  have hb2 : w2.heap[b]? = some (.cells #[.pointer (some ⟨b, 0, none⟩), .slice ao bs.length cap] 33 (0, 0)) := by
    rw [hgrow.block b (by simp; omega) (fun e => hne e.symm), Lib.alloc_old w1 _ b hlt]
    exact hbk
  have d0 : w2.cell? ⟨b, 0, none⟩ = some (.pointer (some ⟨b, 0, none⟩)) := by rw [Lib.cell_of_heap hb2]; rfl
  have d1 : w2.cell? ⟨b, 1, none⟩ = some (.slice ao bs.length cap) := by rw [Lib.cell_of_heap hb2]; rfl
  have f1 : w2.frozen? ⟨b, 1, none⟩ = false := Lib.frozen_of_heap hb2 1
  obtain ⟨g, cap', rfl⟩ : ∃ g cap', v' = .slice (some ⟨g, 0, none⟩) (bs.length + (Lib.runeCells r).length) cap' := by
    rcases hown'.2 with ⟨_, h0⟩ | ⟨g, cap', cur, hv, _⟩
    · omega
    · exact ⟨g, cap', hv⟩
  go_wp2
  go_ret2
  refine ⟨?_, ?_, ?_⟩
  · have e : ((bs.length : Int) + ((Lib.runeCells r).length : Int) - (bs.length : Int)) = ((Lib.runeCells r).length : Int) := by omega
    simp [e]
  · exact Lib.BuilderAt.put (T := 33) (e := 5) hB hb2 (bs' := bs ++ Lib.runeCells r) (by simpa using hown') (by decide)
  · exact ((hb1.alloc (by have := hb1.size; omega) _).grown hgrow (by have := hb1.size; simp; omega) (fun k hk => (hown.lt k hk).1)).setCell (p := ⟨b, 1, none⟩) hB _
end Go.Proofs.Qxb6604437a.ucs

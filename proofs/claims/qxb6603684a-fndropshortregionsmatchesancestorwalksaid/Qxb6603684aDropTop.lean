import Derived.Test.Qxb6603684aDropZZ
import Derived.Test.Qxb6603684aCopy
namespace Go.Proofs.Qxb6603684a.drop
open Go.ChangeShapes Go.WideShapes Go.ChangeAt Go.RowKit

def BoolPost (e : Ending) : Prop := ∃ b, e = .returned (.bool b)

theorem zz5_any (a : Option Addr) (n cap : Nat) (hn : n ≤ 9223372036854775807) (w : World) : Calls Try.prog 5 #[.slice a n cap] w fun e w' => BoolPost e ∧ w' = w := by
  by_cases h : 1048576 < n
  · go_enter Try.func5, Try.ntmps5
    go_wp2
    go_ret
    exact ⟨⟨_, rfl⟩, rfl⟩
  · go_enter Try.func5, Try.ntmps5
    go_wp2
    go_ret
    exact ⟨⟨_, rfl⟩, rfl⟩

theorem regs_new (w : World) (rs : List Rg) (t : TypeId) : RegsAt (w.alloc (.cells (flat rs).toArray t)) (some ⟨w.heap.size, 0, none⟩) rs := by
  intro i hi
  have key : ∀ c v, c < 5 → (rgCells rs[i])[c]? = some v → (w.alloc (.cells (flat rs).toArray t)).cell? ⟨w.heap.size, 0 + i * 5 + c, none⟩ = some v := fun c v hc hv => by
    rw [World.cell?_alloc_new, Nat.zero_add]
    simpa using (flat_get rs i hi c hc).trans hv
  exact ⟨w.heap.size, 0, rfl, key 0 _ (by decide) rfl, key 1 _ (by decide) rfl, key 2 _ (by decide) rfl, key 3 _ (by decide) rfl, key 4 _ (by decide) rfl⟩

theorem regs_src {w : World} {ad : Addr} {rs : List Rg} (h : RegsAt w (some ad) rs) : ∀ j v, (flat rs)[j]? = some v → w.cell? (ad.add j) = some v := by
  intro j v hj
  have hlt : j < rs.length * 5 := by
    rw [← flat_length]
    exact (List.getElem?_eq_some_iff.1 hj).1
  have hi : j / 5 < rs.length := by omega
  obtain ⟨b, off, e, c0, c1, c2, c3, c4⟩ := h (j / 5) hi
  obtain rfl : ad = ⟨b, off, none⟩ := by simpa using e
  have hg := flat_get rs (j / 5) hi (j % 5) (by omega)
  rw [show j / 5 * 5 + j % 5 = j from by omega, hj] at hg
  rw [add_plain]
  have hr : j % 5 = 0 ∨ j % 5 = 1 ∨ j % 5 = 2 ∨ j % 5 = 3 ∨ j % 5 = 4 := by omega
  rcases hr with r | r | r | r | r
  · rw [r] at hg; rw [show off + j = off + j / 5 * 5 from by omega, c0, hg]; rfl
  · rw [r] at hg; rw [show off + j = off + j / 5 * 5 + 1 from by omega, c1, hg]; rfl
  · rw [r] at hg; rw [show off + j = off + j / 5 * 5 + 2 from by omega, c2, hg]; rfl
  · rw [r] at hg; rw [show off + j = off + j / 5 * 5 + 3 from by omega, c3, hg]; rfl
  · rw [r] at hg; rw [show off + j = off + j / 5 * 5 + 4 from by omega, c4, hg]; rfl

theorem flat_one (rs : List Rg) : ∀ v ∈ flat rs, v.oneCell' = true := by
  induction rs with
  | nil => intro v hv; cases hv
  | cons g rs ih =>
    intro v hv
    rcases List.mem_append.1 hv with hv | hv
    · exact five_one g v hv
    · exact ih v hv

theorem regs_none {w : World} {rs : List Rg} (h : RegsAt w none rs) : rs = [] := by
  cases rs with
  | nil => rfl
  | cons o os => obtain ⟨_, _, h1, _⟩ := h 0 (by simp); cases h1

theorem make24 (m : Nat) (h : m ≤ 1048576) (w : World) : (Instr.makeSlice 22 (.int .i64 (m : Int)) (.int .i64 (m : Int))).run Try.prog w =
    .ok (.slice (some ⟨w.heap.size, 0, none⟩) m m) (w.alloc (.cells (madeCells #[.int .i64 0, .int .i64 0, .int .i64 0, .int .i64 0, .int .i64 0] (m * 5)) 24)) := by
  obtain ⟨i, hi, hz, hs, hb⟩ := info_parts info24
  have hr := run_make (P := Try.prog) w 22 24 i _ Try.underlying22 hi hz .i64 .i64 m m (by omega) (by omega) (by rw [hb]; omega) (by omega)
  rw [hs] at hr
  simpa [Value.cells] using hr

theorem copy24 (rs : List Rg) (n : Nat) (hn : rs.length = n) (ad : Addr) (cap : Nat) (w : World) (h : RegsAt w (some ad) rs) (ty : TypeId) :
    (Builtin.copy_ #[22, 22] ty #[.slice (some ⟨w.heap.size, 0, none⟩) n n, .slice (some ad) n cap]).run Try.prog (w.alloc (.cells (madeCells #[.int .i64 0, .int .i64 0, .int .i64 0, .int .i64 0, .int .i64 0] (n * 5)) 24)) =
      .ok (.int .i64 (n : Int)) (w.alloc (.cells (flat rs).toArray 24)) :=
  copying.run_copy_made w 22 ty 24 n ad cap _ (flat rs) 5 Try.underlying22 (by kernel_rfl) (by rw [flat_length, hn]) (size_madeCells _ _) (regs_src h) (flat_one rs)

def LawPost (w : World) (e : Ending) (w' : World) : Prop := e = .returned (.bool true) ∧ Below w.heap.size w w'

theorem q22e (w : World) (a : Option Addr) (n c n' c' : Nat) : (binOp .eql 22 (.slice a n c) (.slice none n' c')).run Try.prog w = .ok (.bool a.isNone) w := Lib.run_eql_slice_nil w _ _ a n c n' c' Try.underlying22
theorem q22n (w : World) (a : Option Addr) (n c n' c' : Nat) : (binOp .neq 22 (.slice a n c) (.slice none n' c')).run Try.prog w = .ok (.bool (!a.isNone)) w := run_neq_slice_nil_any w _ _ a n c n' c' Try.underlying22
end Go.Proofs.Qxb6603684a.drop

import Derived.Test.Qxb6603684aRows
import Derived.Test.Qxb6603684aSkipPlain
import Derived.WalkKit
import Derived.Laws.Cells
namespace Go.Proofs.Qxb6603684a.skip

theorem run_loadAt_array {P : Program} (w : World) (t e : TypeId) (n b : Nat) (C : Array Value) (hu : P.underlying t = some (.array n e)) (hs : (P.info? t).map (·.size) = some n) (hC : C.size = n)
    (hc : ∀ i, i < n → w.cell? ⟨b, i, none⟩ = C[i]?) : (Instr.loadAt t (.pointer (some ⟨b, 0, none⟩))).run P w = .ok (.agg C) w := by
  have hl := run_loadCells_list (P := P) w ⟨b, 0, none⟩ C.toList (fun j v hj => by
    rw [Addr.add_lit]
    have hlt : j < n := by rw [← hC]; simpa using (List.getElem?_eq_some_iff.1 hj).1
    rw [Nat.zero_add, hc j hlt]; simpa using hj)
  simp only [Array.length_toList, hC, Array.toArray_toList] at hl
  cases hq : P.info? t with
  | none => simp [hq] at hs
  | some i =>
    have hi : i.size = n := by simpa [hq] using hs
    simp [Instr.loadAt, Instr.sureAddr, loadVar, isAgg, run_underlying hu, sizeOf, typeInfo, hq, hi, hl]

theorem wpList_loadAgg {P : Program} (w : World) {ops : Array Oper} {rest : List Oper} {o : Oper} {a : Act} {Q : Exit → Act → World → Prop} (hg : o.guard = none) (t e : TypeId) (x : Operand) (hop : o.op = .load t x)
    (n b : Nat) (C : Array Value) (hx : a.eval x = .pointer (some ⟨b, 0, none⟩)) (hu : P.underlying t = some (.array n e)) (hs : (P.info? t).map (·.size) = some n) (hC : C.size = n)
    (hc : ∀ i, i < n → w.cell? ⟨b, i, none⟩ = C[i]?) (hK : wpList P ops Q rest (a.put o.dst (.agg C)) w) : wpList P ops Q (o :: rest) a w := by
  refine wpList_plain hg fun K hK' => ?_
  have hrun := run_loadAt_array (P := P) w t e n b C hu hs hC hc
  unfold Oper.wp
  simp [execOp, hop, hx, hrun, Result.andThen]
  exact hK' _ _ hK


/-! ### The struct 'literals' made of its two tables: 266 cells -/
theorem build_places : ∃ fields places, Try.prog.underlying 45 = some (.struct fields) ∧ (∀ w : World, (fields.mapM (fun f => Prod.mk f.offset <$> sizeOf f.type) : Sem (Array (Nat × Nat))).run Try.prog w = .ok places w) ∧ places[0]? = some (0, 256) ∧ places[3]? = some (258, 1) :=
  ⟨_, #[(0, 256), (256, 1), (257, 1), (258, 1), (259, 1), (260, 1), (261, 1), (262, 1), (263, 1), (264, 1), (265, 1)], Try.underlying45, fun w => by kernel_rfl, rfl, rfl⟩
theorem info45 : (Try.prog.info? 45).map (fun i => (i.zero.map (fun z => z.cells.size), i.size)) = some (some 266, 266) := by kernel_rfl

theorem putL (l : List Value) : ∀ (k : Nat) (cells : Array Value),
    ((l.zipIdx k).foldl (fun cs x => cs.setIfInBounds (0 + x.2) x.1) cells).size = cells.size ∧
    ∀ i, ((l.zipIdx k).foldl (fun cs x => cs.setIfInBounds (0 + x.2) x.1) cells)[i]? = if k ≤ i ∧ i < k + l.length ∧ i < cells.size then l[i - k]? else cells[i]? := by
  induction l with
  | nil => exact fun k cells => ⟨rfl, fun i => by rw [if_neg (by simp; omega)]; rfl⟩
  | cons v l ih =>
    intro k cells
    obtain ⟨h1, h2⟩ := ih (k + 1) (cells.setIfInBounds (0 + k) v)
    simp only [List.zipIdx_cons, List.foldl_cons]
    refine ⟨by rw [h1]; simp, fun i => ?_⟩
    rw [h2 i]
    simp only [Array.size_setIfInBounds, Nat.zero_add, List.length_cons]
    by_cases e : i = k
    · subst e
      rw [if_neg (by omega), Array.getElem?_setIfInBounds]
      by_cases hs : i < cells.size
      · rw [if_pos rfl, if_pos hs, if_pos (by omega)]; simp
      · rw [if_pos rfl, if_neg hs, if_neg (by omega)]; simp; omega
    · by_cases hc : k + 1 ≤ i ∧ i < k + 1 + l.length ∧ i < cells.size
      · rw [if_pos hc, if_pos (by omega), show i - k = (i - (k + 1)) + 1 from by omega, List.getElem?_cons_succ]
      · rw [if_neg hc, if_neg (by omega), Array.getElem?_setIfInBounds, if_neg (fun h => e h.symm)]

/-- The struct 'literals' made of C and v. -/
theorem run_build45 (w : World) (C : Array Value) (hC : C.size = 256) (v : Value) (hv : v.cells = #[v]) :
    ∃ B : Array Value, (Instr.build 45 #[(0, .agg C), (3, v)]).run Try.prog w = .ok (.agg B) w ∧ (∀ i, i < 256 → B[i]? = C[i]?) ∧ B[258]? = some v := by
  obtain ⟨fields, places, hu, hpl, h0, h3⟩ := build_places
  obtain ⟨i, hi, hz⟩ := Option.map_eq_some_iff.1 info45
  simp only [Prod.mk.injEq] at hz
  obtain ⟨z, hzz, hzs⟩ := Option.map_eq_some_iff.1 hz.1
  obtain ⟨p1, p2⟩ := putL C.toList 0 z.cells
  have e1 : C.zipIdx.foldl (fun cs x => cs.setIfInBounds (0 + x.2) x.1) z.cells = (C.toList.zipIdx 0).foldl (fun cs x => cs.setIfInBounds (0 + x.2) x.1) z.cells := by
    rw [← Array.foldl_toList]; simp
  have e2 : C.zipIdx.foldl (fun cs x => match x with | (c, j) => cs.setIfInBounds (0 + j) c) z.cells = (C.toList.zipIdx 0).foldl (fun cs x => cs.setIfInBounds (0 + x.2) x.1) z.cells := e1
  generalize hG : (C.toList.zipIdx 0).foldl (fun cs x => cs.setIfInBounds (0 + x.2) x.1) z.cells = G at p1 p2 e1 e2
  have s1 : G.size = 266 := by rw [p1, hzs]
  refine ⟨G.setIfInBounds 258 v, ?_, fun j hj => ?_, ?_⟩
  · have hf : Instr.fill (fun x => places[x]?) z.cells [(0, .agg C), (3, v)] = some (G.setIfInBounds 258 v) := by
      unfold Instr.fill
      simp only [h0]
      rw [if_neg (by rw [show (Value.agg C).cells = C from rfl, hC, hzs]; decide)]
      show Instr.fill _ (C.zipIdx.foldl (fun cs x => match x with | (c, j) => cs.setIfInBounds (0 + j) c) z.cells) _ = _
      rw [e2]
      unfold Instr.fill
      simp only [h3, hv]
      rw [if_neg (by simp [s1])]
      simp [Instr.fill]
    simp [Instr.build, zeroValue, typeInfo, hi, hzz, run_underlying hu, hpl, hf]
  · rw [Array.getElem?_setIfInBounds, if_neg (by omega), p2 j, if_pos (by simp [hC, hzs]; omega)]; simp
  · rw [Array.getElem?_setIfInBounds, if_pos rfl, if_pos (by rw [s1]; decide)]

theorem wpList_build45 (w : World) {ops : Array Oper} {rest : List Oper} {o : Oper} {a : Act} {Q : Exit → Act → World → Prop} (hg : o.guard = none) (x y : Operand) (hop : o.op = .build 45 #[(0, x), (3, y)])
    (C : Array Value) (hC : C.size = 256) (v : Value) (hv : v.cells = #[v]) (hx : a.eval x = .agg C) (hy : a.eval y = v)
    (hK : ∀ B : Array Value, (∀ i, i < 256 → B[i]? = C[i]?) → B[258]? = some v → wpList Try.prog ops Q rest (a.put o.dst (.agg B)) w) : wpList Try.prog ops Q (o :: rest) a w := by
  refine wpList_plain hg fun K hK' => ?_
  obtain ⟨B, hrun, h1, h2⟩ := run_build45 w C hC v hv
  unfold Oper.wp
  simp [execOp, hop, hx, hy, hrun, Result.andThen]
  exact hK' _ _ (hK B h1 h2)
end Go.Proofs.Qxb6603684a.skip

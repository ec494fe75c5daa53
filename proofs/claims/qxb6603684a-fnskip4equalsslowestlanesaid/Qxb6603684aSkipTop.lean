import Derived.Test.Qxb6603684aSkipZZ
import Derived.Test.Qxb6603684aCopy
import Derived.Deep.DeepCutAuto
import Derived.Deep.OwnRows
namespace Go.Proofs.Qxb6603684a.skip
open Go.ChangeShapes Go.WideShapes Go.ChangeAt Go.RowKit

theorem results6 {fn : Func} {t0 t1 t2 t3 t4 t5 : Tmp} (h : fn.results = #[.tmp t0, .tmp t1, .tmp t2, .tmp t3, .tmp t4, .tmp t5]) (tmps : Array Value) (P : Program) (w : World) :
    (results fn tmps).run P w = .ok (.tuple #[tmps.getD t0 undef, tmps.getD t1 undef, tmps.getD t2 undef, tmps.getD t3 undef, tmps.getD t4 undef, tmps.getD t5 undef]) w := by
  simp [results, h]

/-- What skip4Model answers on a sparse start. -/
def SparsePost (v0 v1 v2 v3 : Nat) (w : World) (e : Ending) (w' : World) : Prop :=
  e = .returned (.tuple #[.int .i64 0, .int .u32 (v0 : Int), .int .u32 (v1 : Int), .int .u32 (v2 : Int), .int .u32 (v3 : Int), .bool true]) ∧ Below w.heap.size w w'

set_option maxHeartbeats 2000000 in
set_option maxRecDepth 8000 in
theorem model_sparse (C : Array Value) (w : World) (t0 : Value) (a0 a1 a2 a3 : Option Addr) (n0 n1 n2 n3 c0 c1 c2 c3 : Nat) (v0 v1 v2 v3 : Nat)
    (hs : 1073741824 ≤ v0 ∨ 1073741824 ≤ v1 ∨ 1073741824 ≤ v2 ∨ 1073741824 ≤ v3) :
    Calls Try.prog 8 #[.agg C, t0, .slice a0 n0 c0, .slice a1 n1 c1, .slice a2 n2 c2, .slice a3 n3 c3, .int .u32 (v0 : Int), .int .u32 (v1 : Int), .int .u32 (v2 : Int), .int .u32 (v3 : Int)] w fun e w' => SparsePost v0 v1 v2 v3 w e w' := by
  have hs' : (1073741824 : Int) ≤ (v0 : Int) ∨ (decide ((1073741824 : Int) ≤ (v0 : Int)) = false ∧ (1073741824 : Int) ≤ (v1 : Int)) ∨ (decide ((1073741824 : Int) ≤ (v0 : Int)) = false ∧ decide ((1073741824 : Int) ≤ (v1 : Int)) = false ∧ (1073741824 : Int) ≤ (v2 : Int)) ∨
      (decide ((1073741824 : Int) ≤ (v0 : Int)) = false ∧ decide ((1073741824 : Int) ≤ (v1 : Int)) = false ∧ decide ((1073741824 : Int) ≤ (v2 : Int)) = false ∧ (1073741824 : Int) ≤ (v3 : Int)) := by
    simp only [decide_eq_false_iff_not]; omega
  clear hs
  rcases hs' with h | ⟨h, h'⟩ | ⟨h, h', h2⟩ | ⟨h, h', h2, h3⟩ <;>
  · go_enter Try.func8, Try.ntmps8
    go_wp2
    (try simp only [Exit.inBlock, Exit.then])
    refine bodyPost_ret (results6 rfl _ _ _) rfl ⟨rfl, ?_⟩
    exact (Below.refl _ _).alloc (Nat.le_refl _) _

def BoolPost (w : World) (e : Ending) (w' : World) : Prop := (∃ b, e = .returned (.bool b)) ∧ Below w.heap.size w w'

set_option maxHeartbeats 2000000 in
theorem zz7_any (C : Array Value) (w : World) (ta a0 a1 a2 a3 : Option Addr) (tn n0 n1 n2 n3 tc c0 c1 c2 c3 : Nat) (v0 v1 v2 v3 : Value) (ht : tn ≤ 9223372036854775807) (h0 : n0 ≤ 9223372036854775807) (h1 : n1 ≤ 9223372036854775807) (h2 : n2 ≤ 9223372036854775807) (h3 : n3 ≤ 9223372036854775807) :
    Calls Try.prog 7 #[.agg C, .slice ta tn tc, .slice a0 n0 c0, .slice a1 n1 c1, .slice a2 n2 c2, .slice a3 n3 c3, v0, v1, v2, v3] w fun e w' => BoolPost w e w' := by
  go_enter Try.func7, Try.ntmps7
  go_wp2
  all_goals go_ret
  all_goals exact ⟨⟨_, rfl⟩, (Below.refl _ _).alloc (Nat.le_refl _) _⟩

/-! ### The copies -/
def cellsOf (k : IntKind) (zs : List Nat) : List Value := zs.map fun z : Nat => .int k (z : Int)
theorem cellsOf_one (k : IntKind) (zs : List Nat) : ∀ v ∈ cellsOf k zs, v.oneCell' = true := by
  intro v hv
  unfold cellsOf at hv
  obtain ⟨z, _, rfl⟩ := List.mem_map.1 hv
  rfl
theorem row_src {k : IntKind} {w : World} {ad : Addr} {zs : List Nat} (h : RowAt k w (some ad) zs) : ∀ j v, (cellsOf k zs)[j]? = some v → w.cell? (ad.add j) = some v := by
  intro j v hj
  unfold cellsOf at hj
  rw [List.getElem?_map] at hj
  obtain ⟨z, hz, rfl⟩ := Option.map_eq_some_iff.1 hj
  obtain ⟨hlt, rfl⟩ := List.getElem?_eq_some_iff.1 hz
  obtain ⟨b, off, e, hc⟩ := h j hlt
  obtain rfl : ad = ⟨b, off, none⟩ := by simpa using e
  rw [Addr.add_lit]; exact hc
theorem row_new (k : IntKind) (w : World) (zs : List Nat) (t : TypeId) : RowAt k (w.alloc (.cells (cellsOf k zs).toArray t)) (some ⟨w.heap.size, 0, none⟩) zs := by
  intro i hi
  refine ⟨_, _, rfl, ?_⟩
  rw [Nat.zero_add, cell_box]
  simp [cellsOf, hi]

theorem copy30 (zs : List Nat) (n : Nat) (hn : zs.length = n) (ad : Addr) (cap : Nat) (w : World) (h : RowAt .u8 w (some ad) zs) (ty : TypeId) :
    (Builtin.copy_ #[30, 30] ty #[.slice (some ⟨w.heap.size, 0, none⟩) n n, .slice (some ad) n cap]).run Try.prog (w.alloc (.cells (madeCells #[.int .u8 0] n) 5)) =
      .ok (.int .i64 (n : Int)) (w.alloc (.cells (cellsOf .u8 zs).toArray 5)) :=
  copying.run_copy_made w 30 ty 5 n ad cap _ (cellsOf .u8 zs) 1 Try.underlying30 (by kernel_rfl) (by simp [cellsOf, hn]) (by rw [size_madeCells, Nat.mul_one]) (row_src h) (cellsOf_one _ _)
theorem copy29 (zs : List Nat) (n : Nat) (hn : zs.length = n) (ad : Addr) (cap : Nat) (w : World) (h : RowAt .u32 w (some ad) zs) (ty : TypeId) :
    (Builtin.copy_ #[29, 29] ty #[.slice (some ⟨w.heap.size, 0, none⟩) n n, .slice (some ad) n cap]).run Try.prog (w.alloc (.cells (madeCells #[.int .u32 0] n) 27)) =
      .ok (.int .i64 (n : Int)) (w.alloc (.cells (cellsOf .u32 zs).toArray 27)) :=
  copying.run_copy_made w 29 ty 27 n ad cap _ (cellsOf .u32 zs) 1 Try.underlying29 (by kernel_rfl) (by simp [cellsOf, hn]) (by rw [size_madeCells, Nat.mul_one]) (row_src h) (cellsOf_one _ _)
theorem q29 (w : World) (a : Option Addr) (n c n' c' : Nat) : (binOp .neq 29 (.slice a n c) (.slice none n' c')).run Try.prog w = .ok (.bool (!a.isNone)) w := run_neq_slice_nil_any w _ _ a n c n' c' Try.underlying29
theorem q30 (w : World) (a : Option Addr) (n c n' c' : Nat) : (binOp .neq 30 (.slice a n c) (.slice none n' c')).run Try.prog w = .ok (.bool (!a.isNone)) w := run_neq_slice_nil_any w _ _ a n c n' c' Try.underlying30
theorem info5 : (Try.prog.info? 5).map (fun i => (i.zero, i.size, i.bytes)) = some (some (.int .u8 0), 1, 1) := by kernel_rfl
theorem info27 : (Try.prog.info? 27).map (fun i => (i.zero, i.size, i.bytes)) = some (some (.int .u32 0), 1, 4) := by kernel_rfl

/-- What skip4Model answers; and where its answer stands, ZZSkip4 answers the same, later. -/
def ModelZ (args : Array Value) (w : World) (e : Ending) (w' : World) : Prop :=
  ∃ (N u0 u1 u2 u3 : Nat) (b : Bool), e = .returned (.tuple #[.int .i64 (N : Int), .int .u32 (u0 : Int), .int .u32 (u1 : Int), .int .u32 (u2 : Int), .int .u32 (u3 : Int), .bool b]) ∧ Below w.heap.size w w' ∧
    (b = true → ∀ w2 : World, Below w.heap.size w w2 → Calls Try.prog 9 args w2 fun e w' => SkipPost N u0 u1 u2 u3 w2 e w')

def TabRel (n : Nat) (zs : List Nat) (w : World) (s : Value) (wx : World) : Prop := ∃ a c, s = .slice a n c ∧ Tab wx a n zs ∧ Below w.heap.size w wx
def TxtRel (n : Nat) (zs : List Nat) (w : World) (s : Value) (wx : World) : Prop := ∃ a c, s = .slice a n c ∧ Txt wx a n c zs ∧ Below w.heap.size w wx
theorem tab_new {w : World} {a : Option Addr} {n : Nat} {zs : List Nat} (h : Tab w a n zs) : TabRel n zs w (.slice (some ⟨w.heap.size, 0, none⟩) n n) (w.alloc (.cells (cellsOf .u32 zs).toArray 27)) :=
  ⟨_, _, rfl, ⟨h.len, h.le, row_new _ _ _ _, h.b32⟩, (Below.refl _ _).alloc (Nat.le_refl _) _⟩
theorem txt_new {w : World} {a : Option Addr} {n c : Nat} {zs : List Nat} (h : Txt w a n c zs) : TxtRel n zs w (.slice (some ⟨w.heap.size, 0, none⟩) n n) (w.alloc (.cells (cellsOf .u8 zs).toArray 5)) :=
  ⟨_, _, rfl, ⟨h.len, h.le, Nat.le_refl _, row_new _ _ _ _, h.b8⟩, (Below.refl _ _).alloc (Nat.le_refl _) _⟩
theorem keepC' {C : Array Value} {wA wk : World} {L : Nat} (h : ∀ i, i < 256 → wA.cell? ⟨L, i, none⟩ = C[i]?) (hL : L < wA.heap.size) (hb : Below wA.heap.size wA wk) : ∀ i, i < 256 → wk.cell? ⟨L, i, none⟩ = C[i]? :=
  fun i hi => (hb.cell (p := ⟨L, i, none⟩) hL).trans (h i hi)
theorem chain' {a b c : World} (h : Below a.heap.size a b) (h' : Below b.heap.size b c) : Below a.heap.size a c := h.trans (h'.mono h.size)

def LawPost (w : World) (e : Ending) (w' : World) : Prop := e = .returned (.bool true) ∧ Below w.heap.size w w'

/-- What the walk of the law needs of skip4Model and ZZSkip4. -/
def Eight (C : Array Value) (tr z0 z1 z2 z3 : List Nat) (tn n0 n1 n2 n3 v0 v1 v2 v3 : Nat) : Prop :=
  ∀ (w : World) (ta a0 a1 a2 a3 : Option Addr) (tc c0 c1 c2 c3 : Nat), Tab w ta tn tr → Txt w a0 n0 c0 z0 → Txt w a1 n1 c1 z1 → Txt w a2 n2 c2 z2 → Txt w a3 n3 c3 z3 →
    Calls Try.prog 8 #[.agg C, .slice ta tn tc, .slice a0 n0 c0, .slice a1 n1 c1, .slice a2 n2 c2, .slice a3 n3 c3, .int .u32 (v0 : Int), .int .u32 (v1 : Int), .int .u32 (v2 : Int), .int .u32 (v3 : Int)] w fun e w' => ModelZ #[.agg C, .slice ta tn tc, .slice a0 n0 c0, .slice a1 n1 c1, .slice a2 n2 c2, .slice a3 n3 c3, .int .u32 (v0 : Int), .int .u32 (v1 : Int), .int .u32 (v2 : Int), .int .u32 (v3 : Int)] w e w'

set_option maxHeartbeats 8000000 in
set_option maxRecDepth 8000 in
theorem law_any (C : Array Value) (hC : C.size = 256) (w : World) (tr z0 z1 z2 z3 : List Nat) (ta a0 a1 a2 a3 : Option Addr) (tn n0 n1 n2 n3 tc c0 c1 c2 c3 v0 v1 v2 v3 : Nat)
    (ht : tn ≤ 9223372036854775807) (hn0 : n0 ≤ 9223372036854775807) (hn1 : n1 ≤ 9223372036854775807) (hn2 : n2 ≤ 9223372036854775807) (hn3 : n3 ≤ 9223372036854775807)
    (htr : tn ≤ 65536 → Tab w ta tn tr) (hz0 : n0 ≤ 65536 → Txt w a0 n0 c0 z0) (hz1 : n1 ≤ 65536 → Txt w a1 n1 c1 z1) (hz2 : n2 ≤ 65536 → Txt w a2 n2 c2 z2) (hz3 : n3 ≤ 65536 → Txt w a3 n3 c3 z3)
    (h8 : tn ≤ 65536 → n0 ≤ 65536 → n1 ≤ 65536 → n2 ≤ 65536 → n3 ≤ 65536 → Eight C tr z0 z1 z2 z3 tn n0 n1 n2 n3 v0 v1 v2 v3) :
    Calls Try.prog 4 #[.agg C, .slice ta tn tc, .slice a0 n0 c0, .slice a1 n1 c1, .slice a2 n2 c2, .slice a3 n3 c3, .int .u32 (v0 : Int), .int .u32 (v1 : Int), .int .u32 (v2 : Int), .int .u32 (v3 : Int)] w fun e w' => LawPost w e w' := by
  obtain ⟨wA, hwA⟩ : ∃ x, w.alloc (.cells C 28) = x := ⟨_, rfl⟩
  have HBA : Hid (Below w.heap.size w wA) := by rw [← hwA]; exact (Below.refl _ _).alloc (Nat.le_refl _) _
  have HCC : Hid (∀ i, i < 256 → wA.cell? ⟨w.heap.size, i, none⟩ = C[i]?) := fun i _ => by rw [← hwA]; exact cell_box w C 28 i
  have HSZ : Hid (w.heap.size < wA.heap.size) := by rw [← hwA]; simp [Hid]
  have HC : Hid (C.size = 256) := hC
  have HTR : Hid (tn ≤ 65536 → Tab w ta tn tr) := htr
  have HZ0 : Hid (n0 ≤ 65536 → Txt w a0 n0 c0 z0) := hz0
  have HZ1 : Hid (n1 ≤ 65536 → Txt w a1 n1 c1 z1) := hz1
  have HZ2 : Hid (n2 ≤ 65536 → Txt w a2 n2 c2 z2) := hz2
  have HZ3 : Hid (n3 ≤ 65536 → Txt w a3 n3 c3 z3) := hz3
  have H8 : Hid (tn ≤ 65536 → n0 ≤ 65536 → n1 ≤ 65536 → n2 ≤ 65536 → n3 ≤ 65536 → Eight C tr z0 z1 z2 z3 tn n0 n1 n2 n3 v0 v1 v2 v3) := h8
  clear hC htr hz0 hz1 hz2 hz3 h8
  go_enter Try.func4, Try.ntmps4
  go_wp2_with (refine wpList_loadAgg _ rfl 28 27 _ rfl 256 w.heap.size C rfl Try.underlying28 (by kernel_rfl) HC.out HCC.out ?_)
  refine (zz7_any C wA ta a0 a1 a2 a3 tn n0 n1 n2 n3 tc c0 c1 c2 c3 _ _ _ _ ht hn0 hn1 hn2 hn3).mono ?_
  rintro e wB ⟨⟨b, rfl⟩, hb⟩
  have HB : Hid (Below w.heap.size w wB) := HBA.out.trans (hb.mono (Nat.le_of_lt HSZ.out))
  have HCB : Hid (∀ i, i < 256 → wB.cell? ⟨w.heap.size, i, none⟩ = C[i]?) := keepC' HCC.out HSZ.out hb
  have HSB : Hid (w.heap.size < wB.heap.size) := Nat.lt_of_lt_of_le HSZ.out hb.size
  clear hb hwA HCC HSZ HBA
  cases b
  · go_wp2
    go_ret
    exact ⟨rfl, HB.out⟩
  by_cases g0 : 65536 < tn
  · go_wp2
    go_ret
    exact ⟨rfl, HB.out⟩
  by_cases g1 : 65536 < n0
  · go_wp2
    go_ret
    exact ⟨rfl, HB.out⟩
  by_cases g2 : 65536 < n1
  · go_wp2
    go_ret
    exact ⟨rfl, HB.out⟩
  by_cases g3 : 65536 < n2
  · go_wp2
    go_ret
    exact ⟨rfl, HB.out⟩
  by_cases g4 : 65536 < n3
  · go_wp2
    go_ret
    exact ⟨rfl, HB.out⟩
  have HTB : Hid (Tab wB ta tn tr) := (HTR.out (by omega)).keep HB.out
  have HB0 : Hid (Txt wB a0 n0 c0 z0) := (HZ0.out (by omega)).keep HB.out
  have HB1 : Hid (Txt wB a1 n1 c1 z1) := (HZ1.out (by omega)).keep HB.out
  have HB2 : Hid (Txt wB a2 n2 c2 z2) := (HZ2.out (by omega)).keep HB.out
  have HB3 : Hid (Txt wB a3 n3 c3 z3) := (HZ3.out (by omega)).keep HB.out
  have HE : Hid (Eight C tr z0 z1 z2 z3 tn n0 n1 n2 n3 v0 v1 v2 v3) := H8.out (by omega) (by omega) (by omega) (by omega) (by omega)
  have qa := q29
  have qb := q30
  clear HTR HZ0 HZ1 HZ2 HZ3 H8
  go_upto_if 73 with fail
  go_cut [1, 21] (fun s _ wx => TabRel tn tr wB s wx)
  case first =>
    cases ta with
    | none =>
      go_wp2_with fail
      go_meet
      exact ⟨_, _, rfl, HTB.out, Below.refl _ _⟩
    | some ad =>
      have hmk := run_make_row' (P := Try.prog) 29 27 (.int .u32 0) 4 Try.underlying29 info27 rfl .i64 .i64 tn (by omega) (by omega)
      have hcp := copy29 tr tn HTB.out.len ad tc wB HTB.out.row
      have HNEW : Hid _ := tab_new HTB.out
      go_wp2_with fail
      go_meet
      exact HNEW.out
  case rest =>
  obtain ⟨ta', tc', rfl, hx, hbx⟩ := hcut
  have HTB' : Hid (Tab wc ta' tn tr) := hx
  have HB0' : Hid (Txt wc a0 n0 c0 z0) := HB0.out.keep hbx
  have HB1' : Hid (Txt wc a1 n1 c1 z1) := HB1.out.keep hbx
  have HB2' : Hid (Txt wc a2 n2 c2 z2) := HB2.out.keep hbx
  have HB3' : Hid (Txt wc a3 n3 c3 z3) := HB3.out.keep hbx
  have HB' : Hid (Below w.heap.size w wc) := HB.out.trans (hbx.mono (Nat.le_of_lt HSB.out))
  have HCB' : Hid (∀ i, i < 256 → wc.cell? ⟨w.heap.size, i, none⟩ = C[i]?) := keepC' HCB.out HSB.out hbx
  have HSB' : Hid (w.heap.size < wc.heap.size) := Nat.lt_of_lt_of_le HSB.out hbx.size
  clear hx hbx HTB HB0 HB1 HB2 HB3 HB HCB HSB
  obtain ⟨wB, rfl⟩ : ∃ x, x = wc := ⟨wc, rfl⟩
  have HTB := HTB'
  have HB0 := HB0'
  have HB1 := HB1'
  have HB2 := HB2'
  have HB3 := HB3'
  have HB := HB'
  have HCB := HCB'
  have HSB := HSB'
  clear HTB' HB0' HB1' HB2' HB3' HB' HCB' HSB'
  go_upto_if 82 with fail
  go_cut [2, 22] (fun s _ wx => TxtRel n0 z0 wB s wx)
  case first =>
    cases a0 with
    | none =>
      go_wp2_with fail
      go_meet
      exact ⟨_, _, rfl, HB0.out, Below.refl _ _⟩
    | some ad =>
      have hmk := run_make_row' (P := Try.prog) 30 5 (.int .u8 0) 1 Try.underlying30 info5 rfl .i64 .i64 n0 (by omega) (by omega)
      have hcp := copy30 z0 n0 HB0.out.len ad c0 wB HB0.out.row
      have HNEW : Hid _ := txt_new HB0.out
      go_wp2_with fail
      go_meet
      exact HNEW.out
  case rest =>
  obtain ⟨a0', c0', rfl, hx, hbx⟩ := hcut
  have HTB' : Hid (Tab wc ta' tn tr) := HTB.out.keep hbx
  have HB0' : Hid (Txt wc a0' n0 c0' z0) := hx
  have HB1' : Hid (Txt wc a1 n1 c1 z1) := HB1.out.keep hbx
  have HB2' : Hid (Txt wc a2 n2 c2 z2) := HB2.out.keep hbx
  have HB3' : Hid (Txt wc a3 n3 c3 z3) := HB3.out.keep hbx
  have HB' : Hid (Below w.heap.size w wc) := HB.out.trans (hbx.mono (Nat.le_of_lt HSB.out))
  have HCB' : Hid (∀ i, i < 256 → wc.cell? ⟨w.heap.size, i, none⟩ = C[i]?) := keepC' HCB.out HSB.out hbx
  have HSB' : Hid (w.heap.size < wc.heap.size) := Nat.lt_of_lt_of_le HSB.out hbx.size
  clear hx hbx HTB HB0 HB1 HB2 HB3 HB HCB HSB
  obtain ⟨wB, rfl⟩ : ∃ x, x = wc := ⟨wc, rfl⟩
  have HTB := HTB'
  have HB0 := HB0'
  have HB1 := HB1'
  have HB2 := HB2'
  have HB3 := HB3'
  have HB := HB'
  have HCB := HCB'
  have HSB := HSB'
  clear HTB' HB0' HB1' HB2' HB3' HB' HCB' HSB'
  go_upto_if 91 with fail
  go_cut [3, 23] (fun s _ wx => TxtRel n1 z1 wB s wx)
  case first =>
    cases a1 with
    | none =>
      go_wp2_with fail
      go_meet
      exact ⟨_, _, rfl, HB1.out, Below.refl _ _⟩
    | some ad =>
      have hmk := run_make_row' (P := Try.prog) 30 5 (.int .u8 0) 1 Try.underlying30 info5 rfl .i64 .i64 n1 (by omega) (by omega)
      have hcp := copy30 z1 n1 HB1.out.len ad c1 wB HB1.out.row
      have HNEW : Hid _ := txt_new HB1.out
      go_wp2_with fail
      go_meet
      exact HNEW.out
  case rest =>
  obtain ⟨a1', c1', rfl, hx, hbx⟩ := hcut
  have HTB' : Hid (Tab wc ta' tn tr) := HTB.out.keep hbx
  have HB0' : Hid (Txt wc a0' n0 c0' z0) := HB0.out.keep hbx
  have HB1' : Hid (Txt wc a1' n1 c1' z1) := hx
  have HB2' : Hid (Txt wc a2 n2 c2 z2) := HB2.out.keep hbx
  have HB3' : Hid (Txt wc a3 n3 c3 z3) := HB3.out.keep hbx
  have HB' : Hid (Below w.heap.size w wc) := HB.out.trans (hbx.mono (Nat.le_of_lt HSB.out))
  have HCB' : Hid (∀ i, i < 256 → wc.cell? ⟨w.heap.size, i, none⟩ = C[i]?) := keepC' HCB.out HSB.out hbx
  have HSB' : Hid (w.heap.size < wc.heap.size) := Nat.lt_of_lt_of_le HSB.out hbx.size
  clear hx hbx HTB HB0 HB1 HB2 HB3 HB HCB HSB
  obtain ⟨wB, rfl⟩ : ∃ x, x = wc := ⟨wc, rfl⟩
  have HTB := HTB'
  have HB0 := HB0'
  have HB1 := HB1'
  have HB2 := HB2'
  have HB3 := HB3'
  have HB := HB'
  have HCB := HCB'
  have HSB := HSB'
  clear HTB' HB0' HB1' HB2' HB3' HB' HCB' HSB'
  go_upto_if 100 with fail
  go_cut [4, 24] (fun s _ wx => TxtRel n2 z2 wB s wx)
  case first =>
    cases a2 with
    | none =>
      go_wp2_with fail
      go_meet
      exact ⟨_, _, rfl, HB2.out, Below.refl _ _⟩
    | some ad =>
      have hmk := run_make_row' (P := Try.prog) 30 5 (.int .u8 0) 1 Try.underlying30 info5 rfl .i64 .i64 n2 (by omega) (by omega)
      have hcp := copy30 z2 n2 HB2.out.len ad c2 wB HB2.out.row
      have HNEW : Hid _ := txt_new HB2.out
      go_wp2_with fail
      go_meet
      exact HNEW.out
  case rest =>
  obtain ⟨a2', c2', rfl, hx, hbx⟩ := hcut
  have HTB' : Hid (Tab wc ta' tn tr) := HTB.out.keep hbx
  have HB0' : Hid (Txt wc a0' n0 c0' z0) := HB0.out.keep hbx
  have HB1' : Hid (Txt wc a1' n1 c1' z1) := HB1.out.keep hbx
  have HB2' : Hid (Txt wc a2' n2 c2' z2) := hx
  have HB3' : Hid (Txt wc a3 n3 c3 z3) := HB3.out.keep hbx
  have HB' : Hid (Below w.heap.size w wc) := HB.out.trans (hbx.mono (Nat.le_of_lt HSB.out))
  have HCB' : Hid (∀ i, i < 256 → wc.cell? ⟨w.heap.size, i, none⟩ = C[i]?) := keepC' HCB.out HSB.out hbx
  have HSB' : Hid (w.heap.size < wc.heap.size) := Nat.lt_of_lt_of_le HSB.out hbx.size
  clear hx hbx HTB HB0 HB1 HB2 HB3 HB HCB HSB
  obtain ⟨wB, rfl⟩ : ∃ x, x = wc := ⟨wc, rfl⟩
  have HTB := HTB'
  have HB0 := HB0'
  have HB1 := HB1'
  have HB2 := HB2'
  have HB3 := HB3'
  have HB := HB'
  have HCB := HCB'
  have HSB := HSB'
  clear HTB' HB0' HB1' HB2' HB3' HB' HCB' HSB'
  go_upto_if 109 with fail
  go_cut [5, 25] (fun s _ wx => TxtRel n3 z3 wB s wx)
  case first =>
    cases a3 with
    | none =>
      go_wp2_with fail
      go_meet
      exact ⟨_, _, rfl, HB3.out, Below.refl _ _⟩
    | some ad =>
      have hmk := run_make_row' (P := Try.prog) 30 5 (.int .u8 0) 1 Try.underlying30 info5 rfl .i64 .i64 n3 (by omega) (by omega)
      have hcp := copy30 z3 n3 HB3.out.len ad c3 wB HB3.out.row
      have HNEW : Hid _ := txt_new HB3.out
      go_wp2_with fail
      go_meet
      exact HNEW.out
  case rest =>
  obtain ⟨a3', c3', rfl, hx, hbx⟩ := hcut
  have HTB' : Hid (Tab wc ta' tn tr) := HTB.out.keep hbx
  have HB0' : Hid (Txt wc a0' n0 c0' z0) := HB0.out.keep hbx
  have HB1' : Hid (Txt wc a1' n1 c1' z1) := HB1.out.keep hbx
  have HB2' : Hid (Txt wc a2' n2 c2' z2) := HB2.out.keep hbx
  have HB3' : Hid (Txt wc a3' n3 c3' z3) := hx
  have HB' : Hid (Below w.heap.size w wc) := HB.out.trans (hbx.mono (Nat.le_of_lt HSB.out))
  have HCB' : Hid (∀ i, i < 256 → wc.cell? ⟨w.heap.size, i, none⟩ = C[i]?) := keepC' HCB.out HSB.out hbx
  have HSB' : Hid (w.heap.size < wc.heap.size) := Nat.lt_of_lt_of_le HSB.out hbx.size
  clear hx hbx HTB HB0 HB1 HB2 HB3 HB HCB HSB
  obtain ⟨wB, rfl⟩ : ∃ x, x = wc := ⟨wc, rfl⟩
  have HTB := HTB'
  have HB0 := HB0'
  have HB1 := HB1'
  have HB2 := HB2'
  have HB3 := HB3'
  have HB := HB'
  have HCB := HCB'
  have HSB := HSB'
  clear HTB' HB0' HB1' HB2' HB3' HB' HCB' HSB'
  go_wp2_with (refine wpList_loadAgg _ rfl 28 27 _ rfl 256 w.heap.size C rfl Try.underlying28 (by kernel_rfl) HC.out HCB.out ?_)
  refine (HE.out wB ta' a0' a1' a2' a3' tc' c0' c1' c2' c3' HTB.out HB0.out HB1.out HB2.out HB3.out).mono ?_
  rintro e w2 ⟨N, u0, u1, u2, u3, b, rfl, hb, h9⟩
  have HB2' : Hid (Below w.heap.size w w2) := HB.out.trans (hb.mono (Nat.le_of_lt HSB.out))
  have HCD : Hid (∀ i, i < 256 → w2.cell? ⟨w.heap.size, i, none⟩ = C[i]?) := keepC' HCB.out HSB.out hb
  have HSD : Hid (w.heap.size < w2.heap.size) := Nat.lt_of_lt_of_le HSB.out hb.size
  cases b with
  | false =>
    clear h9 hb
    go_wp2_with fail
    go_ret
    exact ⟨rfl, HB2'.out⟩
  | true =>
    have H9 : Hid (Calls Try.prog 9 _ w2 fun e w' => SkipPost N u0 u1 u2 u3 w2 e w') := h9 rfl w2 hb
    clear h9 hb
    go_wp2_with (refine wpList_loadAgg _ rfl 28 27 _ rfl 256 w.heap.size C rfl Try.underlying28 (by kernel_rfl) HC.out HCD.out ?_)
    refine H9.out.mono ?_
    rintro e w3 ⟨rfl, hb3⟩
    have HB3' : Hid (Below w.heap.size w w3) := HB2'.out.trans (hb3.mono (Nat.le_of_lt HSD.out))
    clear hb3
    go_wp2_with fail
    go_ret
    exact ⟨by simp, HB3'.out⟩
end Go.Proofs.Qxb6603684a.skip

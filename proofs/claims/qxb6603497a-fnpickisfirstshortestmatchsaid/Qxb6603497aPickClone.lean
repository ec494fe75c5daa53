import Derived.Test.Qxb6603497aPickRead
import Derived.Deep.OwnRows
import Derived.Lib.SliceRun
namespace Go.Proofs.Qxb6603497a.pick
open Go.ChangeShapes Go.WideShapes Go.ChangeAt Go.RowKit

theorem info72 : (Try.prog.info? 72).map (fun i => (i.zero, i.size, i.bytes)) = some (some (.agg #[.int .i64 0, .string ⟨#[]⟩]), 2, 24) := by kernel_rfl
theorem info59 : (Try.prog.info? 59).map (fun i => (i.zero, i.size, i.bytes)) = some (some (.agg #[.slice none 0 0, .int .i64 0]), 2, 32) := by kernel_rfl

theorem rowIs_madeAny (w : World) (z : Array Value) (n : Nat) (t : TypeId) : (w.alloc (.cells (madeCells z n) t)).rowIs w.heap.size t n (fun j => z[j % z.size]!) :=
  ⟨_, Deep.blk_alloc_new _ _, size_madeCells _ _, fun i hi => by simp [madeCells, hi]⟩

theorem ObjsAt.set {w : World} {a : Option Addr} {os : List Ob} (h : ObjsAt w a os) {p : Addr} (hne : ∀ ad, a = some ad → ad.block ≠ p.block) (v : Value) : ObjsAt (w.setCell p v) a os := by
  intro j hj
  obtain ⟨b, off, h1, h2, h3⟩ := h j hj
  have hb := hne _ h1
  refine ⟨b, off, h1, ?_, ?_⟩
  · rw [World.cell?_setCell_other _ _ _ _ (fun e => hb (by rw [e]))]; exact h2
  · rw [World.cell?_setCell_other _ _ _ _ (fun e => hb (by rw [e]))]; exact h3

/-- The inner loop: the first q objects are copied into the new block M. -/
def CloneIn (w1 : World) (M m : Nat) (os : List Ob) (q : Nat) (w2 : World) : Prop :=
  Below M w1 w2 ∧ ∃ G, w2.rowIs M 72 (m * 2) G ∧ ∀ j (h : j < os.length), j < q → G (j * 2) = .int .i64 os[j].1 ∧ G (j * 2 + 1) = .string os[j].2

theorem in_start (w : World) (m : Nat) (os : List Ob) : CloneIn w w.heap.size m os 0 (w.alloc (.cells (madeCells #[.int .i64 0, .string ⟨#[]⟩] (m * 2)) 72)) :=
  ⟨(Below.refl _ _).alloc (Nat.le_refl _) _, _, rowIs_madeAny _ _ _ _, fun _ _ hj => absurd hj (Nat.not_lt_zero _)⟩

theorem in_step {w1 w2 : World} {M m q : Nat} {os : List Ob} (h : CloneIn w1 M m os q w2) (hq : q < os.length) :
    CloneIn w1 M m os (q + 1) ((w2.setCell ⟨M, q * 2, none⟩ (.int .i64 os[q].1)).setCell ⟨M, q * 2 + 1, none⟩ (.string os[q].2)) := by
  obtain ⟨hb, G, hr, hg⟩ := h
  refine ⟨(hb.setCell (Nat.le_refl _) _).setCell (Nat.le_refl _) _, _, (hr.set _ _).set _ _, fun j hj hlt => ?_⟩
  by_cases e : j = q
  · subst e
    simp
  · have := hg j hj (by omega)
    refine ⟨?_, ?_⟩
    · rw [if_neg (by omega), if_neg (by omega)]; exact this.1
    · rw [if_neg (by omega), if_neg (by omega)]; exact this.2

theorem in_done {w1 w2 : World} {M m q : Nat} {os : List Ob} (h : CloneIn w1 M m os q w2) (hm : os.length = m) (hq : m ≤ q) : ObjsAt w2 (some ⟨M, 0, none⟩) os := by
  obtain ⟨hb, G, hr, hg⟩ := h
  intro j hj
  have := hg j hj (by omega)
  refine ⟨M, 0, rfl, ?_, ?_⟩
  · rw [Nat.zero_add, hr.cell (by omega), this.1]
  · rw [Nat.zero_add, hr.cell (by omega), this.2]

theorem make72 (m : Nat) (h : m ≤ 1048576) (w : World) : (Instr.makeSlice 57 (.int .i64 (m : Int)) (.int .i64 (m : Int))).run Try.prog w =
    .ok (.slice (some ⟨w.heap.size, 0, none⟩) m m) (w.alloc (.cells (madeCells #[.int .i64 0, .string ⟨#[]⟩] (m * 2)) 72)) := by
  obtain ⟨i, hi, hz, hs, hb⟩ := info_parts info72
  have hr := run_make (P := Try.prog) w 57 72 i _ Try.underlying57 hi hz .i64 .i64 m m (by omega) (by omega) (by rw [hb]; omega) (by omega)
  rw [hs] at hr
  simpa [Value.cells] using hr

theorem make59 (m : Nat) (h : m ≤ 1048576) (w : World) : (Instr.makeSlice 27 (.int .i64 (m : Int)) (.int .i64 (m : Int))).run Try.prog w =
    .ok (.slice (some ⟨w.heap.size, 0, none⟩) m m) (w.alloc (.cells (madeCells #[.slice none 0 0, .int .i64 0] (m * 2)) 59)) := by
  obtain ⟨i, hi, hz, hs, hb⟩ := info_parts info59
  have hr := run_make (P := Try.prog) w 27 59 i _ Try.underlying27 hi hz .i64 .i64 m m (by omega) (by omega) (by rw [hb]; omega) (by omega)
  rw [hs] at hr
  simpa [Value.cells] using hr

/-- The outer loop: the first k candidates are copied into the new block O. -/
def CloneOut (w : World) (O n : Nat) (cs : List Cd) (k : Nat) (wr : World) : Prop :=
  Below O w wr ∧ ∃ F, wr.rowIs O 59 (n * 2) F ∧ ∀ j (h : j < cs.length), j < k → ∃ oa oc, F (j * 2) = .slice oa cs[j].1.length oc ∧ F (j * 2 + 1) = .int .i64 cs[j].2 ∧ ObjsAt wr oa cs[j].1 ∧ ∀ ad, oa = some ad → O < ad.block

theorem out_start (w : World) (n : Nat) (cs : List Cd) : CloneOut w w.heap.size n cs 0 (w.alloc (.cells (madeCells #[.slice none 0 0, .int .i64 0] (n * 2)) 59)) :=
  ⟨(Below.refl _ _).alloc (Nat.le_refl _) _, _, rowIs_madeAny _ _ _ _, fun _ _ hj => absurd hj (Nat.not_lt_zero _)⟩

/-- Old memory, the block O among it, is as it was: the copies stand. -/
theorem CloneOut.keep {w wr w2 : World} {O n k : Nat} {cs : List Cd} (h : CloneOut w O n cs k wr) (hb : Below wr.heap.size wr w2) : CloneOut w O n cs k w2 := by
  obtain ⟨h1, F, hr, hf⟩ := h
  refine ⟨h1.trans (hb.mono (Nat.le_of_lt hr.lt)), F, hr.of_block (hb.block O hr.lt), fun j hj hlt => ?_⟩
  obtain ⟨oa, oc, e1, e2, e3, e4⟩ := hf j hj hlt
  exact ⟨oa, oc, e1, e2, e3.keep hb, e4⟩

theorem out_step {w w2 : World} {O n k : Nat} {cs : List Cd} (h : CloneOut w O n cs k w2) (hk : k < cs.length) (oa : Option Addr) (oc : Nat)
    (hob : ObjsAt w2 oa cs[k].1) (hoa : ∀ ad, oa = some ad → O < ad.block) :
    CloneOut w O n cs (k + 1) ((w2.setCell ⟨O, k * 2, none⟩ (.slice oa cs[k].1.length oc)).setCell ⟨O, k * 2 + 1, none⟩ (.int .i64 cs[k].2)) := by
  obtain ⟨hb, F, hr, hf⟩ := h
  refine ⟨(hb.setCell (Nat.le_refl _) _).setCell (Nat.le_refl _) _, _, (hr.set _ _).set _ _, fun j hj hlt => ?_⟩
  by_cases e : j = k
  · subst e
    refine ⟨oa, oc, by simp, by simp, (hob.set ?_ _).set ?_ _, hoa⟩
    · intro ad e; have := hoa ad e; simp; omega
    · intro ad e; have := hoa ad e; simp; omega
  · obtain ⟨oa', oc', e1, e2, e3, e4⟩ := hf j hj (by omega)
    refine ⟨oa', oc', ?_, ?_, (e3.set ?_ _).set ?_ _, e4⟩
    · rw [if_neg (by omega), if_neg (by omega)]; exact e1
    · rw [if_neg (by omega), if_neg (by omega)]; exact e2
    · intro ad e; have := e4 ad e; simp; omega
    · intro ad e; have := e4 ad e; simp; omega

theorem out_done {w w2 : World} {O n k : Nat} {cs : List Cd} (h : CloneOut w O n cs k w2) (hn : cs.length = n) (hk : n ≤ k) : CandsAt w2 (some ⟨O, 0, none⟩) cs := by
  obtain ⟨hb, F, hr, hf⟩ := h
  intro j hj
  obtain ⟨oa, oc, e1, e2, e3, e4⟩ := hf j hj (by omega)
  refine ⟨O, 0, oa, oc, rfl, ?_, ?_, e3⟩
  · rw [Nat.zero_add, hr.cell (by omega), e1]
  · rw [Nat.zero_add, hr.cell (by omega), e2]

theorem objs_none {w : World} {os : List Ob} (h : ObjsAt w none os) : os = [] := by
  cases os with
  | nil => rfl
  | cons o os => obtain ⟨_, _, h1, _⟩ := h 0 (by simp); cases h1

theorem q27 (w : World) (a : Option Addr) (n c n' c' : Nat) : (binOp .eql 27 (.slice a n c) (.slice none n' c')).run Try.prog w = .ok (.bool a.isNone) w := Lib.run_eql_slice_nil w _ _ a n c n' c' Try.underlying27
theorem q57 (w : World) (a : Option Addr) (n c n' c' : Nat) : (binOp .neq 57 (.slice a n c) (.slice none n' c')).run Try.prog w = .ok (.bool (!a.isNone)) w := run_neq_slice_nil_any w _ _ a n c n' c' Try.underlying57

def ClonePost (cs : List Cd) (w : World) (e : Ending) (w' : World) : Prop :=
  ∃ a cap, e = .returned (.slice a cs.length cap) ∧ CandsAt w' a cs ∧ Below w.heap.size w w'

set_option maxHeartbeats 1000000 in
theorem clone_some (cs : List Cd) (hw : wgt cs ≤ 1048576) (cap : Nat) (ad : Addr) (w : World) (hc : CandsAt w (some ad) cs) :
    Calls Try.prog 13 #[.slice (some ad) cs.length cap] w fun e w' => ClonePost cs w e w' := by
  have hl := wgt_len cs
  have hwm : ∀ c ∈ cs, 32 + 24 * c.1.length + vbs c.1 ≤ 1048576 := fun c hc => Nat.le_trans (wgt_mem hc) hw
  have HW : Hid (∀ c ∈ cs, 32 + 24 * c.1.length + vbs c.1 ≤ 1048576) := hwm
  have Hc : Hid (CandsAt w (some ad) cs) := hc
  clear hc hwm
  generalize hn' : cs.length = n at *
  have HN : Hid (cs.length = n) := hn'
  clear hn'
  have hmk := make59 n (by omega)
  have q1 := q27
  have HS : Hid (CloneOut w w.heap.size n cs 0 (w.alloc (.cells (madeCells #[.slice none 0 0, .int .i64 0] (n * 2)) 59))) := out_start w n cs
  go_enter Try.func13, Try.ntmps13
  go_wp2
  clear hmk q1
  generalize hO : w.heap.size = O at *
  have HO : Hid (w.heap.size = O) := hO
  clear hO
  go_loopw [4] (fun i wr => ∃ k : Nat, k ≤ n ∧ i = .int .i64 k ∧ CloneOut w O n cs k wr) (fun i _ => n - (intOf i).toNat)
  case atStart => exact ⟨0, Nat.zero_le _, rfl, HS.out⟩
  case round =>
    clear HS
    obtain ⟨k, hk, rfl, hrl⟩ := hrel
    have HR : Hid (CloneOut w O n cs k wr) := hrl
    clear hrl
    by_cases hlt : k < n
    · have hk' : k < cs.length := by have := HN.out; omega
      obtain ⟨b, off, oa, oc, had, hcell0, hcell1, hob⟩ := Hc.out k hk'
      obtain ⟨hb, F, hr, _⟩ := HR.out
      obtain rfl : ad = ⟨b, off, none⟩ := by simpa using had
      have hbl : b < O := by have := cell_lt hcell0; have := HO.out; omega
      have hc0 := (hb.cell (p := ⟨b, off + k * 2, none⟩) hbl).trans hcell0
      have hc1 := (hb.cell (p := ⟨b, off + k * 2 + 1, none⟩) hbl).trans hcell1
      have ho0 := hr.cell (i := k * 2) (by omega)
      have ho1 := hr.cell (i := k * 2 + 1) (by omega)
      have hf0 := hr.frozen (k * 2)
      have hf1 := hr.frozen (k * 2 + 1)
      have Hob : Hid (ObjsAt w oa cs[k].1) := hob
      have hlen := HW.out cs[k] (List.getElem_mem hk')
      clear hcell0 hcell1 hob had hb hr
      rcases oa with _ | oad
      · have HNIL : Hid (cs[k].1 = []) := objs_none Hob.out
        have q2 := q57
        go_wp2
        go_roundw
        case rel =>
          refine ⟨k + 1, by omega, by go_num, ?_⟩
          have := out_step HR.out hk' none 0 (by rw [HNIL.out]; intro j hj; simp at hj) (fun ad h => by cases h)
          rw [HNIL.out] at this
          exact this
        case measure => simp [intOf]; omega
      · generalize hos : cs[k].1 = os at *
        have HOS : Hid (cs[k].1 = os) := hos
        clear hos
        generalize hm : os.length = m at *
        have HM : Hid (os.length = m) := hm
        clear hm
        have hmk := make72 m (by omega)
        have HI : Hid (CloneIn wr wr.heap.size m os 0 (wr.alloc (.cells (madeCells #[.int .i64 0, .string ⟨#[]⟩] (m * 2)) 72))) := in_start wr m os
        have q2 := q57
        go_wp2
        clear hmk q2
        generalize hM : wr.heap.size = M at *
        have HM2 : Hid (wr.heap.size = M) := hM
        clear hM
        obtain ⟨wo, rfl⟩ : ∃ x, x = wr := ⟨wr, rfl⟩
        go_loopw [7] (fun i w2 => ∃ q : Nat, q ≤ m ∧ i = .int .i64 q ∧ CloneIn wo M m os q w2) (fun i _ => m - (intOf i).toNat)
        case atStart => exact ⟨0, Nat.zero_le _, rfl, HI.out⟩
        case round =>
          clear HI
          obtain ⟨q, hq, rfl, hrl⟩ := hrel
          have HQ : Hid (CloneIn wo M m os q wr) := hrl
          clear hrl
          have hOM : O < M := by obtain ⟨_, F, hr, _⟩ := HR.out; have := hr.lt; have := HM2.out; omega
          obtain ⟨hb2, G, hr2, _⟩ := HQ.out
          by_cases hlt2 : q < m
          · have hq' : q < os.length := by have := HM.out; omega
            obtain ⟨b2, off2, hoad, hs0, hs1⟩ := Hob.out q hq'
            obtain rfl : oad = ⟨b2, off2, none⟩ := by simpa using hoad
            have hbl2 : b2 < O := by have := cell_lt hs0; have := HO.out; omega
            have hd0 := (hb2.cell (p := ⟨b2, off2 + q * 2, none⟩) (by simp; omega)).trans ((HR.out.1.cell (p := ⟨b2, off2 + q * 2, none⟩) hbl2).trans hs0)
            have hd1 := (hb2.cell (p := ⟨b2, off2 + q * 2 + 1, none⟩) (by simp; omega)).trans ((HR.out.1.cell (p := ⟨b2, off2 + q * 2 + 1, none⟩) hbl2).trans hs1)
            have ho0' := hr2.cell (i := q * 2) (by omega)
            have ho1' := hr2.cell (i := q * 2 + 1) (by omega)
            have hf0' := hr2.frozen (q * 2)
            have hf1' := hr2.frozen (q * 2 + 1)
            clear hs0 hs1 hoad hb2 hr2 hc0 hc1 ho0 ho1 hf0 hf1
            go_wp2
            go_roundw
            case rel => exact ⟨q + 1, by omega, by go_num, in_step HQ.out hq'⟩
            case measure => simp [intOf]; omega
          · have ho0' := (hb2.cell (p := ⟨O, k * 2, none⟩) hOM).trans ho0
            have ho1' := (hb2.cell (p := ⟨O, k * 2 + 1, none⟩) hOM).trans ho1
            have hf0' := (hb2.frozen (p := ⟨O, k * 2, none⟩) hOM).trans hf0
            have hf1' := (hb2.frozen (p := ⟨O, k * 2 + 1, none⟩) hOM).trans hf1
            have hc0' := (hb2.cell (p := ⟨b, off + k * 2, none⟩) (by simp; omega)).trans hc0
            have hc1' := (hb2.cell (p := ⟨b, off + k * 2 + 1, none⟩) (by simp; omega)).trans hc1
            clear hb2 hr2 hc0 hc1 ho0 ho1 hf0 hf1
            go_wp2
            go_roundw
            case rel =>
              refine ⟨k + 1, by omega, by go_num, ?_⟩
              have hbb := HQ.out.1
              have e0 := HM2.out
              have e1 := HOS.out
              have e2 := HM.out
              rw [← e0] at hbb
              have := out_step (HR.out.keep hbb) hk' (some ⟨M, 0, none⟩) m (by rw [e1]; exact in_done HQ.out e2 (by omega)) (fun ad h => by cases h; exact hOM)
              rw [e1, e2] at this
              exact this
            case measure => simp [intOf]; omega
    · go_wp2
      go_ret
      exact ⟨_, _, by rw [HN.out]; rfl, out_done HR.out HN.out (by omega), by rw [HO.out]; exact HR.out.1⟩

theorem cands_none {w : World} {cs : List Cd} (h : CandsAt w none cs) : cs = [] := by
  cases cs with
  | nil => rfl
  | cons o os => obtain ⟨_, _, _, _, h1, _⟩ := h 0 (by simp); cases h1

/-- pickClone. -/
theorem clone_any (cs : List Cd) (hw : wgt cs ≤ 1048576) (cap : Nat) (a : Option Addr) (w : World) (hc : CandsAt w a cs) :
    Calls Try.prog 13 #[.slice a cs.length cap] w fun e w' => ClonePost cs w e w' := by
  rcases a with _ | ad
  · have hcs := cands_none hc
    subst hcs
    have HC : Hid (CandsAt w none []) := hc
    clear hc
    have q1 := q27
    go_enter Try.func13, Try.ntmps13
    go_wp2
    go_ret
    exact ⟨none, 0, rfl, HC.out, Below.refl _ _⟩
  · exact clone_some cs hw cap ad w hc
end Go.Proofs.Qxb6603497a.pick

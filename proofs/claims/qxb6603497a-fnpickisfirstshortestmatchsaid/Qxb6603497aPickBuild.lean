import Derived.Test.Qxb6603497aPickClone
import Derived.BigRegion
import Derived.Deep.RegionWith
import Derived.BigQuiet
namespace Go.Proofs.Qxb6603497a.pick
open Go.ChangeShapes Go.WideShapes Go.ChangeAt Go.RowKit

/-- The zero assertion's cells. -/
def zAss : Array Value := #[.string ⟨#[]⟩, .string ⟨#[]⟩, .string ⟨#[]⟩, .slice none 0 0, .int .u64 0, .int .i64 0, .pointer none, .int .u64 0, .int .i64 0, .pointer none, .string ⟨#[]⟩, .int .i64 0]
def zOb : Array Value := #[.int .i64 0, .string ⟨#[]⟩, .pointer none]
def zAn : Array Value := #[.pointer none, .int .i64 0]

theorem info56 : (Try.prog.info? 56).map (fun i => (i.zero, i.size, i.bytes)) = some (some (.agg zAss), 12, 144) := by kernel_rfl
theorem info75 : (Try.prog.info? 75).map (fun i => (i.zero, i.size, i.bytes)) = some (some (.agg zOb), 3, 32) := by kernel_rfl
theorem info38 : (Try.prog.info? 38).map (fun i => (i.zero, i.size, i.bytes)) = some (some (.agg zAn), 2, 16) := by kernel_rfl

theorem make56 (m : Nat) (h : m ≤ 1048576) (w : World) : (Instr.makeSlice 32 (.int .i64 (m : Int)) (.int .i64 (m : Int))).run Try.prog w =
    .ok (.slice (some ⟨w.heap.size, 0, none⟩) m m) (w.alloc (.cells (madeCells zAss (m * 12)) 56)) := by
  obtain ⟨i, hi, hz, hs, hb⟩ := info_parts info56
  have hr := run_make (P := Try.prog) w 32 56 i _ Try.underlying32 hi hz .i64 .i64 m m (by omega) (by omega) (by rw [hb]; omega) (by omega)
  rw [hs] at hr
  simpa [Value.cells] using hr
theorem make38 (m : Nat) (h : m ≤ 1048576) (w : World) : (Instr.makeSlice 33 (.int .i64 (m : Int)) (.int .i64 (m : Int))).run Try.prog w =
    .ok (.slice (some ⟨w.heap.size, 0, none⟩) m m) (w.alloc (.cells (madeCells zAn (m * 2)) 38)) := by
  obtain ⟨i, hi, hz, hs, hb⟩ := info_parts info38
  have hr := run_make (P := Try.prog) w 33 38 i _ Try.underlying33 hi hz .i64 .i64 m m (by omega) (by omega) (by rw [hb]; omega) (by omega)
  rw [hs] at hr
  simpa [Value.cells] using hr
theorem make75 (m : Nat) (h : m ≤ 1048576) (w : World) : (Instr.makeSlice 45 (.int .i64 (m : Int)) (.int .i64 (m : Int))).run Try.prog w =
    .ok (.slice (some ⟨w.heap.size, 0, none⟩) m m) (w.alloc (.cells (madeCells zOb (m * 3)) 75)) := by
  obtain ⟨i, hi, hz, hs, hb⟩ := info_parts info75
  have hr := run_make (P := Try.prog) w 45 75 i _ Try.underlying45 hi hz .i64 .i64 m m (by omega) (by omega) (by rw [hb]; omega) (by omega)
  rw [hs] at hr
  simpa [Value.cells] using hr

theorem ObsAt.set {w : World} {a : Option Addr} {os : List Ob} (h : ObsAt w a os) {p : Addr} (hne : ∀ ad, a = some ad → ad.block ≠ p.block) (v : Value) : ObsAt (w.setCell p v) a os := by
  intro j hj
  obtain ⟨b, off, h1, h2, h3, h4⟩ := h j hj
  have hb := hne _ h1
  refine ⟨b, off, h1, ?_, ?_, ?_⟩
  · rw [World.cell?_setCell_other _ _ _ _ (fun e => hb (by rw [e]))]; exact h2
  · rw [World.cell?_setCell_other _ _ _ _ (fun e => hb (by rw [e]))]; exact h3
  · rw [World.cell?_setCell_other _ _ _ _ (fun e => hb (by rw [e]))]; exact h4

/-- The inner loop: the first q objects lie in the new block M. -/
def BuildIn (w1 : World) (M m : Nat) (os : List Ob) (q : Nat) (w2 : World) : Prop :=
  Below M w1 w2 ∧ ∃ G, w2.rowIs M 75 (m * 3) G ∧ ∀ j (h : j < os.length), j < q → G (j * 3) = .int .i64 os[j].1 ∧ G (j * 3 + 1) = .string os[j].2 ∧ G (j * 3 + 2) = .pointer none

theorem bin_start (w : World) (m : Nat) (os : List Ob) : BuildIn w w.heap.size m os 0 (w.alloc (.cells (madeCells zOb (m * 3)) 75)) :=
  ⟨(Below.refl _ _).alloc (Nat.le_refl _) _, _, rowIs_madeAny _ _ _ _, fun _ _ hj => absurd hj (Nat.not_lt_zero _)⟩

theorem bin_step {w1 w2 : World} {M m q : Nat} {os : List Ob} (h : BuildIn w1 M m os q w2) (hq : q < os.length) :
    BuildIn w1 M m os (q + 1) (((w2.setCell ⟨M, q * 3, none⟩ (.int .i64 os[q].1)).setCell ⟨M, q * 3 + 1, none⟩ (.string os[q].2)).setCell ⟨M, q * 3 + 2, none⟩ (.pointer none)) := by
  obtain ⟨hb, G, hr, hg⟩ := h
  refine ⟨((hb.setCell (Nat.le_refl _) _).setCell (Nat.le_refl _) _).setCell (Nat.le_refl _) _, _, ((hr.set _ _).set _ _).set _ _, fun j hj hlt => ?_⟩
  by_cases e : j = q
  · subst e
    simp
  · have := hg j hj (by omega)
    refine ⟨?_, ?_, ?_⟩
    · rw [if_neg (by omega), if_neg (by omega), if_neg (by omega)]; exact this.1
    · rw [if_neg (by omega), if_neg (by omega), if_neg (by omega)]; exact this.2.1
    · rw [if_neg (by omega), if_neg (by omega), if_neg (by omega)]; exact this.2.2

theorem BuildIn.drew {w1 w2 : World} {M m q : Nat} {os : List Ob} (h : BuildIn w1 M m os q w2) : BuildIn w1 M m os q w2.drew := by
  obtain ⟨hb, G, hr, hg⟩ := h
  exact ⟨hb.drew, G, hr.drew, hg⟩

theorem bin_done {w1 w2 : World} {M m q : Nat} {os : List Ob} (h : BuildIn w1 M m os q w2) (hm : os.length = m) (hq : m ≤ q) : ObsAt w2 (some ⟨M, 0, none⟩) os := by
  obtain ⟨hb, G, hr, hg⟩ := h
  intro j hj
  have := hg j hj (by omega)
  refine ⟨M, 0, rfl, ?_, ?_, ?_⟩
  · rw [Nat.zero_add, hr.cell (by omega), this.1]
  · rw [Nat.zero_add, hr.cell (by omega), this.2.1]
  · rw [Nat.zero_add, hr.cell (by omega), this.2.2]

/-- The first loop: the first k assertions' objects are laid. Both new rows stand: A (assertions), A + 1 (answerings). -/
def BuildOut (w : World) (A n : Nat) (cs : List Cd) (k : Nat) (wr : World) : Prop :=
  Below A w wr ∧ (∃ F2, wr.rowIs (A + 1) 38 (n * 2) F2) ∧ ∃ F, wr.rowIs A 56 (n * 12) F ∧
    ∀ j (h : j < cs.length), j < k → ∃ oa oc, F (j * 12 + 3) = .slice oa cs[j].1.length oc ∧ ObsAt wr oa cs[j].1 ∧ ∀ ad, oa = some ad → A + 1 < ad.block

theorem bout_start (w : World) (n : Nat) (cs : List Cd) : BuildOut w w.heap.size n cs 0 ((w.alloc (.cells (madeCells zAss (n * 12)) 56)).alloc (.cells (madeCells zAn (n * 2)) 38)) := by
  have h1 := rowIs_madeAny w zAss (n * 12) 56
  have h2 := rowIs_madeAny (w.alloc (.cells (madeCells zAss (n * 12)) 56)) zAn (n * 2) 38
  simp only [World.size_alloc] at h2
  exact ⟨((Below.refl _ _).alloc (Nat.le_refl _) _).alloc (by simp) _, ⟨_, h2⟩, _, h1.alloc _, fun _ _ hj => absurd hj (Nat.not_lt_zero _)⟩

theorem BuildOut.keep {w wr w2 : World} {A n k : Nat} {cs : List Cd} (h : BuildOut w A n cs k wr) (hb : Below wr.heap.size wr w2) : BuildOut w A n cs k w2 := by
  obtain ⟨h1, ⟨F2, hr2⟩, F, hr, hf⟩ := h
  refine ⟨h1.trans (hb.mono (Nat.le_of_lt hr.lt)), ⟨F2, hr2.of_block (hb.block _ hr2.lt)⟩, F, hr.of_block (hb.block A hr.lt), fun j hj hlt => ?_⟩
  obtain ⟨oa, oc, e1, e3, e4⟩ := hf j hj hlt
  exact ⟨oa, oc, e1, e3.keep hb, e4⟩

theorem bout_step {w w2 : World} {A n k : Nat} {cs : List Cd} (h : BuildOut w A n cs k w2) (hk : k < cs.length) (oa : Option Addr) (oc : Nat)
    (hob : ObsAt w2 oa cs[k].1) (hoa : ∀ ad, oa = some ad → A + 1 < ad.block) :
    BuildOut w A n cs (k + 1) (w2.setCell ⟨A, k * 12 + 3, none⟩ (.slice oa cs[k].1.length oc)) := by
  obtain ⟨hb, ⟨F2, hr2⟩, F, hr, hf⟩ := h
  refine ⟨hb.setCell (Nat.le_refl _) _, ⟨F2, hr2.setOther (by simp) _⟩, _, hr.set _ _, fun j hj hlt => ?_⟩
  by_cases e : j = k
  · subst e
    refine ⟨oa, oc, by simp, hob.set ?_ _, hoa⟩
    intro ad e; have := hoa ad e; simp; omega
  · obtain ⟨oa', oc', e1, e3, e4⟩ := hf j hj (by omega)
    refine ⟨oa', oc', ?_, e3.set ?_ _, e4⟩
    · rw [if_neg (by omega)]; exact e1
    · intro ad e; have := e4 ad e; simp; omega

/-- The second loop: all assertions stand; the first k answerings are laid. -/
def BuildTwo (w : World) (A n : Nat) (cs : List Cd) (k : Nat) (wr : World) : Prop :=
  Below A w wr ∧ (∀ j (h : j < cs.length), ∃ oa oc, wr.cell? ⟨A, j * 12 + 3, none⟩ = some (.slice oa cs[j].1.length oc) ∧ ObsAt wr oa cs[j].1 ∧ ∀ ad, oa = some ad → A + 1 < ad.block) ∧
  ∃ F, wr.rowIs (A + 1) 38 (n * 2) F ∧ ∀ j (h : j < cs.length), j < k → F (j * 2) = .pointer (some ⟨A, j * 12, none⟩) ∧ F (j * 2 + 1) = .int .i64 cs[j].2

theorem two_start {w wr : World} {A n k : Nat} {cs : List Cd} (h : BuildOut w A n cs k wr) (hn : cs.length = n) (hk : n ≤ k) : BuildTwo w A n cs 0 wr := by
  obtain ⟨hb, ⟨F2, hr2⟩, F, hr, hf⟩ := h
  refine ⟨hb, fun j hj => ?_, F2, hr2, fun _ _ hj => absurd hj (Nat.not_lt_zero _)⟩
  obtain ⟨oa, oc, e1, e3, e4⟩ := hf j hj (by omega)
  exact ⟨oa, oc, by rw [hr.cell (by omega), e1], e3, e4⟩

theorem BuildTwo.keep {w wr w2 : World} {A n k : Nat} {cs : List Cd} (h : BuildTwo w A n cs k wr) (hb : Below wr.heap.size wr w2) : BuildTwo w A n cs k w2 := by
  obtain ⟨h1, hall, F, hr, hf⟩ := h
  refine ⟨h1.trans (hb.mono (by have := hr.lt; omega)), fun j hj => ?_, F, hr.of_block (hb.block _ hr.lt), hf⟩
  obtain ⟨oa, oc, e1, e3, e4⟩ := hall j hj
  exact ⟨oa, oc, keep_cell hb e1, e3.keep hb, e4⟩

theorem two_step {w w2 : World} {A n k : Nat} {cs : List Cd} (h : BuildTwo w A n cs k w2) (hk : k < cs.length) :
    BuildTwo w A n cs (k + 1) ((w2.setCell ⟨A + 1, k * 2, none⟩ (.pointer (some ⟨A, k * 12, none⟩))).setCell ⟨A + 1, k * 2 + 1, none⟩ (.int .i64 cs[k].2)) := by
  obtain ⟨hb, hall, F, hr, hf⟩ := h
  refine ⟨(hb.setCell (by simp) _).setCell (by simp) _, fun j hj => ?_, _, (hr.set _ _).set _ _, fun j hj hlt => ?_⟩
  · obtain ⟨oa, oc, e1, e3, e4⟩ := hall j hj
    refine ⟨oa, oc, ?_, (e3.set ?_ _).set ?_ _, e4⟩
    · rw [World.cell?_setCell_other _ _ _ _ (by simp), World.cell?_setCell_other _ _ _ _ (by simp)]; exact e1
    · intro ad e; have := e4 ad e; simp; omega
    · intro ad e; have := e4 ad e; simp; omega
  · by_cases e : j = k
    · subst e
      simp
    · have := hf j hj (by omega)
      refine ⟨?_, ?_⟩
      · rw [if_neg (by omega), if_neg (by omega)]; exact this.1
      · rw [if_neg (by omega), if_neg (by omega)]; exact this.2

/-- The answerings that pickBuild lays over candidates cs, the assertions in block A from index i on. -/
def ansOf (A : Nat) : Nat → List Cd → List An
  | _, [] => []
  | i, c :: cs => ((A, i * 12), c.1, c.2) :: ansOf A (i + 1) cs
theorem ansOf_length (A : Nat) : ∀ (cs : List Cd) (i : Nat), (ansOf A i cs).length = cs.length
  | [], _ => rfl
  | _ :: cs, i => by simp [ansOf, ansOf_length A cs (i + 1)]
theorem ansOf_get (A : Nat) : ∀ (cs : List Cd) (i j : Nat) (h : j < cs.length), (ansOf A i cs)[j]'(by rw [ansOf_length]; exact h) = ((A, (i + j) * 12), cs[j].1, cs[j].2)
  | c :: cs, i, 0, _ => by simp [ansOf]
  | c :: cs, i, j + 1, h => by
    have := ansOf_get A cs (i + 1) j (by simpa using h)
    simp only [ansOf, List.getElem_cons_succ]
    rw [this, show i + 1 + j = i + (j + 1) from by omega]

theorem two_done {w wr : World} {A n k : Nat} {cs : List Cd} (h : BuildTwo w A n cs k wr) (hn : cs.length = n) (hk : n ≤ k) : AnsAt wr (some ⟨A + 1, 0, none⟩) (ansOf A 0 cs) := by
  obtain ⟨hb, hall, F, hr, hf⟩ := h
  intro j hj
  rw [ansOf_length] at hj
  rw [ansOf_get A cs 0 j hj]
  obtain ⟨oa, oc, e1, e3, e4⟩ := hall j hj
  have := hf j hj (by omega)
  refine ⟨A + 1, 0, rfl, ?_, ?_, oa, oc, ?_, e3⟩
  · rw [Nat.zero_add, hr.cell (by omega), this.1]; simp
  · rw [Nat.zero_add, hr.cell (by omega), this.2]
  · simpa using e1

/-- ZZnewAnswering. -/
theorem newAns_any (p : Option Addr) (x : Int) (w : World) :
    Calls Try.prog 24 #[.pointer p, .int .i64 x] w fun e w' => e = .returned (.agg #[.pointer p, .int .i64 x]) ∧ Below w.heap.size w w' := by
  go_enter Try.func24, Try.ntmps24
  go_wp2
  refine bodyPost_ret (v := .agg #[.pointer p, .int .i64 x]) (by simp [results, Try.results24, go_sem]) rfl ⟨rfl, ?_⟩
  exact (Below.refl _ _).alloc (Nat.le_refl _) _

def BuildPost (cs : List Cd) (w : World) (e : Ending) (w' : World) : Prop :=
  ∃ A, e = .returned (.tuple #[.slice (some ⟨A, 0, none⟩) cs.length cs.length, .slice (some ⟨A + 1, 0, none⟩) cs.length cs.length]) ∧ AnsAt w' (some ⟨A + 1, 0, none⟩) (ansOf A 0 cs) ∧ Below w.heap.size w w'

set_option maxHeartbeats 1000000 in
theorem build_any (cs : List Cd) (hw : wgt cs ≤ 1048576) (cap : Nat) (a : Option Addr) (w : World) (hc : CandsAt w a cs) :
    Calls Try.prog 14 #[.slice a cs.length cap] w fun e w' => BuildPost cs w e w' := by
  have hl := wgt_len cs
  have hwm : ∀ c ∈ cs, 32 + 24 * c.1.length + vbs c.1 ≤ 1048576 := fun c hc => Nat.le_trans (wgt_mem hc) hw
  have HW : Hid (∀ c ∈ cs, 32 + 24 * c.1.length + vbs c.1 ≤ 1048576) := hwm
  have Hc : Hid (CandsAt w a cs) := hc
  clear hc hwm
  generalize hn' : cs.length = n at *
  have HN : Hid (cs.length = n) := hn'
  clear hn'
  have hmk := make56 n (by omega)
  have hmk2 := make38 n (by omega)
  have HS : Hid (BuildOut w w.heap.size n cs 0 ((w.alloc (.cells (madeCells zAss (n * 12)) 56)).alloc (.cells (madeCells zAn (n * 2)) 38))) := bout_start w n cs
  go_enter Try.func14, Try.ntmps14
  go_wp2
  clear hmk hmk2
  generalize hO : w.heap.size = A at *
  have HO : Hid (w.heap.size = A) := hO
  clear hO
  go_loopw [6] (fun i wr => ∃ k : Nat, k ≤ n ∧ i = .int .i64 k ∧ BuildOut w A n cs k wr) (fun i _ => n - (intOf i).toNat)
  case atStart => exact ⟨0, Nat.zero_le _, rfl, HS.out⟩
  case round =>
    clear HS
    obtain ⟨k, hk, rfl, hrl⟩ := hrel
    have HR : Hid (BuildOut w A n cs k wr) := hrl
    clear hrl
    by_cases hlt : k < n
    · have hk' : k < cs.length := by have := HN.out; omega
      obtain ⟨b, off, oa, oc, rfl, hcell0, hcell1, hob⟩ := Hc.out k hk'
      obtain ⟨hb, ⟨F2, hr2⟩, F, hr, _⟩ := HR.out
      have hbl : b < A := by have := cell_lt hcell0; have := HO.out; omega
      have hc0 := (hb.cell (p := ⟨b, off + k * 2, none⟩) hbl).trans hcell0
      have ho0 := hr.cell (i := k * 12 + 3) (by omega)
      have hf0 := hr.frozen (k * 12 + 3)
      have Hob : Hid (ObjsAt w oa cs[k].1) := hob
      have hlen := HW.out cs[k] (List.getElem_mem hk')
      clear hcell0 hcell1 hob hb hr hr2 F2
      generalize hos : cs[k].1 = os at *
      have HOS : Hid (cs[k].1 = os) := hos
      clear hos
      generalize hm : os.length = m at *
      have HM : Hid (os.length = m) := hm
      clear hm
      have hmk := make75 m (by omega)
      have HI : Hid (BuildIn wr wr.heap.size m os 0 (wr.alloc (.cells (madeCells zOb (m * 3)) 75))) := bin_start wr m os
      go_wp2
      clear hmk
      generalize hM : wr.heap.size = M at *
      have HM2 : Hid (wr.heap.size = M) := hM
      clear hM
      obtain ⟨wo, rfl⟩ : ∃ x, x = wr := ⟨wr, rfl⟩
      go_loopw [9] (fun i w2 => ∃ q : Nat, q ≤ m ∧ i = .int .i64 q ∧ BuildIn wo M m os q w2) (fun i _ => m - (intOf i).toNat)
      case atStart => exact ⟨0, Nat.zero_le _, rfl, HI.out⟩
      case round =>
        clear HI
        obtain ⟨q, hq, rfl, hrl⟩ := hrel
        have HQ : Hid (BuildIn wo M m os q wr) := hrl
        clear hrl
        have hOM : A + 1 < M := by obtain ⟨_, ⟨F2, hr2⟩, _⟩ := HR.out; have := hr2.lt; have := HM2.out; omega
        obtain ⟨hb2, G, hr2, _⟩ := HQ.out
        by_cases hlt2 : q < m
        · have hq' : q < os.length := by have := HM.out; omega
          obtain ⟨b2, off2, rfl, hs0, hs1⟩ := Hob.out q hq'
          have hbl2 : b2 < A := by have := cell_lt hs0; have := HO.out; omega
          have hd0 := (hb2.cell (p := ⟨b2, off2 + q * 2, none⟩) (by simp; omega)).trans ((HR.out.1.cell (p := ⟨b2, off2 + q * 2, none⟩) hbl2).trans hs0)
          have hd1 := (hb2.cell (p := ⟨b2, off2 + q * 2 + 1, none⟩) (by simp; omega)).trans ((HR.out.1.cell (p := ⟨b2, off2 + q * 2 + 1, none⟩) hbl2).trans hs1)
          have ho0' := hr2.cell (i := q * 3) (by omega)
          have ho1' := hr2.cell (i := q * 3 + 1) (by omega)
          have ho2' := hr2.cell (i := q * 3 + 2) (by omega)
          have hf0' := hr2.frozen (q * 3)
          have hf1' := hr2.frozen (q * 3 + 1)
          have hf2' := hr2.frozen (q * 3 + 2)
          clear hs0 hs1 hb2 hr2 hc0 ho0 hf0
          go_wp2
          go_region
          go_wp2
          go_roundw
          case rel => exact ⟨q + 1, by omega, by go_num, (bin_step HQ.out hq').drew⟩
          case measure => simp [intOf]; omega
        · have ho0' := (hb2.cell (p := ⟨A, k * 12 + 3, none⟩) (by simp; omega)).trans ho0
          have hf0' := (hb2.frozen (p := ⟨A, k * 12 + 3, none⟩) (by simp; omega)).trans hf0
          clear hb2 hr2 hc0 ho0 hf0
          go_wp2
          go_roundw
          case rel =>
            refine ⟨k + 1, by omega, by go_num, ?_⟩
            have hbb := HQ.out.1
            have e0 := HM2.out
            have e1 := HOS.out
            have e2 := HM.out
            rw [← e0] at hbb
            have := bout_step (HR.out.keep hbb) hk' (some ⟨M, 0, none⟩) m (by rw [e1]; exact bin_done HQ.out e2 (by omega)) (fun ad h => by cases h; exact hOM)
            rw [e1, e2] at this
            exact this
          case measure => simp [intOf]; omega
    · go_wp2
      have HT : Hid (BuildTwo w A n cs 0 wr) := two_start HR.out HN.out (by omega)
      clear HR
      obtain ⟨wo, rfl⟩ : ∃ x, x = wr := ⟨wr, rfl⟩
      go_loopw [10] (fun i w2 => ∃ k : Nat, k ≤ n ∧ i = .int .i64 k ∧ BuildTwo w A n cs k w2) (fun i _ => n - (intOf i).toNat)
      case atStart => exact ⟨0, Nat.zero_le _, rfl, HT.out⟩
      case round =>
        clear HT
        obtain ⟨q, hq, rfl, hrl⟩ := hrel
        have HQ : Hid (BuildTwo w A n cs q wr) := hrl
        clear hrl
        by_cases hlt2 : q < n
        · have hq' : q < cs.length := by have := HN.out; omega
          obtain ⟨b, off, oa, oc, rfl, hcell0, hcell1, hob⟩ := Hc.out q hq'
          obtain ⟨hb, _, F, hr, _⟩ := HQ.out
          have hbl : b < A := by have := cell_lt hcell0; have := HO.out; omega
          have hc1 := (hb.cell (p := ⟨b, off + q * 2 + 1, none⟩) hbl).trans hcell1
          have HR : Hid (wr.rowIs (A + 1) 38 (n * 2) F) := hr
          clear hcell0 hcell1 hob hb hr
          go_wp2
          go_region_with ((go_at_call 24; refine (newAns_any _ _ _).mono ?_; rintro e w1 ⟨rfl, hb1⟩; have ho0 := (hb1.cell (p := ⟨A + 1, q * 2, none⟩) (by simp; exact HR.out.lt)).trans (HR.out.cell (by omega)); have ho1 := (hb1.cell (p := ⟨A + 1, q * 2 + 1, none⟩) (by simp; exact HR.out.lt)).trans (HR.out.cell (by omega)); have hf0 := (hb1.frozen (p := ⟨A + 1, q * 2, none⟩) (by simp; exact HR.out.lt)).trans (HR.out.frozen _); have hf1 := (hb1.frozen (p := ⟨A + 1, q * 2 + 1, none⟩) (by simp; exact HR.out.lt)).trans (HR.out.frozen _)))
          go_wp2
          go_roundw
          case rel => exact ⟨q + 1, by omega, by go_num, two_step (HQ.out.keep ⟨hb1.os, hb1.tape, hb1.output, hb1.size, hb1.block⟩) hq'⟩
          case measure => simp [intOf]; omega
        · go_wp2
          go_ret2
          exact ⟨A, by rw [HN.out]; rfl, two_done HQ.out HN.out (by omega), by rw [HO.out]; exact HQ.out.1⟩
end Go.Proofs.Qxb6603497a.pick

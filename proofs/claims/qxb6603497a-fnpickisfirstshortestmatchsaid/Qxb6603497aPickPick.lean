import Derived.Test.Qxb6603497aPickF
namespace Go.Proofs.Qxb6603497a.pick
open Go.ChangeShapes Go.WideShapes Go.ChangeAt Go.RowKit

def PickPost (t : Int) (l : List An) (w : World) (e : Ending) (w' : World) : Prop :=
  e = .returned (.tuple #[.agg #[.pointer (ptrOf (pickF t l)), .int .i64 (expOf (pickF t l))], .bool (pickF t l).isSome]) ∧ Below w.heap.size w w'

theorem rel_start (w : World) : PickRel w w.heap.size none ((w.alloc (.cells #[.pointer none, .int .i64 0] 38)).alloc (.cells #[.pointer none, .int .i64 0] 38)) := by
  have h1 := World.rowIs_alloc w #[.pointer none, .int .i64 0] 38 (fun i => if i = 0 then .pointer none else .int .i64 0) (fun i hi => by
    have : i = 0 ∨ i = 1 := by simp at hi; omega
    rcases this with rfl | rfl <;> rfl)
  have h2 := World.rowIs_alloc (w.alloc (.cells #[.pointer none, .int .i64 0] 38)) #[.pointer none, .int .i64 0] 38 (fun i => if i = 0 then .pointer none else .int .i64 0) (fun i hi => by
    have : i = 0 ∨ i = 1 := by simp at hi; omega
    rcases this with rfl | rfl <;> rfl)
  simp only [World.size_alloc] at h2
  exact ⟨((Below.refl _ _).alloc (Nat.le_refl _) _).alloc (by simp) _, ⟨_, h1.alloc _⟩, _, h2, rfl, rfl⟩

theorem PickRel.cells {w wr : World} {R : Nat} {best : Option An} (h : PickRel w R best wr) :
    wr.cell? ⟨R + 1, 0, none⟩ = some (.pointer (ptrOf best)) ∧ wr.cell? ⟨R + 1, 1, none⟩ = some (.int .i64 (expOf best)) ∧ wr.frozen? ⟨R + 1, 0, none⟩ = false ∧ wr.frozen? ⟨R + 1, 1, none⟩ = false ∧ R + 1 < wr.heap.size := by
  obtain ⟨hb, _, G, hG, hG0, hG1⟩ := h
  exact ⟨by rw [hG.cell (by decide), hG0], by rw [hG.cell (by decide), hG1], hG.frozen _, hG.frozen _, hG.lt⟩

/-- A new block. -/
theorem below_new (w : World) (o : Obj) : Below w.heap.size w (w.alloc o) := (Below.refl _ _).alloc (Nat.le_refl _) _

/-- Behind objectTypes, called in a world with one block more. -/
theorem after30 {w wr w1 : World} {R : Nat} {best : Option An} (p : Option Addr) (x : Int) (h : PickRel w R best wr)
    (hb1 : Below (wr.alloc (.cells #[.pointer p, .int .i64 x] 38)).heap.size (wr.alloc (.cells #[.pointer p, .int .i64 x] 38)) w1) :
    PickRel w R best w1 ∧ Below wr.heap.size wr w1 ∧ w1.cell? ⟨wr.heap.size, 0, none⟩ = some (.pointer p) ∧ w1.cell? ⟨wr.heap.size, 1, none⟩ = some (.int .i64 x) ∧ wr.heap.size < w1.heap.size := by
  have hs := hb1.size
  simp only [World.size_alloc] at hs
  have hb : Below wr.heap.size wr w1 := (below_new wr _).trans (hb1.mono (by simp))
  refine ⟨h.keep hb, hb, ?_, ?_, by omega⟩
  · exact keep_cell hb1 (by simp)
  · exact keep_cell hb1 (by simp)

/-- Behind shorter, called in a world with one block more. -/
theorem after32 {w w1 w3 : World} {R X : Nat} {best : Option An} {p : Option Addr} {x : Int} {o : Obj} (h : PickRel w R best w1) (hx0 : w1.cell? ⟨X, 0, none⟩ = some (.pointer p)) (hx1 : w1.cell? ⟨X, 1, none⟩ = some (.int .i64 x)) (hz : X < w1.heap.size)
    (hb3 : Below (w1.alloc o).heap.size (w1.alloc o) w3) :
    PickRel w R best w3 ∧ Below w1.heap.size w1 w3 ∧ w3.cell? ⟨X, 0, none⟩ = some (.pointer p) ∧ w3.cell? ⟨X, 1, none⟩ = some (.int .i64 x) ∧ X < w3.heap.size := by
  have hs := hb3.size
  simp only [World.size_alloc] at hs
  have hb : Below w1.heap.size w1 w3 := (below_new w1 _).trans (hb3.mono (by simp))
  exact ⟨h.keep hb, hb, keep_cell hb hx0, keep_cell hb hx1, by omega⟩

set_option maxHeartbeats 2000000 in
theorem pick_any (t : Int) (ht : 0 ≤ t) (l : List An) (hn : l.length ≤ maxLen) (hg : Good l) (cap : Nat) (a : Option Addr) (w : World) (hc : AnsAt w a l) :
    Calls Try.prog 25 #[.int .i64 t, .slice a l.length cap] w fun e w' => PickPost t l w e w' := by
  unfold maxLen at hn
  have Hc : Hid (AnsAt w a l) := hc
  have HG : Hid (Good l) := hg
  clear hc hg
  generalize hn' : l.length = n at hn
  have HN : Hid (l.length = n) := hn'
  clear hn'
  have HS : Hid (PickRel w w.heap.size none ((w.alloc (.cells #[.pointer none, .int .i64 0] 38)).alloc (.cells #[.pointer none, .int .i64 0] 38))) := rel_start w
  go_enter Try.func25, Try.ntmps25
  go_wp2
  generalize hR : w.heap.size = R at *
  have HR : Hid (w.heap.size = R) := hR
  clear hR
  go_loopw [11] (fun i wr => ∃ k : Nat, k ≤ n ∧ i = .int .i64 k ∧ PickRel w R (pickF t (l.take k)) wr) (fun i _ => n - (intOf i).toNat)
  case atStart => exact ⟨0, Nat.zero_le _, rfl, HS.out⟩
  case round =>
    clear HS
    obtain ⟨k, hk, rfl, hrl⟩ := hrel
    have HQ : Hid (PickRel w R (pickF t (l.take k)) wr) := hrl
    clear hrl
    by_cases hlt : k < n
    · have hk' : k < l.length := by have := HN.out; omega
      have HP : Hid (pickF t (l.take (k + 1)) = stepF t (pickF t (l.take k)) l[k]) := pickF_take_succ t l k hk'
      have HM : Hid (∀ b, pickF t (l.take k) = some b → b ∈ l) := fun b h => List.mem_of_mem_take (pickF_mem t _ b h)
      obtain ⟨b, off, rfl, h0, h1, hass⟩ := Hc.out k hk'
      have HAS : Hid (AssAt w l[k].1 l[k].2.1) := hass
      obtain ⟨oa, oc, ha0, hobs⟩ := hass
      obtain ⟨g1, g2, g3⟩ := HG.out l[k] (List.getElem_mem hk')
      have hbR : b < R := by have := cell_lt h0; have := HR.out; omega
      have haR : l[k].1.1 < R := by have := cell_lt ha0; have := HR.out; omega
      have h0' := (HQ.out.1.cell (p := ⟨b, off + k * 2, none⟩) hbR).trans h0
      have h1' := (HQ.out.1.cell (p := ⟨b, off + k * 2 + 1, none⟩) hbR).trans h1
      have ha0' := (HQ.out.1.cell (p := ⟨l[k].1.1, l[k].1.2 + 3, none⟩) haR).trans ha0
      have hRw : R + 1 < wr.heap.size := HQ.out.cells.2.2.2.2
      have haW : l[k].1.1 < wr.heap.size := by omega
      have HOB : Hid (ObsAt w oa l[k].2.1) := hobs
      have HG1 : Hid (∀ o ∈ l[k].2.1, 0 ≤ o.1) := g3
      have hml : l[k].2.1.length ≤ maxLen := by unfold maxLen; omega
      have HML : Hid (l[k].2.1.length ≤ maxLen) := hml
      have HBW : Hid (Below w.heap.size w wr) := by have := HQ.out.1; rw [← HR.out] at this; exact this
      clear h0 h1 ha0 hobs g3 hml
      generalize l[k] = x at *
      generalize pickF t (l.take k) = best at *
      have hand := u32_and_nat (bitsOf x.2.1) (bitOf t) (bitsOf_lt _) (bitOf_lt _)
      have hbits := bits_has t ht x.2.1 HG1.out
      generalize bitsOf x.2.1 &&& bitOf t = m at hand hbits
      go_wp2_with fail
      refine (objTypes_any _ HML.out HG1.out _ _ _ ?hc1).mono ?_
      case hc1 => exact (HOB.out.keep HBW.out).keep (below_new _ _)
      rintro e w1 ⟨rfl, hb1⟩
      obtain ⟨hq1, hbw1, hx0, hx1, hz⟩ := after30 _ _ HQ.out hb1
      obtain ⟨hbe0, hbe1, hfe0, hfe1, hRw1⟩ := hq1.cells
      have HQ1 : Hid (PickRel w R best w1) := hq1
      have HBW1 : Hid (Below w.heap.size w w1) := HBW.out.trans (hbw1.mono HBW.out.size)
      clear hb1 hq1 hbw1 h0' h1' ha0'
      cases hh : hasT t x.2.1
      · rw [hh] at hbits
        have hbits' : ((m : Int) == 0) = true := by simpa using hbits
        have HH : Hid (hasT t x.2.1 = false) := hh
        clear hh
        go_wp2_with fail
        refine (typeBits_any t ht _ _ ?hc2).mono ?_
        case hc2 => simp [go_sem]
        rintro e w2 ⟨rfl, rfl⟩
        go_wp2
        go_roundw
        case rel =>
          refine ⟨k + 1, by omega, by go_num, ?_⟩
          rw [HP.out, show stepF t best x = best from by unfold stepF; rw [HH.out]; rfl]
          exact HQ1.out.keep (below_new _ _)
        case measure => simp [intOf]; omega
      · rw [hh] at hbits
        have hbits' : ((m : Int) == 0) = false := by simpa using hbits
        have HH : Hid (hasT t x.2.1 = true) := hh
        clear hh
        rcases best with _ | y
        · simp only [ptrOf, expOf] at hbe0 hbe1
          go_wp2_with fail
          refine (typeBits_any t ht _ _ ?hc2).mono ?_
          case hc2 => simp [go_sem]
          rintro e w2 ⟨rfl, rfl⟩
          go_wp2
          go_roundw
          case rel =>
            refine ⟨k + 1, by omega, by go_num, ?_⟩
            rw [HP.out, show stepF t none x = some x from by unfold stepF; rw [HH.out]; rfl]
            exact (HQ1.out.put x).keep (below_new _ _)
          case measure => simp [intOf]; omega
        · simp only [ptrOf, expOf] at hbe0 hbe1
          have hy := HM.out y rfl
          obtain ⟨y1, y2, _⟩ := HG.out y hy
          have HY : Hid (AssAt w y.1 y.2.1) := Hc.out.ass hy
          clear hy
          go_wp2_with fail
          refine (typeBits_any t ht _ _ ?hc2).mono ?_
          case hc2 => simp [go_sem]
          rintro e w2 ⟨rfl, rfl⟩
          go_wp2_with fail
          refine (shorter_any x.1 y.1 x.2.1 y.2.1 _ _ g1 y1 g2 y2 _ ?hc3 ?hc4).mono ?_
          case hc3 => exact (HAS.out.keep HBW1.out).keep (below_new _ _)
          case hc4 => exact (HY.out.keep HBW1.out).keep (below_new _ _)
          rintro e w3 ⟨rfl, hb3⟩
          obtain ⟨hq3, hbw3, hx30, hx31, hz3⟩ := after32 HQ1.out hx0 hx1 hz hb3
          obtain ⟨hce0, hce1, hge0, hge1, hRw3⟩ := hq3.cells
          have HQ3 : Hid (PickRel w R (some y) w3) := hq3
          clear hb3 hq3 hbw3 hx0 hx1 hbe0 hbe1 hfe0 hfe1
          have HB : Hid (stepF t (some y) x = if shorterB x.2.1 x.2.2 y.2.1 y.2.2 = true then some x else some y) := by
            show stepF t (some y) x = _
            unfold stepF beats
            rw [HH.out, Bool.true_and]
          generalize shorterB x.2.1 x.2.2 y.2.1 y.2.2 = B at *
          cases B
          · go_wp2
            go_roundw
            case rel =>
              refine ⟨k + 1, by omega, by go_num, ?_⟩
              rw [HP.out, HB.out]
              exact HQ3.out
            case measure => simp [intOf]; omega
          · go_wp2
            go_roundw
            case rel =>
              refine ⟨k + 1, by omega, by go_num, ?_⟩
              rw [HP.out, HB.out]
              exact HQ3.out.put x
            case measure => simp [intOf]; omega
    · have HE : Hid (pickF t (l.take k) = pickF t l) := by rw [List.take_of_length_le (by have := HN.out; omega)]; rfl
      obtain ⟨hbe0, hbe1, hfe0, hfe1, hRw1⟩ := HQ.out.cells
      obtain ⟨hb, ⟨F, hF⟩, _⟩ := HQ.out
      have hr0 := hF.cell (i := 0) (by decide)
      have hr1 := hF.cell (i := 1) (by decide)
      have hs0 := hF.frozen 0
      have hs1 := hF.frozen 1
      have HF : Hid (Below w.heap.size w wr) := by rw [HR.out]; exact hb
      clear hF hb
      rw [HE.out] at hbe0 hbe1
      cases hp : pickF t l
      · rw [hp] at hbe0 hbe1
        have HP : Hid (pickF t l = none) := hp
        clear hp
        simp only [ptrOf, expOf] at hbe0 hbe1
        go_wp2
        go_region
        go_wp2
        refine bodyPost_ret (v := .tuple #[.agg #[.pointer none, .int .i64 0], .bool false]) (by simp [results, Try.results25, go_sem, hr0, hr1]) rfl ⟨by rw [HP.out]; rfl, ?_⟩
        exact ((HF.out.setCell (Nat.le_of_eq HR.out) _).setCell (Nat.le_of_eq HR.out) _).drew
      · rename_i x
        rw [hp] at hbe0 hbe1
        have HP : Hid (pickF t l = some x) := hp
        clear hp
        simp only [ptrOf, expOf] at hbe0 hbe1
        go_wp2
        go_region
        go_wp2
        refine bodyPost_ret (v := .tuple #[.agg #[.pointer (some ⟨x.1.1, x.1.2, none⟩), .int .i64 x.2.2], .bool true]) (by simp [results, Try.results25, go_sem, hr0, hr1]) rfl ⟨by rw [HP.out]; rfl, ?_⟩
        exact ((HF.out.setCell (Nat.le_of_eq HR.out) _).setCell (Nat.le_of_eq HR.out) _).drew

/-- ZZpick. -/
theorem zpick_any (t : Int) (ht : 0 ≤ t) (l : List An) (hn : l.length ≤ maxLen) (hg : Good l) (cap : Nat) (a : Option Addr) (w : World) (hc : AnsAt w a l) :
    Calls Try.prog 15 #[.int .i64 t, .slice a l.length cap] w fun e w' => PickPost t l w e w' := by
  have HC : Hid (AnsAt w a l) := hc
  have HN : Hid (l.length ≤ maxLen) := hn
  have HG : Hid (Good l) := hg
  clear hc hn hg
  go_enter Try.func15, Try.ntmps15
  go_wp2_with fail
  refine (pick_any t ht l HN.out HG.out _ _ _ ?hc1).mono ?_
  case hc1 => exact HC.out.keep (below_new _ _)
  rintro e w1 ⟨rfl, hb1⟩
  have hx0 := keep_cell hb1 (b := w.heap.size) (o := 0) (v := .pointer none) (by simp)
  have hx1 := keep_cell hb1 (b := w.heap.size) (o := 1) (v := .int .i64 0) (by simp)
  have hf0 := hb1.frozen (p := ⟨w.heap.size, 0, none⟩) (by simp)
  have hf1 := hb1.frozen (p := ⟨w.heap.size, 1, none⟩) (by simp)
  have HB : Hid (Below w.heap.size w w1) := (below_new w _).trans (hb1.mono (by simp))
  have hsz : w.heap.size < w1.heap.size := by have := hb1.size; simp at this; omega
  clear hb1
  simp [go_sem] at hf0 hf1
  generalize hp : pickF t l = best
  have HP : Hid (pickF t l = best) := hp
  clear hp
  go_wp2
  refine bodyPost_ret (v := .tuple #[.agg #[.pointer (ptrOf best), .int .i64 (expOf best)], .bool best.isSome]) (by simp [results, Try.results15, go_sem, hx0, hx1]) rfl ⟨by rw [HP.out], ?_⟩
  exact (HB.out.setCell (Nat.le_refl _) _).setCell (Nat.le_refl _) _
end Go.Proofs.Qxb6603497a.pick

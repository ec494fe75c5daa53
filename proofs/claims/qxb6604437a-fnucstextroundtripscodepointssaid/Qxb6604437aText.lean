import Derived.Test.Qxb6604437aBuild
import Derived.Test.Qxb6604437aPlain
import Derived.Laws.BitsAllLaws
import Derived.BigQuiet
import Derived.RangeFuncRecord
import Derived.ProofKit
import Derived.OpenShut
namespace Go.Proofs.Qxb6604437a.ucs
open Go.ChangeShapes Go.WideShapes Go.ChangeAt Go.RowKit

theorem flat_get (size : Nat) : ∀ (cps : List Nat) (k : Nat) (hk : k < cps.length) (j : Nat), j < size → (cps.flatMap (be size))[k * size + j]? = (be size cps[k])[j]?
  | x :: xs, 0, _, j, hj => by
    rw [List.flatMap_cons, Nat.zero_mul, Nat.zero_add, List.getElem?_append_left (by rw [be_length]; exact hj)]; rfl
  | x :: xs, k + 1, hk, j, hj => by
    rw [List.flatMap_cons, List.getElem?_append_right (by rw [be_length, Nat.succ_mul]; omega), be_length]
    have e : (k + 1) * size + j - size = k * size + j := by rw [Nat.succ_mul]; omega
    rw [e, flat_get size xs k (by simpa using hk) j hj]; rfl

/-- After k code points. -/
def TextRel (w : World) (zs cps : List Nat) (n size k : Nat) (s : Value) (wr : World) : Prop :=
  ∃ a M c, s = .slice a M c ∧ (n - k) * size = M ∧ M ≤ c ∧ RowAt .u8 w a (zs.drop (k * size)) ∧ Lib.IsBuilder 33 5 w.heap.size w.heap.size ((cps.take k).flatMap fun x : Nat => Lib.runeCells (x : Int)) wr ∧ Below w.heap.size w wr

def TextPost (cps : List Nat) (w : World) (e : Ending) (w' : World) : Prop :=
  e = .returned (.tuple #[.string ⟨(cps.flatMap fun x : Nat => Lib.encodeRune (x : Int)).toArray⟩, .bool true]) ∧ Below w.heap.size w w'

/-- The byte i of the code point k. -/
theorem byte_at {w : World} {a : Option Addr} {cps : List Nat} {size k i : Nat} (hk : k < cps.length) (hi : i < size) (h : RowAt .u8 w a ((cps.flatMap (be size)).drop (k * size))) :
    ∃ b off, a = some ⟨b, off, none⟩ ∧ w.cell? ⟨b, off + i, none⟩ = some (.int .u8 ((cps[k] / 256 ^ (size - 1 - i) % 256 : Nat) : Int)) := by
  have hg := flat_get size cps k hk i hi
  have hl : i < (be size cps[k]).length := by rw [be_length]; exact hi
  rw [List.getElem?_eq_getElem hl, be_get] at hg
  have hd : ((cps.flatMap (be size)).drop (k * size))[i]? = some (cps[k] / 256 ^ (size - 1 - i) % 256) := by rw [List.getElem?_drop]; exact hg
  obtain ⟨hi', e⟩ := List.getElem?_eq_some_iff.1 hd
  obtain ⟨b, off, h1, h2⟩ := h i hi'
  exact ⟨b, off, h1, by rw [h2, e]⟩

theorem step_div (c d : Nat) : c / 256 ^ (d + 1) * 256 + c / 256 ^ d % 256 = c / 256 ^ d := by
  rw [Nat.pow_succ, ← Nat.div_div_eq_div_mul]; omega

theorem or_add (p y : Nat) (hy : y < 256) : p * 256 ||| y = p * 256 + y := by
  have h := Nat.shiftLeft_add_eq_or_of_lt (i := 8) (b := y) (by omega) p
  rw [Nat.shiftLeft_eq] at h
  exact h.symm
theorem i32_or_nat (a b : Nat) (ha : a < 2147483648) (hb : b < 2147483648) : bits .or .i32 (a : Int) (b : Int) = ((a ||| b : Nat) : Int) := by
  have hx : a ||| b < 2 ^ 31 := Nat.or_lt_two_pow (by omega) (by omega)
  show IntKind.i32.wrap ((BitVec.ofInt 32 (a : Int) ||| BitVec.ofInt 32 (b : Int)).toNat : Int) = _
  rw [BitVec.toNat_or, ofInt_u32 a (by omega), ofInt_u32 b (by omega), IntKind.wrap_i32]
  omega
theorem cells_le (l : List Nat) : (l.flatMap fun x : Nat => Lib.runeCells (x : Int)).length ≤ 4 * l.length := by
  induction l with
  | nil => simp
  | cons x l ih =>
    have := Lib.runeCells_le (x : Int)
    simp only [List.flatMap_cons, List.length_append, List.length_cons]
    omega
theorem cells_bytes (l : List Nat) : (l.flatMap fun x : Nat => Lib.runeCells (x : Int)) = Lib.byteCells (l.flatMap fun x : Nat => Lib.encodeRune (x : Int)) := by
  induction l with
  | nil => rfl
  | cons x l ih =>
    have e := Lib.byteCells_encodeRune (x : Int)
    rw [List.flatMap_cons, List.flatMap_cons, ih, ← e]
    simp only [Lib.byteCells, List.map_append]
theorem flat_len (size : Nat) (cps : List Nat) : (cps.flatMap (be size)).length = cps.length * size := by
  induction cps with
  | nil => simp
  | cons x l ih => rw [List.flatMap_cons, List.length_append, ih, be_length, List.length_cons, Nat.succ_mul]; omega
theorem row_drop {k : IntKind} {w : World} {b off d s : Nat} {zs : List Nat} (h : RowAt k w (some ⟨b, off, none⟩) (zs.drop d)) : RowAt k w (some ⟨b, off + s, none⟩) (zs.drop (d + s)) := by
  intro i hi
  have hi' : s + i < (zs.drop d).length := by simp at hi ⊢; omega
  obtain ⟨b', off', e, hc⟩ := h (s + i) hi'
  cases e
  refine ⟨_, _, rfl, ?_⟩
  rw [Nat.add_assoc, hc]
  simp [Nat.add_assoc]
theorem start_rel (w : World) (cps : List Nat) (n size N : Nat) (a : Option Addr) (cap : Nat) (hN : n * size = N) (hcap : N ≤ cap) (hrow : RowAt .u8 w a (cps.flatMap (be size))) :
    TextRel w (cps.flatMap (be size)) cps n size 0 (.slice a N cap) (w.alloc (.cells #[.pointer none, .slice none 0 0] 33)) := by
  refine ⟨a, N, cap, rfl, by simpa using hN, hcap, by simpa using hrow, .inl ⟨Nat.le_refl _, .slice none 0 0, ?_, ?_, ?_⟩, (Below.refl _ _).alloc (Nat.le_refl _) _⟩
  · exact World.alloc_heap_new _ _
  · exact ⟨rfl, .inl ⟨rfl, rfl⟩⟩
  · simp [Value.ownBlock]
/-- 'r<<8 | rune(b)'. -/
theorem push_byte (p y q : Nat) (hy : y < 256) (hq : p * 256 + y = q) (hle : q ≤ 1114111) : wrap32 ((p : Int) * 256) = ((p * 256 : Nat) : Int) ∧ bits .or .i32 ((p : Int) * 256) (y : Int) = (q : Int) := by
  refine ⟨?_, ?_⟩
  · unfold wrap32; omega
  · rw [show (p : Int) * 256 = ((p * 256 : Nat) : Int) from by omega, i32_or_nat _ _ (by omega) (by omega), or_add _ _ hy, hq]

set_option maxHeartbeats 2000000 in
set_option maxRecDepth 8000 in
theorem text_any (cps : List Nat) (size n N : Nat) (hs1 : 1 ≤ size) (hs4 : size ≤ 4) (hn : cps.length = n) (h16 : n ≤ 65536) (hN : n * size = N) (hsc : ∀ c ∈ cps, Scalar c) (hfit : ∀ c ∈ cps, c < 256 ^ size)
    (a : Option Addr) (cap : Nat) (hcap : N ≤ cap) (w : World) (hrow : RowAt .u8 w a (cps.flatMap (be size))) :
    Calls Try.prog 7 #[.slice a N cap, .int .i64 (size : Int)] w fun e w' => TextPost cps w e w' := by
  have hrem : Int.tmod (N : Int) (size : Int) = 0 := by rw [← hN]; simp
  have h0 : ¬ (size : Int) = 0 := by omega
  have HS : Hid (TextRel w (cps.flatMap (be size)) cps n size 0 (.slice a N cap) (w.alloc (.cells #[.pointer none, .slice none 0 0] 33))) := start_rel w cps n size N a cap hN hcap hrow
  have HN : Hid (cps.length = n) := hn
  have HF : Hid (∀ c ∈ cps, c < 256 ^ size) := hfit
  have HSC : Hid (∀ c ∈ cps, Scalar c) := hsc
  clear hN hn hfit hsc hrow hcap
  go_enter Try.func7, Try.ntmps7
  go_wp2
  clear hrem
  go_loopw [0] (fun s wr => ∃ (k : Nat) (v : Value), k ≤ n ∧ v = s ∧ TextRel w (cps.flatMap (be size)) cps n size k v wr) (fun s _ => match s with | .slice _ l _ => l | _ => 0)
  case atStart => exact ⟨0, _, Nat.zero_le _, rfl, HS.out⟩
  case round =>
    clear HS
    obtain ⟨k, v, hk, rfl, a2, M, c2, rfl, hM, hMc, hrow2, hbld, hbel⟩ := hrel
    have HM : Hid ((n - k) * size = M) := hM
    have HR : Hid (RowAt .u8 w a2 ((cps.flatMap (be size)).drop (k * size))) := hrow2
    have HBD : Hid (Lib.IsBuilder 33 5 w.heap.size w.heap.size ((cps.take k).flatMap fun x : Nat => Lib.runeCells (x : Int)) wr) := hbld
    have HBL : Hid (Below w.heap.size w wr) := hbel
    clear hM hrow2 hbld hbel
    by_cases hlt : k < n
    · have hk' : k < cps.length := by have := HN.out; omega
      obtain ⟨d, hd⟩ : ∃ d, n - k = d + 1 := ⟨n - k - 1, by omega⟩
      have hsM : size ≤ M := by have := HM.out; rw [hd, Nat.succ_mul] at this; omega
      have hsc2 : size ≤ c2 := by omega
      have hM0 : (0 : Int) < (M : Int) := by omega
      obtain ⟨cp, hcp⟩ : ∃ x, cps[k] = x := ⟨_, rfl⟩
      have HCP : Hid (cps[k] = cp) := hcp
      have HSV : Hid (Scalar cp) := by rw [← hcp]; exact HSC.out _ (List.getElem_mem hk')
      have HFT : Hid (cp < 256 ^ size) := by rw [← hcp]; exact HF.out _ (List.getElem_mem hk')
      have HLE : Hid (cp ≤ 1114111) := by show _ ≤ _; rcases HSV.out with h | h <;> omega
      have HR' : Hid (∀ i, i < size → ∃ b off, a2 = some ⟨b, off, none⟩ ∧ w.cell? ⟨b, off + i, none⟩ = some (.int .u8 ((cp / 256 ^ (size - 1 - i) % 256 : Nat) : Int))) := by
        intro i hi
        have := byte_at hk' hi HR.out
        rw [hcp] at this
        exact this
      clear hcp hd
      obtain ⟨bb, off, rfl, hcell0⟩ := HR'.out 0 hs1
      have HCELL : Hid (∀ i, i < size → wr.cell? ⟨bb, off + i, none⟩ = some (.int .u8 ((cp / 256 ^ (size - 1 - i) % 256 : Nat) : Int))) := by
        intro i hi
        obtain ⟨b3, off3, e3, hc3⟩ := HR'.out i hi
        cases e3
        exact keep_cell HBL.out hc3
      have hbw : bb < wr.heap.size := by have := cell_lt (HCELL.out 0 hs1); exact this
      clear hcell0
      go_wp2
      go_loop [7, 25] (fun r j => ∃ i p : Nat, i ≤ size ∧ j = .int .i64 i ∧ r = .int .i32 (p : Int) ∧ cp / 256 ^ (size - i) = p) (fun _ j => size - (intOf j).toNat)
      case atStart => exact ⟨0, 0, Nat.zero_le _, rfl, rfl, by rw [Nat.sub_zero]; exact Nat.div_eq_of_lt HFT.out⟩
      case round =>
        obtain ⟨i, p, hi, rfl, rfl, hp⟩ := hrel
        have HP : Hid (cp / 256 ^ (size - i) = p) := hp
        clear hp
        by_cases hlt2 : i < size
        · have hc := HCELL.out i hlt2
          obtain ⟨y, hy⟩ : ∃ y, cp / 256 ^ (size - 1 - i) % 256 = y := ⟨_, rfl⟩
          rw [hy] at hc
          have hy8 : y < 256 := by rw [← hy]; exact Nat.mod_lt _ (by decide)
          obtain ⟨q, hq⟩ : ∃ q, cp / 256 ^ (size - 1 - i) = q := ⟨_, rfl⟩
          have HQ : Hid (cp / 256 ^ (size - (i + 1)) = q) := by
            show _ = _
            rw [← hq]; congr 2; omega
          have HPQ : Hid (p * 256 + y = q ∧ q ≤ 1114111) := by
            have h1 := step_div cp (size - 1 - i)
            have e1 : size - 1 - i + 1 = size - i := by omega
            rw [e1, HP.out, hy, hq] at h1
            have h2 : cp / 256 ^ (size - 1 - i) ≤ cp := Nat.div_le_self _ _
            rw [hq] at h2
            exact ⟨h1, Nat.le_trans h2 HLE.out⟩
          obtain ⟨hw1, hw2⟩ := push_byte p y q hy8 HPQ.out.1 HPQ.out.2
          clear hy hq
          go_wp2
          go_round
          case rel => exact ⟨i + 1, q, by omega, by go_num, rfl, HQ.out⟩
          case measure => simp [intOf]; omega
        · have hpc : p = cp := by
            have := HP.out
            rw [show size - i = 0 from by omega, Nat.pow_zero, Nat.div_one] at this
            exact this.symm
          subst hpc
          have hval : Lib.validRune (p : Int) = true := by
            have := HSV.out
            unfold Scalar at this
            unfold Lib.validRune
            simp
            omega
          go_wp2_with fail
          refine (Try.utf8_ValidRune (p : Int) wr).mono ?_
          rintro e w1 ⟨rfl, rfl⟩
          rw [hval]
          go_wp2_with fail
          refine (rune_any w.heap.size w.heap.size _ (p : Int) (by omega) (by have := HLE.out; omega) w1 HBD.out (by have := cells_le (cps.take k); have := List.length_take_le k cps; omega) HBL.out.size).mono ?_
          rintro e w2 ⟨rfl, hb2, hbl2⟩
          have HB2 : Hid (Lib.IsBuilder 33 5 w.heap.size w.heap.size ((cps.take (k + 1)).flatMap fun x : Nat => Lib.runeCells (x : Int)) w2) := by
            show Lib.IsBuilder _ _ _ _ _ _
            rw [List.take_succ_eq_append_getElem hk', List.flatMap_append, HCP.out]
            have e : [p].flatMap (fun x : Nat => Lib.runeCells (x : Int)) = Lib.runeCells (p : Int) := by simp
            rw [e]
            exact Or.inr hb2
          have HBL2 : Hid (Below w.heap.size w w2) := HBL.out.trans hbl2
          clear hb2 hbl2
          go_wp2
          go_roundw
          case rel =>
            refine ⟨k + 1, _, by omega, rfl, _, _, _, rfl, ?_, ?_, ?_, HB2.out, HBL2.out⟩
            · have h1 := HM.out
              have h2 : n - k = (n - (k + 1)) + 1 := by omega
              rw [h2, Nat.succ_mul] at h1
              omega
            · omega
            · split
              · rename_i hcs
                intro i hi
                exfalso
                rw [List.length_drop, flat_len, HN.out] at hi
                have h1 := HM.out
                have h2 : n - k = (n - (k + 1)) + 1 := by omega
                rw [h2, Nat.succ_mul] at h1
                have h3 : (n - (k + 1)) * size = 0 := by omega
                rw [Nat.sub_mul] at h3
                omega
              · have := row_drop (s := size) HR.out
                rwa [← Nat.succ_mul] at this
          case measure => simp; omega
    · have hkn : k = n := by omega
      subst hkn
      have hM0 : M = 0 := by have := HM.out; rw [Nat.sub_self, Nat.zero_mul] at this; exact this.symm
      subst hM0
      have HBD2 : Hid (Lib.IsBuilder 33 5 w.heap.size w.heap.size (Lib.byteCells (cps.flatMap fun x : Nat => Lib.encodeRune (x : Int))) wr) := by
        have h := HBD.out
        rw [List.take_of_length_le (by rw [HN.out]; exact Nat.le_refl _), cells_bytes] at h
        exact h
      go_wp2_with fail
      refine (Try.Builder_String_any w.heap.size w.heap.size _ wr HBD2.out HBL.out.size).mono ?_
      rintro e w2 ⟨rfl, hb2⟩
      have HB2 : Hid (Below w.heap.size w w2) := HBL.out.trans hb2
      clear hb2
      go_wp2
      go_ret2
      exact ⟨rfl, HB2.out⟩
end Go.Proofs.Qxb6604437a.ucs

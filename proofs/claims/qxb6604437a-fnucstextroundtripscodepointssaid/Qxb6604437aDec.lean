import Derived.Test.Qxb6604437aPlain
import Derived.Laws.BitsAllLaws
namespace Go.Proofs.Qxb6604437a.ucs
open Go.RowKit

/-- The bytes of one code point, and of many. -/
def enc (c : Nat) : List UInt8 := Lib.encodeRune (c : Int)
def encs (cps : List Nat) : List UInt8 := cps.flatMap enc
def pos (cps : List Nat) (k : Nat) : Nat := (encs (cps.take k)).length
def byt (c j : Nat) : Nat := ((enc c)[j]?.getD 0).toNat

theorem pos_zero (cps : List Nat) : pos cps 0 = 0 := by simp [pos, encs]
theorem pos_end (cps : List Nat) : pos cps cps.length = (encs cps).length := by simp [pos]
theorem pos_succ {cps : List Nat} {k : Nat} (hk : k < cps.length) : pos cps (k + 1) = pos cps k + (enc cps[k]).length := by
  unfold pos encs
  rw [List.take_succ_eq_append_getElem hk, List.flatMap_append, List.length_append]
  simp
theorem encs_split {cps : List Nat} {k : Nat} (hk : k < cps.length) : encs cps = encs (cps.take k) ++ (enc cps[k] ++ encs (cps.drop (k + 1))) := by
  have h : cps = cps.take k ++ cps[k] :: cps.drop (k + 1) := by
    rw [List.getElem_cons_drop hk, List.take_append_drop]
  have e := congrArg encs h
  refine e.trans ?_
  unfold encs
  rw [List.flatMap_append, List.flatMap_cons]
theorem pos_le {cps : List Nat} {k : Nat} (hk : k < cps.length) : pos cps k + (enc cps[k]).length ≤ (encs cps).length := by
  have := congrArg List.length (encs_split hk)
  simp only [List.length_append] at this
  unfold pos
  omega
theorem enc_len (c : Nat) : 1 ≤ (enc c).length ∧ (enc c).length ≤ 4 := by
  have := Lib.encodeRuneZ_length (c : Int)
  simpa [enc, Lib.encodeRune] using this
theorem encs_le (l : List Nat) : (encs l).length ≤ 4 * l.length := by
  induction l with
  | nil => simp [encs]
  | cons x l ih =>
    have := enc_len x
    have e : encs (x :: l) = enc x ++ encs l := rfl
    rw [e, List.length_append, List.length_cons]
    omega
theorem encs_get {cps : List Nat} {k : Nat} (hk : k < cps.length) {j : Nat} (hj : j < (enc cps[k]).length) : (encs cps)[pos cps k + j]? = (enc cps[k])[j]? := by
  rw [encs_split hk, List.getElem?_append_right (by unfold pos; omega)]
  have e : pos cps k + j - (encs (cps.take k)).length = j := by unfold pos; omega
  rw [e, List.getElem?_append_left hj]
theorem str_get {cps : List Nat} {k : Nat} (hk : k < cps.length) {j : Nat} (hj : j < (enc cps[k]).length) (h : pos cps k + j < (ByteArray.mk (encs cps).toArray).size) : ((ByteArray.mk (encs cps).toArray)[pos cps k + j]'h).toNat = byt cps[k] j := by
  have h' : pos cps k + j < (encs cps).length := by have := pos_le hk; omega
  have e : (ByteArray.mk (encs cps).toArray)[pos cps k + j]'h = (encs cps)[pos cps k + j] := rfl
  have g := encs_get hk hj
  rw [List.getElem?_eq_getElem h'] at g
  rw [e]
  unfold byt
  rw [← g]; rfl

/-- A first byte. -/
def Lead (m b x : Nat) : Prop :=
  (m = 1 ∧ b = x ∧ x < 128) ∨ (m = 2 ∧ b = 192 + x ∧ x < 32) ∨ (m = 3 ∧ b = 224 + x ∧ x < 16) ∨ (m = 4 ∧ b = 240 + x ∧ x < 8)

theorem toByte (z : Int) (h1 : z < 256) : (z.toNat.toUInt8).toNat = z.toNat := by
  simp; omega

theorem enc_one {c : Nat} (h : c ≤ 127) : (enc c).length = 1 ∧ byt c 0 = c := by
  have e : enc c = [((c : Int)).toNat.toUInt8] := by simp [enc, Lib.encodeRune, Lib.encodeRuneZ_one (r := (c : Int)) (by omega) (by omega)]
  refine ⟨by rw [e]; rfl, ?_⟩
  unfold byt
  rw [e]
  show ((c : Int).toNat.toUInt8).toNat = c
  rw [toByte _ (by omega)]; omega
theorem enc_two {c : Nat} (h : 128 ≤ c) (h1 : c ≤ 2047) : (enc c).length = 2 ∧ byt c 0 = 192 + c / 64 ∧ byt c 1 = 128 + c % 64 := by
  have e : enc c = [(192 + (c : Int) / 64).toNat.toUInt8, (128 + (c : Int) % 64).toNat.toUInt8] := by simp only [enc, Lib.encodeRune, Lib.encodeRuneZ_two (r := (c : Int)) (by omega) (by omega), List.map_cons, List.map_nil]
  refine ⟨by rw [e]; rfl, ?_, ?_⟩ <;> unfold byt <;> rw [e]
  · show ((192 + (c : Int) / 64).toNat.toUInt8).toNat = _
    rw [toByte _ (by omega)]; omega
  · show ((128 + (c : Int) % 64).toNat.toUInt8).toNat = _
    rw [toByte _ (by omega)]; omega
theorem enc_three {c : Nat} (h : (2048 ≤ c ∧ c < 55296) ∨ (57343 < c ∧ c ≤ 65535)) : (enc c).length = 3 ∧ byt c 0 = 224 + c / 4096 ∧ byt c 1 = 128 + c / 64 % 64 ∧ byt c 2 = 128 + c % 64 := by
  have e : enc c = [(224 + (c : Int) / 4096).toNat.toUInt8, (128 + (c : Int) / 64 % 64).toNat.toUInt8, (128 + (c : Int) % 64).toNat.toUInt8] := by simp only [enc, Lib.encodeRune, Lib.encodeRuneZ_three (r := (c : Int)) (by omega), List.map_cons, List.map_nil]
  refine ⟨by rw [e]; rfl, ?_, ?_, ?_⟩ <;> unfold byt <;> rw [e]
  · show ((224 + (c : Int) / 4096).toNat.toUInt8).toNat = _
    rw [toByte _ (by omega)]; omega
  · show ((128 + (c : Int) / 64 % 64).toNat.toUInt8).toNat = _
    rw [toByte _ (by omega)]; omega
  · show ((128 + (c : Int) % 64).toNat.toUInt8).toNat = _
    rw [toByte _ (by omega)]; omega
theorem enc_four {c : Nat} (h : 65536 ≤ c) (h1 : c ≤ 1114111) : (enc c).length = 4 ∧ byt c 0 = 240 + c / 262144 ∧ byt c 1 = 128 + c / 4096 % 64 ∧ byt c 2 = 128 + c / 64 % 64 ∧ byt c 3 = 128 + c % 64 := by
  have e : enc c = [(240 + (c : Int) / 262144).toNat.toUInt8, (128 + (c : Int) / 4096 % 64).toNat.toUInt8, (128 + (c : Int) / 64 % 64).toNat.toUInt8, (128 + (c : Int) % 64).toNat.toUInt8] := by simp only [enc, Lib.encodeRune, Lib.encodeRuneZ_four (r := (c : Int)) (by omega) (by omega), List.map_cons, List.map_nil]
  refine ⟨by rw [e]; rfl, ?_, ?_, ?_, ?_⟩ <;> unfold byt <;> rw [e]
  · show ((240 + (c : Int) / 262144).toNat.toUInt8).toNat = _
    rw [toByte _ (by omega)]; omega
  · show ((128 + (c : Int) / 4096 % 64).toNat.toUInt8).toNat = _
    rw [toByte _ (by omega)]; omega
  · show ((128 + (c : Int) / 64 % 64).toNat.toUInt8).toNat = _
    rw [toByte _ (by omega)]; omega
  · show ((128 + (c : Int) % 64).toNat.toUInt8).toNat = _
    rw [toByte _ (by omega)]; omega

/-- What a code point's bytes are. -/
theorem enc_says {c : Nat} (h : Scalar c) : ∃ m, (enc c).length = m ∧ 1 ≤ m ∧ m ≤ 4 ∧ Lead m (byt c 0) (c / 64 ^ (m - 1)) ∧ ∀ j, 1 ≤ j → j < m → byt c j = 128 + c / 64 ^ (m - 1 - j) % 64 := by
  unfold Scalar at h
  by_cases h1 : c ≤ 127
  · obtain ⟨a, b⟩ := enc_one h1
    refine ⟨1, a, by omega, by omega, .inl ⟨rfl, by rw [b]; simp, by simp; omega⟩, fun j h1 h2 => by omega⟩
  by_cases h2 : c ≤ 2047
  · obtain ⟨a, b, b1⟩ := enc_two (c := c) (by omega) h2
    refine ⟨2, a, by omega, by omega, .inr (.inl ⟨rfl, by rw [b], by simp; omega⟩), fun j h1 h2 => ?_⟩
    obtain rfl : j = 1 := by omega
    rw [b1]; simp
  by_cases h3 : c ≤ 65535
  · obtain ⟨a, b, b1, b2⟩ := enc_three (c := c) (by omega)
    refine ⟨3, a, by omega, by omega, .inr (.inr (.inl ⟨rfl, by rw [b], by simp; omega⟩)), fun j h1 h2 => ?_⟩
    rcases (by omega : j = 1 ∨ j = 2) with rfl | rfl
    · rw [b1]
    · rw [b2]; simp
  · obtain ⟨a, b, b1, b2, b3⟩ := enc_four (c := c) (by omega) (by omega)
    refine ⟨4, a, by omega, by omega, .inr (.inr (.inr ⟨rfl, by rw [b], by simp; omega⟩)), fun j h1 h2 => ?_⟩
    rcases (by omega : j = 1 ∨ j = 2 ∨ j = 3) with rfl | rfl | rfl
    · rw [b1]
    · rw [b2]
    · rw [b3]; simp

/-! ### The masks -/
theorem mask_two : ∀ x : Fin 32, (192 + x.val) &&& 224 = 192 ∧ (192 + x.val) &&& 31 = x.val := by decide
theorem mask_three : ∀ x : Fin 16, (224 + x.val) &&& 224 = 224 ∧ (224 + x.val) &&& 240 = 224 ∧ (224 + x.val) &&& 15 = x.val := by decide
theorem mask_four : ∀ x : Fin 8, (240 + x.val) &&& 224 = 224 ∧ (240 + x.val) &&& 240 = 240 ∧ (240 + x.val) &&& 248 = 240 ∧ (240 + x.val) &&& 7 = x.val := by decide
theorem mask_next : ∀ x : Fin 64, (128 + x.val) &&& 192 = 128 ∧ (128 + x.val) &&& 63 = x.val := by decide
theorem and_lit (b m v : Nat) (hb : b < 256) (hm : m < 256) (h : b &&& m = v) : bits .and .u8 (b : Int) (m : Int) = (v : Int) := by
  rw [u8_and_nat b m hb hm, h]
theorem masks2 {b x : Nat} (hb : b = 192 + x) (hx : x < 32) : b < 256 ∧ ¬ b < 128 ∧ bits .and .u8 (b : Int) 224 = 192 ∧ bits .and .u8 (b : Int) 31 = (x : Int) := by
  have h := mask_two ⟨x, hx⟩
  subst hb
  exact ⟨by omega, by omega, and_lit _ 224 192 (by omega) (by omega) h.1, and_lit _ 31 x (by omega) (by omega) h.2⟩
theorem masks3 {b x : Nat} (hb : b = 224 + x) (hx : x < 16) : b < 256 ∧ ¬ b < 128 ∧ bits .and .u8 (b : Int) 224 = 224 ∧ bits .and .u8 (b : Int) 240 = 224 ∧ bits .and .u8 (b : Int) 15 = (x : Int) := by
  have h := mask_three ⟨x, hx⟩
  subst hb
  exact ⟨by omega, by omega, and_lit _ 224 224 (by omega) (by omega) h.1, and_lit _ 240 224 (by omega) (by omega) h.2.1, and_lit _ 15 x (by omega) (by omega) h.2.2⟩
theorem masks4 {b x : Nat} (hb : b = 240 + x) (hx : x < 8) : b < 256 ∧ ¬ b < 128 ∧ bits .and .u8 (b : Int) 224 = 224 ∧ bits .and .u8 (b : Int) 240 = 240 ∧ bits .and .u8 (b : Int) 248 = 240 ∧ bits .and .u8 (b : Int) 7 = (x : Int) := by
  have h := mask_four ⟨x, hx⟩
  subst hb
  exact ⟨by omega, by omega, and_lit _ 224 224 (by omega) (by omega) h.1, and_lit _ 240 240 (by omega) (by omega) h.2.1, and_lit _ 248 240 (by omega) (by omega) h.2.2.1, and_lit _ 7 x (by omega) (by omega) h.2.2.2⟩
theorem masksN {b x : Nat} (hb : b = 128 + x) (hx : x < 64) : b < 256 ∧ bits .and .u8 (b : Int) 192 = 128 ∧ bits .and .u8 (b : Int) 63 = (x : Int) := by
  have h := mask_next ⟨x, hx⟩
  subst hb
  exact ⟨by omega, and_lit _ 192 128 (by omega) (by omega) h.1, and_lit _ 63 x (by omega) (by omega) h.2⟩

theorem step_div6 (c d : Nat) : c / 64 ^ (d + 1) * 64 + c / 64 ^ d % 64 = c / 64 ^ d := by
  rw [Nat.pow_succ, ← Nat.div_div_eq_div_mul]; omega
theorem or_add6 (p y : Nat) (hy : y < 64) : p * 64 ||| y = p * 64 + y := by
  have h := Nat.shiftLeft_add_eq_or_of_lt (i := 6) (b := y) (by omega) p
  rw [Nat.shiftLeft_eq] at h
  exact h.symm
/-- 'cp<<6 | uint32(c&0x3F)'. -/
theorem push_six (p y q : Nat) (hy : y < 64) (hq : p * 64 + y = q) (hle : q ≤ 1114111) : bits .or .u32 ((p : Int) * 64) (y : Int) = (q : Int) := by
  rw [show (p : Int) * 64 = ((p * 64 : Nat) : Int) from by omega, u32_or_nat _ _ (by omega) (by omega), or_add6 _ _ hy, hq]

/-! ### The bytes made -/
theorem be_cut (n c j : Nat) (hj : j < n) : (be n c).take (j + 1) = (be n c).take j ++ [c / 256 ^ (n - 1 - j) % 256] := by
  have hl : j < (be n c).length := by rw [be_length]; exact hj
  rw [List.take_succ_eq_append_getElem hl, be_get]
end Go.Proofs.Qxb6604437a.ucs

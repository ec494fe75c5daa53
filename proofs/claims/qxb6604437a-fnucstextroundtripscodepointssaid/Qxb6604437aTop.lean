import Derived.Test.Qxb6604437aText
import Derived.Deep.OwnRows
import Derived.WalkSmall
namespace Go.Proofs.Qxb6604437a.ucs
open Go.ChangeShapes Go.WideShapes Go.ChangeAt Go.RowKit

def BoolPost (e : Ending) : Prop := ∃ b, e = .returned (.bool b)

set_option maxHeartbeats 2000000 in
theorem zz4_any (a : Option Addr) (n cap : Nat) (hn : n ≤ 9223372036854775807) (x : Value) (w : World) :
    Calls Try.prog 4 #[.slice a n cap, x] w fun e w' => BoolPost e ∧ w' = w := by
  by_cases h : (1048576 : Int) < (n : Int)
  · go_enter Try.func4, Try.ntmps4
    go_wp2
    go_ret
    exact ⟨⟨_, rfl⟩, rfl⟩
  · go_enter Try.func4, Try.ntmps4
    go_wp2
    go_ret
    exact ⟨⟨_, rfl⟩, rfl⟩

set_option maxHeartbeats 2000000 in
theorem ztext_any (cps : List Nat) (size n N : Nat) (hs1 : 1 ≤ size) (hs4 : size ≤ 4) (hn : cps.length = n) (h16 : n ≤ 65536) (hN : n * size = N) (hsc : ∀ c ∈ cps, Scalar c) (hfit : ∀ c ∈ cps, c < 256 ^ size)
    (a : Option Addr) (cap : Nat) (hcap : N ≤ cap) (w : World) (hrow : RowAt .u8 w a (cps.flatMap (be size))) :
    Calls Try.prog 6 #[.slice a N cap, .int .i64 (size : Int)] w fun e w' => TextPost cps w e w' := by
  have h7 := text_any cps size n N hs1 hs4 hn h16 hN hsc hfit a cap hcap w hrow
  clear hN hn hsc hfit hrow
  go_enter Try.func6, Try.ntmps6
  go_wp2_with fail
  refine h7.mono ?_
  clear h7
  rintro e w1 ⟨rfl, hb⟩
  have HB : Hid (Below w.heap.size w w1) := hb
  clear hb
  go_wp2
  go_ret2
  exact ⟨rfl, HB.out⟩

theorem q22e (w : World) (a : Option Addr) (n c n' c' : Nat) : (binOp .eql 22 (.slice a n c) (.slice none n' c')).run Try.prog w = .ok (.bool a.isNone) w := Lib.run_eql_slice_nil w _ _ a n c n' c' Try.underlying22
theorem info24 : (Try.prog.info? 24).map (fun i => (i.zero, i.size, i.bytes)) = some (some (.int .u32 0), 1, 4) := by kernel_rfl

/-- After k numbers copied. -/
def CopyRel (n : Nat) (zs : List Nat) (w : World) (k : Nat) (wr : World) : Prop :=
  Below w.heap.size w wr ∧ ∃ f, wr.rowIs w.heap.size 24 n f ∧ ∀ j (h : j < zs.length), j < k → f j = .int .u32 ((zs[j] : Nat) : Int)
def CopyPost (n : Nat) (zs : List Nat) (w : World) (e : Ending) (w' : World) : Prop :=
  ∃ a c, e = .returned (.slice a n c) ∧ RowAt .u32 w' a zs ∧ Below w.heap.size w w'

set_option maxHeartbeats 2000000 in
theorem copy_any (zs : List Nat) (n : Nat) (hn : zs.length = n) (h16 : n ≤ 65536) (a : Option Addr) (cap : Nat) (hnil : a = none → n = 0) (w : World) (hrow : RowAt .u32 w a zs) :
    Calls Try.prog 5 #[.slice a n cap] w fun e w' => CopyPost n zs w e w' := by
  have HN : Hid (zs.length = n) := hn
  have HR : Hid (RowAt .u32 w a zs) := hrow
  clear hn hrow
  cases a with
  | none =>
    have h0 : n = 0 := hnil rfl
    clear hnil
    subst h0
    have hq := q22e w none 0 cap 0 0
    go_enter Try.func5, Try.ntmps5
    go_wp2
    go_ret
    refine ⟨_, _, rfl, ?_, Below.refl _ _⟩
    intro i hi
    have := HN.out
    omega
  | some ad =>
    clear hnil
    have hq := q22e w (some ad) n cap 0 0
    have hmk := run_make_row' (P := Try.prog) 22 24 (.int .u32 0) 4 Try.underlying22 info24 rfl .i64 .i64 n (by omega) (by omega)
    have HS : Hid (CopyRel n zs w 0 (w.alloc (.cells (madeCells #[.int .u32 0] n) 24))) := ⟨(Below.refl _ _).alloc (Nat.le_refl _) _, _, World.rowIs_made _ _ _ _, fun _ _ hj => by omega⟩
    go_enter Try.func5, Try.ntmps5
    go_wp2
    clear hmk
    go_loopw [4] (fun i wr => ∃ k : Nat, k ≤ n ∧ i = .int .i64 k ∧ CopyRel n zs w k wr) (fun i _ => n - (intOf i).toNat)
    case atStart => exact ⟨0, Nat.zero_le _, rfl, HS.out⟩
    case round =>
      clear HS
      obtain ⟨k, hk, rfl, hb, f, hF, hf⟩ := hrel
      have HB : Hid (Below w.heap.size w wr) := hb
      have HFF : Hid (∀ j (h : j < zs.length), j < k → f j = .int .u32 ((zs[j] : Nat) : Int)) := hf
      clear hb hf
      by_cases hlt : k < n
      · have hk' : k < zs.length := by have := HN.out; omega
        obtain ⟨b, off, hab, hc⟩ := HR.out k hk'
        obtain rfl : ad = ⟨b, off, none⟩ := by simpa using hab
        have hc2 := keep_cell HB.out hc
        have hc3 := hF.cell hlt
        have hfz := hF.frozen k
        have HX : Hid (CopyRel n zs w (k + 1) (wr.setCell ⟨w.heap.size, k, none⟩ (.int .u32 ((zs[k] : Nat) : Int)))) := by
          refine ⟨HB.out.setCell (Nat.le_refl _) _, _, hF.set k _, ?_⟩
          intro j hj hjk
          by_cases e : j = k
          · subst e; simp
          · rw [if_neg e]; exact HFF.out j hj (by omega)
        clear hab hc hF
        go_wp2
        go_roundw
        case rel => exact ⟨k + 1, by omega, by go_num, HX.out⟩
        case measure => simp [intOf]; omega
      · have HX : Hid (RowAt .u32 wr (some ⟨w.heap.size, 0, none⟩) zs) := by
          intro i hi
          refine ⟨_, _, rfl, ?_⟩
          have := HN.out
          rw [Nat.zero_add, hF.cell (by omega), HFF.out i hi (by omega)]
        clear hF
        go_wp2
        go_ret
        exact ⟨_, _, rfl, HX.out, HB.out⟩
end Go.Proofs.Qxb6604437a.ucs

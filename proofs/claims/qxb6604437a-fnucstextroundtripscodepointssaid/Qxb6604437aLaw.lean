import Derived.Test.Qxb6604437aTop
import Derived.Test.Qxb6604437aDec
import Derived.Deep.DeepCutAuto
import Derived.Laws.MakeOwn
namespace Go.Proofs.Qxb6604437a.ucs
open Go.ChangeShapes Go.WideShapes Go.ChangeAt Go.RowKit

def Good (size : Nat) (zs : List Nat) (k : Nat) : Prop := ∀ j (h : j < zs.length), j < k → Scalar zs[j] ∧ zs[j] < 256 ^ size
def LawPost (w : World) (e : Ending) (w' : World) : Prop := e = .returned (.bool true) ∧ Below w.heap.size w w'

theorem good_more {size : Nat} {zs : List Nat} {k c : Nat} (hk : k < zs.length) (h : Good size zs k) (hc : zs[k] = c) (h1 : Scalar c) (h2 : c < 256 ^ size) : Good size zs (k + 1) := by
  intro j hj hjk
  by_cases e : j = k
  · subst e; rw [hc]; exact ⟨h1, h2⟩
  · exact h j hj (by omega)
theorem lim_lt {size : Nat} {c : Nat} (hs : size ≤ 4) (h : ¬ IntKind.u64.wrap (2 ^ (8 * size)) ≤ (c : Int)) : c < 256 ^ size := by
  rcases (by omega : size = 0 ∨ size = 1 ∨ size = 2 ∨ size = 3 ∨ size = 4) with rfl | rfl | rfl | rfl | rfl <;>
  · rw [IntKind.wrap_u64] at h
    simp at h ⊢
    omega
theorem info5 : (Try.prog.info? 5).map (fun i => (i.zero, i.size, i.bytes)) = some (some (.int .u8 0), 1, 1) := by kernel_rfl
theorem info_parts {P : Program} {e : TypeId} {z : Value} {s b : Nat} (h : (P.info? e).map (fun i => (i.zero, i.size, i.bytes)) = some (some z, s, b)) : ∃ i, P.info? e = some i ∧ i.zero = some z ∧ i.size = s ∧ i.bytes = b := by
  obtain ⟨i, hi, he⟩ := Option.map_eq_some_iff.1 h
  simp only [Prod.mk.injEq] at he
  exact ⟨i, hi, he.1, he.2.1, he.2.2⟩
def vals (bs : List Nat) : List Value := bs.map fun b : Nat => .int .u8 (b : Int)
/-- The row of bytes that the call itself has made, so far. -/
def OwnB (w : World) (v : Value) (bs : List Nat) (wr : World) : Prop := Below w.heap.size w wr ∧ wr.ownsRow w.heap.size 5 1 v bs.length (vals bs)
theorem own_start (w : World) (i : TypeInfo) (hi : Try.prog.info? 5 = some i) (hz : i.zero = some (.int .u8 0)) (hs : i.size = 1) (hb : i.bytes = 1) (N : Nat) (hN : N ≤ 1000000) :
    ∃ w', (Instr.makeSlice 28 (.int .i64 0) (.int .i64 (N : Int))).run Try.prog w = .ok (.slice (some ⟨w.heap.size, 0, none⟩) 0 N) w' ∧ OwnB w (.slice (some ⟨w.heap.size, 0, none⟩) 0 N) [] w' := by
  obtain ⟨w', h1, h2, h3⟩ := run_make_own (P := Try.prog) w w.heap.size 28 5 i (.int .u8 0) 1 Try.underlying28 hi hz hs .i64 .i64 N (by rw [hb]; omega) (by unfold maxLen; omega) (Nat.le_refl _)
  exact ⟨w', h1, (Below.refl _ _).grown h3 (Nat.le_refl _) (fun _ h => by cases h), h2⟩
theorem byte_shift (c d : Nat) : (c : Int) / 2 ^ (8 * d) % 256 = ((c / 256 ^ d % 256 : Nat) : Int) := by
  have e : (2 : Int) ^ (8 * d) = ((256 ^ d : Nat) : Int) := by
    rw [Int.pow_mul]; simp
  rw [e]; simp
theorem one_at (w : World) (v : Value) (t : TypeId) : ∀ j u, [v][j]? = some u → (w.alloc (.cells #[v] t)).cell? ((⟨w.heap.size, 0, none⟩ : Addr).add j) = some u := by
  intro j u h
  cases j with
  | zero =>
    simp at h
    subst h
    rw [Addr.add_lit]
    rw [Nat.add_zero, World.cell?_alloc_at #[v] t _ 0 rfl]; rfl
  | succ j => simp at h
theorem one_one (y : Nat) : ∀ u ∈ [Value.int .u8 (y : Int)], u.oneCell' = true := by
  intro u hu
  simp at hu
  subst hu
  rfl
theorem app_step {w wr w3 : World} {v v' : Value} {bs : List Nat} {y : Nat} {o : Obj} (h : OwnB w v bs wr) (hsz : w.heap.size ≤ wr.heap.size) (how : w3.ownsRow w.heap.size 5 1 v' (bs.length + 1) (vals bs ++ [.int .u8 (y : Int)])) (hg : (wr.alloc o).grownBy w3 v.ownBlock) : OwnB w v' (bs ++ [y]) w3 := by
  refine ⟨Below.grown (h.1.alloc hsz _) hg (by simp; omega) (fun j hj => (h.2.lt j hj).1), ?_⟩
  rw [List.length_append]
  simpa [vals] using how
theorem own_row {w wr : World} {v : Value} {bs : List Nat} (h : OwnB w v bs wr) : ∃ a c, v = .slice a bs.length c ∧ bs.length ≤ c ∧ RowAt .u8 wr a bs := by
  rcases h.2.2 with ⟨hv, h0⟩ | ⟨g, cap, cur, hv, _, hg, hle, _, hcs, htk⟩
  · refine ⟨none, 0, by rw [hv, h0], by omega, fun i hi => by omega⟩
  · refine ⟨_, _, hv, hle, fun i hi => ⟨g, 0, rfl, ?_⟩⟩
    rw [Lib.cell_of_heap hg, Nat.zero_add]
    have h1 : (cur.toList.take (bs.length * 1))[i]? = (vals bs)[i]? := by rw [htk]
    rw [List.getElem?_take_of_lt (by omega)] at h1
    rw [← Array.getElem?_toList, h1]
    simp [vals, hi]
theorem good_all {size : Nat} {zs : List Nat} {n : Nat} (hn : zs.length = n) (h : Good size zs n) : ∀ c ∈ zs, Scalar c ∧ c < 256 ^ size := by
  intro c hc
  obtain ⟨i, hi, rfl⟩ := List.getElem_of_mem hc
  exact h i hi (by omega)
theorem get_all (zs : List Nat) : ∀ k (hk : k < zs.length) j, j < (enc zs[k]).length → ∃ h : pos zs k + j < (ByteArray.mk (encs zs).toArray).size, ((ByteArray.mk (encs zs).toArray)[pos zs k + j]'h).toNat = byt zs[k] j := by
  intro k hk j hj
  have h : pos zs k + j < (ByteArray.mk (encs zs).toArray).size := by
    show _ < (encs zs).toArray.size
    have := pos_le hk
    simp
    omega
  exact ⟨h, str_get hk hj h⟩
theorem pos_all (zs : List Nat) (n : Nat) (hn : zs.length = n) : pos zs n = (ByteArray.mk (encs zs).toArray).size := by
  show _ = (encs zs).toArray.size
  rw [← hn, pos_end]; simp
theorem pos_fit (zs : List Nat) : ∀ k (hk : k < zs.length), pos zs k + (enc zs[k]).length ≤ (ByteArray.mk (encs zs).toArray).size := by
  intro k hk
  show _ ≤ (encs zs).toArray.size
  simpa using pos_le hk
set_option maxHeartbeats 4000000 in
set_option maxRecDepth 8000 in
theorem law_any (zs : List Nat) (n : Nat) (hn : zs.length = n) (h63 : n ≤ 9223372036854775807) (a : Option Addr) (cap : Nat) (hnil : a = none → n = 0) (s1 : Int) (w : World) (hrow : RowAt .u32 w a zs) (h32 : ∀ z ∈ zs, z < 4294967296) :
    Calls Try.prog 3 #[.slice a n cap, .int .i64 s1] w fun e w' => LawPost w e w' := by
  have HN : Hid (zs.length = n) := hn
  have HNIL : Hid (a = none → n = 0) := hnil
  have HR : Hid (RowAt .u32 w a zs) := hrow
  have H32 : Hid (∀ z ∈ zs, z < 4294967296) := h32
  clear hn hnil hrow h32
  have hz4 := zz4_any a n cap h63 (.int .i64 s1) w
  go_enter Try.func3, Try.ntmps3
  go_wp2_with fail
  refine hz4.mono ?_
  clear hz4
  rintro e w1 ⟨⟨b, rfl⟩, rfl⟩
  cases b
  · go_wp2
    go_ret
    exact ⟨rfl, Below.refl _ _⟩
  by_cases g0 : 65536 < n
  · go_wp2
    go_ret
    exact ⟨rfl, Below.refl _ _⟩
  by_cases g1 : s1 < 1
  · go_wp2
    go_ret
    exact ⟨rfl, Below.refl _ _⟩
  by_cases g2 : 4 < s1
  · go_wp2
    go_ret
    exact ⟨rfl, Below.refl _ _⟩
  obtain ⟨size, rfl⟩ : ∃ m : Nat, s1 = (m : Int) := ⟨s1.toNat, by omega⟩
  have hs1 : 1 ≤ size := by omega
  have hs4 : size ≤ 4 := by omega
  have h16 : n ≤ 65536 := by omega
  go_wp2
  go_loop [5] (fun i => ∃ k : Nat, k ≤ n ∧ i = .int .i64 k ∧ Good size zs k) (fun i => n - (intOf i).toNat)
  case atStart => exact ⟨0, Nat.zero_le _, rfl, fun _ _ h => by omega⟩
  case round =>
    obtain ⟨k, hk, rfl, hg⟩ := hrel
    have HG : Hid (Good size zs k) := hg
    clear hg
    by_cases hlt : k < n
    · have hk' : k < zs.length := by have := HN.out; omega
      obtain ⟨bb, off, rfl, hc⟩ := HR.out k hk'
      obtain ⟨c, hcc⟩ : ∃ x, zs[k] = x := ⟨_, rfl⟩
      have HC : Hid (zs[k] = c) := hcc
      have hc32 : c < 4294967296 := by rw [← hcc]; exact H32.out _ (List.getElem_mem hk')
      rw [hcc] at hc
      clear hcc
      by_cases t1 : (1114111 : Int) < (c : Int)
      · go_wp2
        go_ret
        exact ⟨rfl, Below.refl _ _⟩
      by_cases t2 : (55296 : Int) ≤ (c : Int)
      · by_cases t3 : (c : Int) ≤ 57343
        · go_wp2
          go_ret
          exact ⟨rfl, Below.refl _ _⟩
        · by_cases t4 : IntKind.u64.wrap (2 ^ (8 * size)) ≤ (c : Int)
          · go_wp2
            go_ret
            exact ⟨rfl, Below.refl _ _⟩
          · have HX : Hid (Good size zs (k + 1)) := good_more hk' HG.out HC.out (by unfold Scalar; omega) (lim_lt hs4 t4)
            go_wp2
            go_round
            case rel => exact ⟨k + 1, by omega, by go_num, HX.out⟩
            case measure => simp [intOf]; omega
      · by_cases t4 : IntKind.u64.wrap (2 ^ (8 * size)) ≤ (c : Int)
        · go_wp2
          go_ret
          exact ⟨rfl, Below.refl _ _⟩
        · have HX : Hid (Good size zs (k + 1)) := good_more hk' HG.out HC.out (by unfold Scalar; omega) (lim_lt hs4 t4)
          go_wp2
          go_round
          case rel => exact ⟨k + 1, by omega, by go_num, HX.out⟩
          case measure => simp [intOf]; omega
    · have HALL : Hid (Good size zs n) := by
        obtain rfl : k = n := by omega
        exact HG.out
      clear HG
      have hcp := copy_any zs n HN.out h16 a cap HNIL.out w1 HR.out
      clear HR HNIL
      go_wp2_with fail
      refine hcp.mono ?_
      clear hcp
      rintro e w2 ⟨a2, cap2, rfl, hr2, hb2⟩
      have HR : Hid (RowAt .u32 w2 a2 zs) := hr2
      have HB : Hid (Below w1.heap.size w1 w2) := hb2
      clear hr2 hb2
      obtain ⟨N, hN⟩ : ∃ x, n * size = x := ⟨_, rfl⟩
      have HNN : Hid (n * size = N) := hN
      have hNI : (n : Int) * (size : Int) = (N : Int) := by rw [← hN]; simp
      have hN18 : N ≤ 262144 := by rw [← hN]; exact Nat.mul_le_mul h16 hs4
      clear hN
      obtain ⟨i0, hi, hz0, hz1, hz2⟩ := info_parts info5
      obtain ⟨w3, hmk, hw3⟩ := own_start w2 i0 hi hz0 hz1 hz2 N (by omega)
      have HS : Hid (OwnB w2 (.slice (some ⟨w2.heap.size, 0, none⟩) 0 N) [] w3) := hw3
      clear hw3
      go_wp2
      clear hmk
      go_loopw [7, 8] (fun s i wr => ∃ (k : Nat) (v : Value), k ≤ n ∧ i = .int .i64 k ∧ v = s ∧ OwnB w2 v ((zs.take k).flatMap (be size)) wr) (fun _ i _ => n - (intOf i).toNat)
      case atStart => exact ⟨0, _, Nat.zero_le _, rfl, rfl, HS.out⟩
      case round =>
        clear HS
        obtain ⟨q, v, hq, rfl, rfl, hrl⟩ := hrel
        have HO : Hid (OwnB w2 v ((zs.take q).flatMap (be size)) wr) := hrl
        clear hrl
        by_cases hlt2 : q < n
        · have hq' : q < zs.length := by have := HN.out; omega
          obtain ⟨wa, hwa⟩ : ∃ x, wr = x := ⟨_, rfl⟩
          subst hwa
          obtain ⟨c, hcc⟩ : ∃ x, zs[q] = x := ⟨_, rfl⟩
          have HC : Hid (zs[q] = c) := hcc
          have hc32 : c < 4294967296 := by rw [← hcc]; exact H32.out _ (List.getElem_mem hq')
          obtain ⟨bb, off, rfl, hcell⟩ := HR.out q hq'
          rw [hcc] at hcell
          have HCELL : Hid (w2.cell? ⟨bb, off + q, none⟩ = some (.int .u32 (c : Int))) := hcell
          clear hcc hcell
          go_wp2
          go_loopw [7, 9] (fun s j wy => ∃ (t d : Nat) (v : Value), t + d = size ∧ j = .int .i64 ((d : Int) - 1) ∧ v = s ∧ OwnB w2 v ((zs.take q).flatMap (be size) ++ (be size c).take t) wy) (fun _ j _ => (intOf j + 1).toNat)
          case atStart => exact ⟨0, size, v, by omega, by go_num, rfl, by simpa using HO.out⟩
          case round =>
            clear HO
            obtain ⟨t, d, v, htd, rfl, rfl, hrl⟩ := hrel
            have HO : Hid (OwnB w2 v ((zs.take q).flatMap (be size) ++ (be size c).take t) wr) := hrl
            clear hrl
            cases d with
            | zero =>
              have HX : Hid (OwnB w2 v ((zs.take (q + 1)).flatMap (be size)) wr) := by
                show OwnB _ _ _ _
                have h := HO.out
                rw [List.take_of_length_le (l := be size c) (by rw [be_length]; omega)] at h
                rw [List.take_succ_eq_append_getElem hq', List.flatMap_append, HC.out]
                simpa using h
              clear HO
              go_wp2
              go_roundw
              case rel => exact ⟨q + 1, _, by omega, by go_num, rfl, HX.out⟩
              case measure => simp [intOf]; omega
            | succ d =>
              have hcell := keep_cell HO.out.1 HCELL.out
              obtain ⟨y, hy⟩ : ∃ y, c / 256 ^ d % 256 = y := ⟨_, rfl⟩
              have hyI : (c : Int) / 2 ^ (8 * d) % 256 = (y : Int) := by rw [← hy]; exact byte_shift c d
              have HY : Hid (c / 256 ^ d % 256 = y) := hy
              have HLEN : Hid (((zs.take q).flatMap (be size) ++ (be size c).take t).length < 262144) := by
                show _ < _
                rw [List.length_append, flat_len, List.length_take, List.length_take, be_length]
                have h1 : min q zs.length = q := by omega
                have h2 : min t size < size := by omega
                have h3 : q * size + size ≤ n * size := by rw [← Nat.succ_mul]; exact Nat.mul_le_mul_right _ hlt2
                have h4 := HNN.out
                rw [h1]; omega
              clear hy
              have hsz : w2.heap.size ≤ wr.heap.size := HO.out.1.size
              go_wp2_with (first
                | (at_builtin; refine wpList_append_own _ rfl _ _ 28 rfl w2.heap.size 5 i0 (.int .u8 0) 1 1 Try.underlying28 hi hz0 hz1 hz2 rfl (by decide) _ _ _ rfl (HO.out.2.alloc _) ⟨wr.heap.size, 0, none⟩ 1 1 [.int .u8 (y : Int)] rfl rfl (one_at _ _ 5) (one_one y) (by have := HLEN.out; unfold maxLen; omega) (by have := HLEN.out; omega) (by simp; omega) ?_; intro v' w5 hown' hgrow5 hnil5
                   have X : Hid (OwnB w2 v' (((zs.take q).flatMap (be size) ++ (be size c).take t) ++ [y]) w5) := app_step HO.out hsz hown' hgrow5
                   clear hown' hgrow5 hnil5))
              go_roundw
              case rel =>
                refine ⟨t + 1, d, _, by omega, by go_num, rfl, ?_⟩
                have h := X.out
                rw [List.append_assoc, ← HY.out] at h
                rw [be_cut size c t (by omega), show size - 1 - t = d from by omega]
                exact h
              case measure => simp [intOf]
        · obtain ⟨a4, cap4, hv, hcap4, hrow4⟩ := own_row HO.out
          obtain rfl : q = n := by omega
          rw [List.take_of_length_le (by rw [HN.out]; exact Nat.le_refl _), flat_len, HN.out, HNN.out] at hv hcap4
          rw [List.take_of_length_le (by rw [HN.out]; exact Nat.le_refl _)] at hrow4
          subst hv
          have hz := ztext_any zs size q N hs1 hs4 HN.out h16 HNN.out (fun c hc => (good_all HN.out HALL.out c hc).1) (fun c hc => (good_all HN.out HALL.out c hc).2) a4 cap4 hcap4 wr hrow4
          have HB1 : Hid (Below w2.heap.size w2 wr) := HO.out.1
          clear HO hcap4 hrow4 hi hz0 hz1 hz2 HNN hNI
          go_wp2_with fail
          refine hz.mono ?_
          clear hz
          rintro e w6 ⟨rfl, hb6⟩
          have HB6 : Hid (Below w2.heap.size w2 w6) := HB1.out.trans (hb6.mono HB1.out.size)
          have HR6 : Hid (RowAt .u32 w6 a2 zs) := HR.out.keep HB6.out
          have HBF : Hid (Below w1.heap.size w1 w6) := HB.out.trans (HB6.out.mono HB.out.size)
          clear hb6 HB1 HB6 HR HB
          obtain ⟨S, hS⟩ : ∃ S, (ByteArray.mk (zs.flatMap fun x : Nat => Lib.encodeRune (x : Int)).toArray) = S := ⟨_, rfl⟩
          obtain ⟨L, hL⟩ : ∃ L, S.size = L := ⟨_, rfl⟩
          rw [hS]
          have HGET : Hid (∀ k (hk : k < zs.length) j, j < (enc zs[k]).length → ∃ h : pos zs k + j < S.size, (S[pos zs k + j]'h).toNat = byt zs[k] j) := by rw [← hS]; exact get_all zs
          have HPE : Hid (pos zs q = L) := by rw [← hL, ← hS]; exact pos_all zs q HN.out
          have HPL : Hid (∀ k (hk : k < zs.length), pos zs k + (enc zs[k]).length ≤ L) := by rw [← hL, ← hS]; exact pos_fit zs
          have hL18 : L ≤ 262144 := by
            have := encs_le zs
            rw [← pos_end, HN.out, HPE.out] at this
            omega
          clear hS
          go_wp2
          go_loop [12, 13] (fun kk ii => ∃ k p : Nat, k ≤ q ∧ kk = .int .i64 k ∧ ii = .int .i64 p ∧ pos zs k = p) (fun kk _ => q - (intOf kk).toNat)
          case atStart => exact ⟨0, 0, Nat.zero_le _, rfl, rfl, pos_zero zs⟩
          case round =>
            obtain ⟨k2, p, hk2, rfl, rfl, hp⟩ := hrel
            have HP : Hid (pos zs k2 = p) := hp
            clear hp
            by_cases hlt3 : k2 < q
            · have hk3 : k2 < zs.length := by have := HN.out; omega
              obtain ⟨c, hcc⟩ : ∃ x, zs[k2] = x := ⟨_, rfl⟩
              obtain ⟨bb, off, rfl, hcell⟩ := HR6.out k2 hk3
              rw [hcc] at hcell
              have hsc : Scalar c := by rw [← hcc]; exact (HALL.out k2 hk3 hlt3).1
              have hcle : c ≤ 1114111 := by unfold Scalar at hsc; omega
              obtain ⟨m, hm, hm1, hm4, hlead, hrest⟩ := enc_says hsc
              have HNX : Hid (pos zs (k2 + 1) = p + m) := by show _ = _; rw [pos_succ hk3, hcc, hm, HP.out]
              have hpm : p + m ≤ L := by have := HPL.out k2 hk3; rw [hcc, hm, HP.out] at this; exact this
              have HB0 : Hid (∀ j, j < m → ∃ h : p + j < S.size, (S[p + j]'h).toNat = byt c j) := by
                intro j hj
                have := HGET.out k2 hk3 j (by rw [hcc, hm]; exact hj)
                rw [hcc] at this
                have e := HP.out
                subst e
                exact this
              have HREST : Hid (∀ j, 1 ≤ j → j < m → byt c j = 128 + c / 64 ^ (m - 1 - j) % 64) := hrest
              obtain ⟨hp0, hb0⟩ := HB0.out 0 (by omega)
              have hpS : p < S.size := by omega
              have hpI : (p : Int) < (L : Int) := by omega
              obtain ⟨b, hb⟩ : ∃ b, byt c 0 = b := ⟨_, rfl⟩
              rw [hb] at hlead
              have hSb : (S[p]'hpS).toNat = b := by rw [← hb, ← hb0]; rfl
              clear hcc hsc hm hrest hb hb0 hp0
              obtain ⟨x, hx⟩ : ∃ x, c / 64 ^ (m - 1) = x := ⟨_, rfl⟩
              rw [hx] at hlead
              have HX : Hid (c / 64 ^ (m - 1) = x) := hx
              clear hx
              rcases hlead with ⟨rfl, hbx, hxl⟩ | ⟨rfl, hbx, hxl⟩ | ⟨rfl, hbx, hxl⟩ | ⟨rfl, hbx, hxl⟩
              · subst hbx
                go_wp2
                go_loop [15, 17] (fun r j => ∃ t y : Nat, 1 ≤ t ∧ t ≤ 1 ∧ j = .int .i64 t ∧ r = .int .u32 (y : Int) ∧ c / 64 ^ (1 - t) = y) (fun _ j => 1 - (intOf j).toNat)
                case atStart => exact ⟨1, _, Nat.le_refl _, by omega, rfl, rfl, HX.out⟩
                case round =>
                  obtain ⟨t, y, ht1, htM, rfl, rfl, hy⟩ := hrel
                  have HY : Hid (c / 64 ^ (1 - t) = y) := hy
                  clear hy
                  by_cases htl : t < 1
                  · omega
                  · obtain rfl : t = 1 := by omega
                    obtain rfl : y = c := by have := HY.out; simpa using this.symm
                    go_wp2
                    go_round
                    case rel => exact ⟨k2 + 1, p + 1, by omega, by go_num, by go_num, HNX.out⟩
                    case measure => simp [intOf]; omega
              · obtain ⟨hm0, hm1', hm2', hm3'⟩ := masks2 hbx hxl
                clear hbx
                go_wp2
                go_loop [15, 17] (fun r j => ∃ t y : Nat, 1 ≤ t ∧ t ≤ 2 ∧ j = .int .i64 t ∧ r = .int .u32 (y : Int) ∧ c / 64 ^ (2 - t) = y) (fun _ j => 2 - (intOf j).toNat)
                case atStart => exact ⟨1, _, Nat.le_refl _, by omega, rfl, rfl, HX.out⟩
                case round =>
                  obtain ⟨t, y, ht1, htM, rfl, rfl, hy⟩ := hrel
                  have HY : Hid (c / 64 ^ (2 - t) = y) := hy
                  clear hy
                  by_cases htl : t < 2
                  · obtain ⟨hpt, hbt⟩ := HB0.out t htl
                    rw [HREST.out t ht1 htl] at hbt
                    obtain ⟨z, hz⟩ : ∃ z, c / 64 ^ (2 - 1 - t) % 64 = z := ⟨_, rfl⟩
                    rw [hz] at hbt
                    have hz64 : z < 64 := by rw [← hz]; exact Nat.mod_lt _ (by decide)
                    obtain ⟨b2, hb2⟩ : ∃ b2, 128 + z = b2 := ⟨_, rfl⟩
                    rw [hb2] at hbt
                    obtain ⟨m0, m1, m2⟩ := masksN hb2.symm hz64
                    obtain ⟨y2, hy2⟩ : ∃ y2, c / 64 ^ (2 - 1 - t) = y2 := ⟨_, rfl⟩
                    have HY2 : Hid (c / 64 ^ (2 - (t + 1)) = y2) := by show _ = _; rw [← hy2]; congr 2; omega
                    have hyz : y * 64 + z = y2 := by
                      have h1 := step_div6 c (2 - 1 - t)
                      rw [show 2 - 1 - t + 1 = 2 - t from by omega, HY.out, hz, hy2] at h1
                      exact h1
                    have hy2l : y2 ≤ 1114111 := by rw [← hy2]; exact Nat.le_trans (Nat.div_le_self _ _) hcle
                    have hor := push_six y z y2 hz64 hyz hy2l
                    have hptS : p + t < L := by omega
                    clear hz hb2 hy2
                    go_wp2
                    go_round
                    case rel => exact ⟨t + 1, y2, by omega, by omega, by go_num, rfl, HY2.out⟩
                    case measure => simp [intOf]; omega
                  · obtain rfl : t = 2 := by omega
                    obtain rfl : y = c := by have := HY.out; simpa using this.symm
                    go_wp2
                    go_round
                    case rel => exact ⟨k2 + 1, p + 2, by omega, by go_num, by go_num, HNX.out⟩
                    case measure => simp [intOf]; omega
              · obtain ⟨hm0, hm1', hm2', hm3', hm4'⟩ := masks3 hbx hxl
                clear hbx
                go_wp2
                go_loop [15, 17] (fun r j => ∃ t y : Nat, 1 ≤ t ∧ t ≤ 3 ∧ j = .int .i64 t ∧ r = .int .u32 (y : Int) ∧ c / 64 ^ (3 - t) = y) (fun _ j => 3 - (intOf j).toNat)
                case atStart => exact ⟨1, _, Nat.le_refl _, by omega, rfl, rfl, HX.out⟩
                case round =>
                  obtain ⟨t, y, ht1, htM, rfl, rfl, hy⟩ := hrel
                  have HY : Hid (c / 64 ^ (3 - t) = y) := hy
                  clear hy
                  by_cases htl : t < 3
                  · obtain ⟨hpt, hbt⟩ := HB0.out t htl
                    rw [HREST.out t ht1 htl] at hbt
                    obtain ⟨z, hz⟩ : ∃ z, c / 64 ^ (3 - 1 - t) % 64 = z := ⟨_, rfl⟩
                    rw [hz] at hbt
                    have hz64 : z < 64 := by rw [← hz]; exact Nat.mod_lt _ (by decide)
                    obtain ⟨b2, hb2⟩ : ∃ b2, 128 + z = b2 := ⟨_, rfl⟩
                    rw [hb2] at hbt
                    obtain ⟨m0, m1, m2⟩ := masksN hb2.symm hz64
                    obtain ⟨y2, hy2⟩ : ∃ y2, c / 64 ^ (3 - 1 - t) = y2 := ⟨_, rfl⟩
                    have HY2 : Hid (c / 64 ^ (3 - (t + 1)) = y2) := by show _ = _; rw [← hy2]; congr 2; omega
                    have hyz : y * 64 + z = y2 := by
                      have h1 := step_div6 c (3 - 1 - t)
                      rw [show 3 - 1 - t + 1 = 3 - t from by omega, HY.out, hz, hy2] at h1
                      exact h1
                    have hy2l : y2 ≤ 1114111 := by rw [← hy2]; exact Nat.le_trans (Nat.div_le_self _ _) hcle
                    have hor := push_six y z y2 hz64 hyz hy2l
                    have hptS : p + t < L := by omega
                    clear hz hb2 hy2
                    go_wp2
                    go_round
                    case rel => exact ⟨t + 1, y2, by omega, by omega, by go_num, rfl, HY2.out⟩
                    case measure => simp [intOf]; omega
                  · obtain rfl : t = 3 := by omega
                    obtain rfl : y = c := by have := HY.out; simpa using this.symm
                    go_wp2
                    go_round
                    case rel => exact ⟨k2 + 1, p + 3, by omega, by go_num, by go_num, HNX.out⟩
                    case measure => simp [intOf]; omega
              · obtain ⟨hm0, hm1', hm2', hm3', hm4', hm5'⟩ := masks4 hbx hxl
                clear hbx
                go_wp2
                go_loop [15, 17] (fun r j => ∃ t y : Nat, 1 ≤ t ∧ t ≤ 4 ∧ j = .int .i64 t ∧ r = .int .u32 (y : Int) ∧ c / 64 ^ (4 - t) = y) (fun _ j => 4 - (intOf j).toNat)
                case atStart => exact ⟨1, _, Nat.le_refl _, by omega, rfl, rfl, HX.out⟩
                case round =>
                  obtain ⟨t, y, ht1, htM, rfl, rfl, hy⟩ := hrel
                  have HY : Hid (c / 64 ^ (4 - t) = y) := hy
                  clear hy
                  by_cases htl : t < 4
                  · obtain ⟨hpt, hbt⟩ := HB0.out t htl
                    rw [HREST.out t ht1 htl] at hbt
                    obtain ⟨z, hz⟩ : ∃ z, c / 64 ^ (4 - 1 - t) % 64 = z := ⟨_, rfl⟩
                    rw [hz] at hbt
                    have hz64 : z < 64 := by rw [← hz]; exact Nat.mod_lt _ (by decide)
                    obtain ⟨b2, hb2⟩ : ∃ b2, 128 + z = b2 := ⟨_, rfl⟩
                    rw [hb2] at hbt
                    obtain ⟨m0, m1, m2⟩ := masksN hb2.symm hz64
                    obtain ⟨y2, hy2⟩ : ∃ y2, c / 64 ^ (4 - 1 - t) = y2 := ⟨_, rfl⟩
                    have HY2 : Hid (c / 64 ^ (4 - (t + 1)) = y2) := by show _ = _; rw [← hy2]; congr 2; omega
                    have hyz : y * 64 + z = y2 := by
                      have h1 := step_div6 c (4 - 1 - t)
                      rw [show 4 - 1 - t + 1 = 4 - t from by omega, HY.out, hz, hy2] at h1
                      exact h1
                    have hy2l : y2 ≤ 1114111 := by rw [← hy2]; exact Nat.le_trans (Nat.div_le_self _ _) hcle
                    have hor := push_six y z y2 hz64 hyz hy2l
                    have hptS : p + t < L := by omega
                    clear hz hb2 hy2
                    go_wp2
                    go_round
                    case rel => exact ⟨t + 1, y2, by omega, by omega, by go_num, rfl, HY2.out⟩
                    case measure => simp [intOf]; omega
                  · obtain rfl : t = 4 := by omega
                    obtain rfl : y = c := by have := HY.out; simpa using this.symm
                    go_wp2
                    go_round
                    case rel => exact ⟨k2 + 1, p + 4, by omega, by go_num, by go_num, HNX.out⟩
                    case measure => simp [intOf]; omega
            · obtain rfl : k2 = q := by omega
              have hpL : p = L := HP.out.symm.trans HPE.out
              subst hpL
              go_wp2
              go_ret
              exact ⟨by simp, HBF.out⟩
end Go.Proofs.Qxb6604437a.ucs

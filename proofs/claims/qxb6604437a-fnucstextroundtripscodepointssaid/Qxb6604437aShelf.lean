import Derived.Shelf.Strings.Builder1
import Derived.Shelf.Small.Utf8
import Derived.Shelf.Strings.BuilderF
import Derived.Shelf.Strings.BuilderK
import Derived.Shelf.Strings.BuilderRune
import Derived.Shelf.Utf8.AppendRunePlain
import Derived.Shelf.Strings.BuilderCap
import Derived.Test.Qxb6604437aProg
namespace Go.Proofs
open Go.Shelf
def Try.lays169_ren : Go.Shelf.Ren := ⟨fun | 169 => 10 | n => n, fun | 70 => 31 | 9 => 9 | 0 => 0 | 72 => 33 | 37 => 28 | 127 => 41 | 3 => 3 | 5 => 5 | n => n, fun | n => n⟩
theorem Try.lays169 : Go.Proofs.Lays.n169 Try.prog Try.lays169_ren := {
  mixed := by kernel_rfl
  f169 := Try.func10.trans (congrArg some (by kernel_rfl))
  t0 := Try.underlying0
  a0 := Try.isAgg0
  z0 := Try.sizeOf0
  v0 := Try.zeroValue0
  t3 := Try.underlying3
  a3 := Try.isAgg3
  z3 := Try.sizeOf3
  v3 := Try.zeroValue3
  t9 := Try.underlying9
  a9 := Try.isAgg9
  z9 := Try.sizeOf9
  v9 := Try.zeroValue9
  t37 := Try.underlying28
  a37 := Try.isAgg28
  z37 := Try.sizeOf28
  v37 := Try.zeroValue28
  t70 := Try.underlying31
  a70 := Try.isAgg31
  z70 := Try.sizeOf31
  v70 := Try.zeroValue31
  t72 := Try.underlying33
  a72 := Try.isAgg33
  z72 := Try.sizeOf33
  v72 := Try.zeroValue33
  t127 := Try.underlying41
  a127 := Try.isAgg41
  z127 := Try.sizeOf41
  v127 := Try.zeroValue41 }
theorem Try.Builder_Extra_169 : Builder.Extra Try.prog Try.lays169_ren := {
  sizeBuilder := by kernel_rfl
  liesBuilder := by kernel_rfl
  t5 := Try.underlying5
  a5 := Try.isAgg5
  z5 := Try.sizeOf5
  v5 := Try.zeroValue5
  infoByte := by kernel_rfl
  cellsByte := by kernel_rfl
  sizeByte := by kernel_rfl
  neB5 := by decide }
open Go.RowKit in
theorem Try.Builder_String (B b : Nat) (l : List UInt8) (w : World) (h : Lib.IsBuilder 33 5 B b (Lib.byteCells l) w) (h0 : l ≠ []) :
    Calls Try.prog 10 #[.pointer (some ⟨b, 0, none⟩)] w fun e w' => e = .returned (.string ⟨l.toArray⟩) ∧ Below B w w' := Any.Builder_String Try.lays169 Try.Builder_Extra_169 B b l w h h0
open Go.RowKit in
theorem Try.Builder_String_empty (B b : Nat) (w : World) (h : Lib.IsBuilder 33 5 B b [] w) (hBw : B ≤ w.heap.size) :
    Calls Try.prog 10 #[.pointer (some ⟨b, 0, none⟩)] w fun e w' => e = .returned (.string ⟨#[]⟩) ∧ Below B w w' := Any.Builder_String_empty Try.lays169 Try.Builder_Extra_169 B b w h hBw
open Go.RowKit in
theorem Try.Builder_String_any (B b : Nat) (l : List UInt8) (w : World) (h : Lib.IsBuilder 33 5 B b (Lib.byteCells l) w) (hBw : B ≤ w.heap.size) :
    Calls Try.prog 10 #[.pointer (some ⟨b, 0, none⟩)] w fun e w' => e = .returned (.string ⟨l.toArray⟩) ∧ Below B w w' := Any.Builder_String_any Try.lays169 Try.Builder_Extra_169 B b l w h hBw
def Try.lays119_ren : Go.Shelf.Ren := ⟨fun | 119 => 8 | n => n, fun | 21 => 21 | 4 => 4 | n => n, fun | n => n⟩
theorem Try.lays119 : Go.Proofs.Lays.n119 Try.prog Try.lays119_ren := {
  mixed := by kernel_rfl
  f119 := Try.func8.trans (congrArg some (by kernel_rfl))
  t4 := Try.underlying4
  a4 := Try.isAgg4
  z4 := Try.sizeOf4
  v4 := Try.zeroValue4
  t21 := Try.underlying21
  a21 := Try.isAgg21
  z21 := Try.sizeOf21
  v21 := Try.zeroValue21 }
theorem Try.utf8_ValidRune (r : Int) (w : World) :
    Calls Try.prog 8 #[.int .i32 r] w fun e w' => e = .returned (.bool (Lib.validRune r)) ∧ w' = w := Any.utf8_ValidRune Try.lays119 r w
open Go.RowKit in
theorem Try.Builder_String_f (B b : Nat) (l : List UInt8) (w : World) (h : Lib.IsBuilderF 33 5 B b (Lib.byteCells l) w) (h0 : l ≠ []) :
    Calls Try.prog 10 #[.pointer (some ⟨b, 0, none⟩)] w fun e w' => e = .returned (.string ⟨l.toArray⟩) ∧ (Lib.IsBuilderF 33 5 B b (Lib.byteCells l) w' ∧ Below B w w') := Any.Builder_String_f Try.lays169 Try.Builder_Extra_169 B b l w h h0
open Go.RowKit in
theorem Try.Builder_String_empty_f (B b : Nat) (w : World) (h : Lib.IsBuilderF 33 5 B b [] w) (hBw : B ≤ w.heap.size) :
    Calls Try.prog 10 #[.pointer (some ⟨b, 0, none⟩)] w fun e w' => e = .returned (.string ⟨#[]⟩) ∧ (Lib.IsBuilderF 33 5 B b [] w' ∧ Below B w w') := Any.Builder_String_empty_f Try.lays169 Try.Builder_Extra_169 B b w h hBw
open Go.RowKit in
theorem Try.Builder_String_any_f (B b : Nat) (l : List UInt8) (w : World) (h : Lib.IsBuilderF 33 5 B b (Lib.byteCells l) w) (hBw : B ≤ w.heap.size) :
    Calls Try.prog 10 #[.pointer (some ⟨b, 0, none⟩)] w fun e w' => e = .returned (.string ⟨l.toArray⟩) ∧ (Lib.IsBuilderF 33 5 B b (Lib.byteCells l) w' ∧ Below B w w') := Any.Builder_String_any_f Try.lays169 Try.Builder_Extra_169 B b l w h hBw
open Go.RowKit in
theorem Try.Builder_String_k (B b : Nat) (l : List UInt8) (w : World) (h : Lib.IsBuilderF 33 5 B b (Lib.byteCells l) w) (h0 : l ≠ []) :
    Calls Try.prog 10 #[.pointer (some ⟨b, 0, none⟩)] w fun e w' => e = .returned (.string ⟨l.toArray⟩) ∧ (Lib.IsBuilderF 33 5 B b (Lib.byteCells l) w' ∧ Below B w w' ∧ Lib.OthersKept 5 (some b) w w') := Any.Builder_String_k Try.lays169 Try.Builder_Extra_169 B b l w h h0
open Go.RowKit in
theorem Try.Builder_String_empty_k (B b : Nat) (w : World) (h : Lib.IsBuilderF 33 5 B b [] w) (hBw : B ≤ w.heap.size) :
    Calls Try.prog 10 #[.pointer (some ⟨b, 0, none⟩)] w fun e w' => e = .returned (.string ⟨#[]⟩) ∧ (Lib.IsBuilderF 33 5 B b [] w' ∧ Below B w w' ∧ Lib.OthersKept 5 (some b) w w') := Any.Builder_String_empty_k Try.lays169 Try.Builder_Extra_169 B b w h hBw
open Go.RowKit in
theorem Try.Builder_String_any_k (B b : Nat) (l : List UInt8) (w : World) (h : Lib.IsBuilderF 33 5 B b (Lib.byteCells l) w) (hBw : B ≤ w.heap.size) :
    Calls Try.prog 10 #[.pointer (some ⟨b, 0, none⟩)] w fun e w' => e = .returned (.string ⟨l.toArray⟩) ∧ (Lib.IsBuilderF 33 5 B b (Lib.byteCells l) w' ∧ Below B w w' ∧ Lib.OthersKept 5 (some b) w w') := Any.Builder_String_any_k Try.lays169 Try.Builder_Extra_169 B b l w h hBw
def Try.lays278_ren : Go.Shelf.Ren := ⟨fun | 278 => 14 | n => n, fun | 37 => 28 | 21 => 21 | 51 => 24 | 4 => 4 | 46 => 26 | 5 => 5 | n => n, fun | n => n⟩
theorem Try.lays278 : Go.Proofs.Lays.n278 Try.prog Try.lays278_ren := {
  mixed := by kernel_rfl
  f278 := Try.func14.trans (congrArg some (by kernel_rfl))
  t4 := Try.underlying4
  a4 := Try.isAgg4
  z4 := Try.sizeOf4
  v4 := Try.zeroValue4
  t5 := Try.underlying5
  a5 := Try.isAgg5
  z5 := Try.sizeOf5
  v5 := Try.zeroValue5
  t21 := Try.underlying21
  a21 := Try.isAgg21
  z21 := Try.sizeOf21
  v21 := Try.zeroValue21
  t37 := Try.underlying28
  a37 := Try.isAgg28
  z37 := Try.sizeOf28
  v37 := Try.zeroValue28
  t46 := Try.underlying26
  a46 := Try.isAgg26
  z46 := Try.sizeOf26
  v46 := Try.zeroValue26
  t51 := Try.underlying24
  a51 := Try.isAgg24
  z51 := Try.sizeOf24
  v51 := Try.zeroValue24 }
open Go.RowKit in
theorem Try.utf8_appendRuneNonASCII_plain (B : Nat) (v : Value) (n : Nat) (xs : List Value) (r : Int) (hr0 : -2147483648 ≤ r) (hr1 : r ≤ 2147483647) (hna : r < 0 ∨ 128 ≤ r) (w : World) (hown : w.ownsRow B 5 1 v n xs) (hlen : n + 4 ≤ 140737488355328) (hBw : B ≤ w.heap.size) :
    Calls Try.prog 14 #[v, .int .i32 r] w fun e w' => ∃ v', e = .returned v' ∧ w'.ownsRow B 5 1 v' (n + (Lib.runeCells r).length) (xs ++ Lib.runeCells r) ∧ ∃ o, (w.alloc o).grownBy w' v.ownBlock := Any.utf8_appendRuneNonASCII_plain Try.lays278 (by kernel_rfl) B v n xs r hr0 hr1 hna w hown hlen hBw
def Try.lays242_ren : Go.Shelf.Ren := ⟨fun | 242 => 12 | 278 => 14 | n => n, fun | 37 => 28 | 21 => 21 | 51 => 24 | 4 => 4 | 5 => 5 | 46 => 26 | n => n, fun | n => n⟩
theorem Try.lays242 : Go.Proofs.Lays.n242 Try.prog Try.lays242_ren := {
  mixed := by kernel_rfl
  f242 := Try.func12.trans (congrArg some (by kernel_rfl))
  f278 := Try.func14.trans (congrArg some (by kernel_rfl))
  t4 := Try.underlying4
  a4 := Try.isAgg4
  z4 := Try.sizeOf4
  v4 := Try.zeroValue4
  t5 := Try.underlying5
  a5 := Try.isAgg5
  z5 := Try.sizeOf5
  v5 := Try.zeroValue5
  t21 := Try.underlying21
  a21 := Try.isAgg21
  z21 := Try.sizeOf21
  v21 := Try.zeroValue21
  t37 := Try.underlying28
  a37 := Try.isAgg28
  z37 := Try.sizeOf28
  v37 := Try.zeroValue28
  t46 := Try.underlying26
  a46 := Try.isAgg26
  z46 := Try.sizeOf26
  v46 := Try.zeroValue26
  t51 := Try.underlying24
  a51 := Try.isAgg24
  z51 := Try.sizeOf24
  v51 := Try.zeroValue24 }
open Go.RowKit in
theorem Try.utf8_AppendRune_plain (B : Nat) (v : Value) (n : Nat) (xs : List Value) (r : Int) (hr0 : -2147483648 ≤ r) (hr1 : r ≤ 2147483647) (w : World) (hown : w.ownsRow B 5 1 v n xs) (hlen : n + 4 ≤ 140737488355328) (hBw : B ≤ w.heap.size) :
    Calls Try.prog 12 #[v, .int .i32 r] w fun e w' => ∃ v', e = .returned v' ∧ w'.ownsRow B 5 1 v' (n + (Lib.runeCells r).length) (xs ++ Lib.runeCells r) ∧ ∃ o, (w.alloc o).grownBy w' v.ownBlock := Any.utf8_AppendRune_plain Try.lays242 (by kernel_rfl) B v n xs r hr0 hr1 w hown hlen hBw
end Go.Proofs

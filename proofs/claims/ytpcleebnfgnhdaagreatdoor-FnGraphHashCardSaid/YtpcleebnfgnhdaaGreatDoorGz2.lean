import Derived.Shelf.Small.Bits
import Derived.Shelf.Small.Strs
import Derived.Shelf.Strconv.Itoa0
import Derived.Shelf.Bits.Mul64
import Derived.Test.YtpcleebnfgnhdaaGreatDoorProg
import Derived.Test.YtpcleebnfgnhdaaGreatDoorGz1
import Derived.Lib.ItoaNum
/-
  DERIVED: THE SHELF's CONTRACTS AT THIS DUMP, IN PLAIN WORDS (tools/lay-plain.mjs out of 'TryzShelf.lean', which tools/lay-shelf.mjs wrote): THE SAME DECLARATIONS UNDER THE SAME NAMES: 'import', 'namespace', 'open', 'def', 'theorem' AND NOTHING ELSE: no command of the shelf's: FOR A HAND-IN. Each laying: the table of numbers ('.._ren') and one theorem, a field a fact of the dump's own or the kernel's comparison; each contract: ONE APPLICATION.
-/
namespace Go.Proofs
open Go.Shelf
def Tryz.lays128_ren : Go.Shelf.Ren := ⟨fun | 128 => 106 | n => n, fun | 51 => 35 | 3 => 3 | 4 => 4 | 46 => 204 | 5 => 5 | 9 => 9 | n => n, fun | n => n⟩
theorem Tryz.lays128 : Go.Proofs.Lays.n128 Tryz.prog Tryz.lays128_ren := {
  mixed := by kernel_rfl
  f128 := Tryz.func106.trans (congrArg some (by kernel_rfl))
  t3 := Tryz.underlying3
  a3 := Tryz.isAgg3
  z3 := Tryz.sizeOf3
  v3 := Tryz.zeroValue3
  t4 := Tryz.underlying4
  a4 := Tryz.isAgg4
  z4 := Tryz.sizeOf4
  v4 := Tryz.zeroValue4
  t5 := Tryz.underlying5
  a5 := Tryz.isAgg5
  z5 := Tryz.sizeOf5
  v5 := Tryz.zeroValue5
  t9 := Tryz.underlying9
  a9 := Tryz.isAgg9
  z9 := Tryz.sizeOf9
  v9 := Tryz.zeroValue9
  t46 := Tryz.underlying204
  a46 := Tryz.isAgg204
  z46 := Tryz.sizeOf204
  v46 := Tryz.zeroValue204
  t51 := Tryz.underlying35
  a51 := Tryz.isAgg35
  z51 := Tryz.sizeOf35
  v51 := Tryz.zeroValue35 }
/-- bits.Len32: "Len32 returns the minimum number of bits required to represent x; the result is 0 for x == 0.": IT RETURNS 'Lib.bitLen x'; the world is as it was. ('h0', 'h1': x is a uint32.) (LAID: no walk: one application.) -/
theorem Tryz.bits_Len32 (x : Int) (w : World) (h0 : 0 ≤ x) (h1 : x ≤ 4294967295) :
    Calls Tryz.prog 106 #[.int .u32 x] w fun e w' => e = .returned (.int .i64 (Lib.bitLen x.toNat)) ∧ w' = w := Any.bits_Len32 Tryz.lays128 x w h0 h1
def Tryz.lays125_ren : Go.Shelf.Ren := ⟨fun | 125 => 87 | 128 => 106 | 129 => 107 | n => n, fun | 46 => 204 | 3 => 3 | 51 => 35 | 53 => 29 | 4 => 4 | 5 => 5 | 9 => 9 | n => n, fun | n => n⟩
theorem Tryz.lays125 : Go.Proofs.Lays.n125 Tryz.prog Tryz.lays125_ren := {
  mixed := by kernel_rfl
  f125 := Tryz.func87.trans (congrArg some (by kernel_rfl))
  f128 := Tryz.func106.trans (congrArg some (by kernel_rfl))
  f129 := Tryz.func107.trans (congrArg some (by kernel_rfl))
  t3 := Tryz.underlying3
  a3 := Tryz.isAgg3
  z3 := Tryz.sizeOf3
  v3 := Tryz.zeroValue3
  t4 := Tryz.underlying4
  a4 := Tryz.isAgg4
  z4 := Tryz.sizeOf4
  v4 := Tryz.zeroValue4
  t5 := Tryz.underlying5
  a5 := Tryz.isAgg5
  z5 := Tryz.sizeOf5
  v5 := Tryz.zeroValue5
  t9 := Tryz.underlying9
  a9 := Tryz.isAgg9
  z9 := Tryz.sizeOf9
  v9 := Tryz.zeroValue9
  t46 := Tryz.underlying204
  a46 := Tryz.isAgg204
  z46 := Tryz.sizeOf204
  v46 := Tryz.zeroValue204
  t51 := Tryz.underlying35
  a51 := Tryz.isAgg35
  z51 := Tryz.sizeOf35
  v51 := Tryz.zeroValue35
  t53 := Tryz.underlying29
  a53 := Tryz.isAgg29
  z53 := Tryz.sizeOf29
  v53 := Tryz.zeroValue29 }
/-- bits.Len: "Len returns the minimum number of bits required to represent x; the result is 0 for x == 0.": IT RETURNS 'Lib.bitLen x'; the world is as it was. (A uint has 64 bits in the model.) ITS CALLEE bits.Len64 IS MET BY ITS OWN CONTRACT OFF THE SHELF (lay that first). (LAID: no walk: one application.) -/
theorem Tryz.bits_Len (x : Int) (w : World) (h0 : 0 ≤ x) (h1 : x ≤ 18446744073709551615) :
    Calls Tryz.prog 87 #[.int .u64 x] w fun e w' => e = .returned (.int .i64 (Lib.bitLen x.toNat)) ∧ w' = w := Any.bits_Len Tryz.lays125 x w h0 h1
def Tryz.lays134_ren : Go.Shelf.Ren := ⟨fun | 134 => 257 | 129 => 107 | n => n, fun | 53 => 29 | 3 => 3 | 4 => 4 | 46 => 204 | 5 => 5 | 9 => 9 | n => n, fun | n => n⟩
theorem Tryz.lays134 : Go.Proofs.Lays.n134 Tryz.prog Tryz.lays134_ren := {
  mixed := by kernel_rfl
  f129 := Tryz.func107.trans (congrArg some (by kernel_rfl))
  f134 := Tryz.func257.trans (congrArg some (by kernel_rfl))
  t3 := Tryz.underlying3
  a3 := Tryz.isAgg3
  z3 := Tryz.sizeOf3
  v3 := Tryz.zeroValue3
  t4 := Tryz.underlying4
  a4 := Tryz.isAgg4
  z4 := Tryz.sizeOf4
  v4 := Tryz.zeroValue4
  t5 := Tryz.underlying5
  a5 := Tryz.isAgg5
  z5 := Tryz.sizeOf5
  v5 := Tryz.zeroValue5
  t9 := Tryz.underlying9
  a9 := Tryz.isAgg9
  z9 := Tryz.sizeOf9
  v9 := Tryz.zeroValue9
  t46 := Tryz.underlying204
  a46 := Tryz.isAgg204
  z46 := Tryz.sizeOf204
  v46 := Tryz.zeroValue204
  t53 := Tryz.underlying29
  a53 := Tryz.isAgg29
  z53 := Tryz.sizeOf29
  v53 := Tryz.zeroValue29 }
/-- bits.LeadingZeros64: "LeadingZeros64 returns the number of leading zero bits in x; the result is 64 for x == 0.": IT RETURNS '64 - Lib.bitLen x'; the world is as it was. ITS CALLEE bits.Len64 IS MET BY ITS OWN CONTRACT OFF THE SHELF (lay that first): entered in place it sends the kernel out of memory. (LAID: no walk: one application.) -/
theorem Tryz.bits_LeadingZeros64 (x : Int) (w : World) (h0 : 0 ≤ x) (h1 : x ≤ 18446744073709551615) :
    Calls Tryz.prog 257 #[.int .u64 x] w fun e w' => e = .returned (.int .i64 (64 - (Lib.bitLen x.toNat : Int))) ∧ w' = w := Any.bits_LeadingZeros64 Tryz.lays134 x w h0 h1
def Tryz.lays130_ren : Go.Shelf.Ren := ⟨fun | 130 => 242 | 125 => 87 | 128 => 106 | 129 => 107 | n => n, fun | 46 => 204 | 3 => 3 | 51 => 35 | 53 => 29 | 4 => 4 | 5 => 5 | 9 => 9 | n => n, fun | n => n⟩
theorem Tryz.lays130 : Go.Proofs.Lays.n130 Tryz.prog Tryz.lays130_ren := {
  mixed := by kernel_rfl
  f125 := Tryz.func87.trans (congrArg some (by kernel_rfl))
  f128 := Tryz.func106.trans (congrArg some (by kernel_rfl))
  f129 := Tryz.func107.trans (congrArg some (by kernel_rfl))
  f130 := Tryz.func242.trans (congrArg some (by kernel_rfl))
  t3 := Tryz.underlying3
  a3 := Tryz.isAgg3
  z3 := Tryz.sizeOf3
  v3 := Tryz.zeroValue3
  t4 := Tryz.underlying4
  a4 := Tryz.isAgg4
  z4 := Tryz.sizeOf4
  v4 := Tryz.zeroValue4
  t5 := Tryz.underlying5
  a5 := Tryz.isAgg5
  z5 := Tryz.sizeOf5
  v5 := Tryz.zeroValue5
  t9 := Tryz.underlying9
  a9 := Tryz.isAgg9
  z9 := Tryz.sizeOf9
  v9 := Tryz.zeroValue9
  t46 := Tryz.underlying204
  a46 := Tryz.isAgg204
  z46 := Tryz.sizeOf204
  v46 := Tryz.zeroValue204
  t51 := Tryz.underlying35
  a51 := Tryz.isAgg35
  z51 := Tryz.sizeOf35
  v51 := Tryz.zeroValue35
  t53 := Tryz.underlying29
  a53 := Tryz.isAgg29
  z53 := Tryz.sizeOf29
  v53 := Tryz.zeroValue29 }
/-- bits.LeadingZeros: "LeadingZeros returns the number of leading zero bits in x; the result is [UintSize] for x == 0.": IT RETURNS '64 - Lib.bitLen x'; the world is as it was. ITS CALLEE bits.Len IS MET BY ITS OWN CONTRACT OFF THE SHELF (lay that first): entered in place it sends the kernel out of memory. (LAID: no walk: one application.) -/
theorem Tryz.bits_LeadingZeros (x : Int) (w : World) (h0 : 0 ≤ x) (h1 : x ≤ 18446744073709551615) :
    Calls Tryz.prog 242 #[.int .u64 x] w fun e w' => e = .returned (.int .i64 (64 - (Lib.bitLen x.toNat : Int))) ∧ w' = w := Any.bits_LeadingZeros Tryz.lays130 x w h0 h1
def Tryz.lays213_ren : Go.Shelf.Ren := ⟨fun | 213 => 295 | 265 => 296 | n => n, fun | 9 => 9 | 3 => 3 | n => n, fun | n => n⟩
theorem Tryz.lays213 : Go.Proofs.Lays.n213 Tryz.prog Tryz.lays213_ren := {
  mixed := by kernel_rfl
  f213 := Tryz.func295.trans (congrArg some (by kernel_rfl))
  f265 := Tryz.func296.trans (congrArg some (by kernel_rfl))
  t3 := Tryz.underlying3
  a3 := Tryz.isAgg3
  z3 := Tryz.sizeOf3
  v3 := Tryz.zeroValue3
  t9 := Tryz.underlying9
  a9 := Tryz.isAgg9
  z9 := Tryz.sizeOf9
  v9 := Tryz.zeroValue9 }
open Go.RowKit in
/-- internal/bytealg.CompareString (what strings.Compare calls): IT RETURNS 'Lib.compareBytes a b'; the world is as it was. (LAID: no walk: one application.) -/
theorem Tryz.bytealg_CompareString (a b : ByteArray) (w : World) :
    Calls Tryz.prog 295 #[.string a, .string b] w fun e w' => e = .returned (.int .i64 (Lib.compareBytes a.data.toList b.data.toList)) ∧ w' = w := Any.bytealg_CompareString Tryz.lays213 a b w
def Tryz.lays106_ren : Go.Shelf.Ren := ⟨fun | 106 => 294 | 213 => 295 | 265 => 296 | n => n, fun | 9 => 9 | 3 => 3 | n => n, fun | n => n⟩
theorem Tryz.lays106 : Go.Proofs.Lays.n106 Tryz.prog Tryz.lays106_ren := {
  mixed := by kernel_rfl
  f106 := Tryz.func294.trans (congrArg some (by kernel_rfl))
  f213 := Tryz.func295.trans (congrArg some (by kernel_rfl))
  f265 := Tryz.func296.trans (congrArg some (by kernel_rfl))
  t3 := Tryz.underlying3
  a3 := Tryz.isAgg3
  z3 := Tryz.sizeOf3
  v3 := Tryz.zeroValue3
  t9 := Tryz.underlying9
  a9 := Tryz.isAgg9
  z9 := Tryz.sizeOf9
  v9 := Tryz.zeroValue9 }
open Go.RowKit in
/-- strings.Compare: "Compare returns an integer comparing two strings lexicographically. The result will be 0 if a == b, -1 if a < b, and +1 if a > b.": IT RETURNS 'Lib.compareBytes a b'; the world is as it was. (LAID: no walk: one application.) -/
theorem Tryz.strings_Compare (a b : ByteArray) (w : World) :
    Calls Tryz.prog 294 #[.string a, .string b] w fun e w' => e = .returned (.int .i64 (Lib.compareBytes a.data.toList b.data.toList)) ∧ w' = w := Any.strings_Compare Tryz.lays106 a b w
def Tryz.lays129_ren : Go.Shelf.Ren := ⟨fun | 129 => 107 | n => n, fun | 53 => 29 | 3 => 3 | 4 => 4 | 46 => 204 | 5 => 5 | 9 => 9 | n => n, fun | n => n⟩
theorem Tryz.lays129 : Go.Proofs.Lays.n129 Tryz.prog Tryz.lays129_ren := {
  mixed := by kernel_rfl
  f129 := Tryz.func107.trans (congrArg some (by kernel_rfl))
  t3 := Tryz.underlying3
  a3 := Tryz.isAgg3
  z3 := Tryz.sizeOf3
  v3 := Tryz.zeroValue3
  t4 := Tryz.underlying4
  a4 := Tryz.isAgg4
  z4 := Tryz.sizeOf4
  v4 := Tryz.zeroValue4
  t5 := Tryz.underlying5
  a5 := Tryz.isAgg5
  z5 := Tryz.sizeOf5
  v5 := Tryz.zeroValue5
  t9 := Tryz.underlying9
  a9 := Tryz.isAgg9
  z9 := Tryz.sizeOf9
  v9 := Tryz.zeroValue9
  t46 := Tryz.underlying204
  a46 := Tryz.isAgg204
  z46 := Tryz.sizeOf204
  v46 := Tryz.zeroValue204
  t53 := Tryz.underlying29
  a53 := Tryz.isAgg29
  z53 := Tryz.sizeOf29
  v53 := Tryz.zeroValue29 }
/-- bits.Len64: "Len64 returns the minimum number of bits required to represent x; the result is 0 for x == 0.": IT RETURNS 'Lib.bitLen x'; the world is as it was. ('h0', 'h1': x is a uint64.) (LAID: no walk: one application.) -/
theorem Tryz.bits_Len64 (x : Int) (w : World) (h0 : 0 ≤ x) (h1 : x ≤ 18446744073709551615) :
    Calls Tryz.prog 107 #[.int .u64 x] w fun e w' => e = .returned (.int .i64 (Lib.bitLen x.toNat)) ∧ w' = w := Any.bits_Len64 Tryz.lays129 x w h0 h1
def Tryz.lays264_ren : Go.Shelf.Ren := ⟨fun | 264 => 254 | n => n, fun | 53 => 29 | 46 => 204 | n => n, fun | n => n⟩
theorem Tryz.lays264 : Go.Proofs.Lays.n264 Tryz.prog Tryz.lays264_ren := {
  mixed := by kernel_rfl
  f264 := Tryz.func254.trans (congrArg some (by kernel_rfl))
  t46 := Tryz.underlying204
  a46 := Tryz.isAgg204
  z46 := Tryz.sizeOf204
  v46 := Tryz.zeroValue204
  t53 := Tryz.underlying29
  a53 := Tryz.isAgg29
  z53 := Tryz.sizeOf29
  v53 := Tryz.zeroValue29 }
open Go.RowKit Go.Lib in
theorem Tryz.bits_Mul64 (x y : Nat) (hx : x < 18446744073709551616) (hy : y < 18446744073709551616) (w : World) :
    Calls Tryz.prog 254 #[.int .u64 x, .int .u64 y] w fun e w' => e = .returned (.tuple #[.int .u64 ((x * y / 18446744073709551616 : Nat) : Int), .int .u64 ((x * y % 18446744073709551616 : Nat) : Int)]) ∧ w' = w := Any.bits_Mul64 Tryz.lays264 x y hx hy w
def Tryz.lays212_ren : Go.Shelf.Ren := ⟨fun | 212 => 249 | 263 => 253 | 264 => 254 | n => n, fun | 46 => 204 | 51 => 35 | 146 => 365 | 53 => 29 | 148 => 367 | n => n, fun | n => n⟩
theorem Tryz.lays212 : Go.Proofs.Lays.n212 Tryz.prog Tryz.lays212_ren := {
  mixed := by kernel_rfl
  f212 := Tryz.func249.trans (congrArg some (by kernel_rfl))
  f263 := Tryz.func253.trans (congrArg some (by kernel_rfl))
  f264 := Tryz.func254.trans (congrArg some (by kernel_rfl))
  t46 := Tryz.underlying204
  a46 := Tryz.isAgg204
  z46 := Tryz.sizeOf204
  v46 := Tryz.zeroValue204
  t51 := Tryz.underlying35
  a51 := Tryz.isAgg35
  z51 := Tryz.sizeOf35
  v51 := Tryz.zeroValue35
  t53 := Tryz.underlying29
  a53 := Tryz.isAgg29
  z53 := Tryz.sizeOf29
  v53 := Tryz.zeroValue29
  t146 := Tryz.underlying365
  a146 := Tryz.isAgg365
  z146 := Tryz.sizeOf365
  v146 := Tryz.zeroValue365
  t148 := Tryz.underlying367
  a148 := Tryz.isAgg367
  z148 := Tryz.sizeOf367
  v148 := Tryz.zeroValue367 }
open Go.RowKit Go.Lib in
/-- math/bits.Mul: "Mul returns the full-width product of x and y": on a machine of 64 bits: Mul64's. (LAID: no walk: one application.) -/
theorem Tryz.bits_Mul (x y : Nat) (hx : x < 18446744073709551616) (hy : y < 18446744073709551616) (w : World) :
    Calls Tryz.prog 249 #[.int .u64 x, .int .u64 y] w fun e w' => e = .returned (.tuple #[.int .u64 ((x * y / 18446744073709551616 : Nat) : Int), .int .u64 ((x * y % 18446744073709551616 : Nat) : Int)]) ∧ w' = w := Any.bits_Mul Tryz.lays212 x y hx hy w
end Go.Proofs

/- Walks: nat's setWord, setUint64, cmp, bitLen, low64; the big-endian readers. -/
set_option linter.unusedVariables false
set_option linter.unusedSimpArgs false
namespace Go.Proofs.YtpcleebnfgnhdaaGreatDoor
open Go.RowKit
open Num

theorem setWord_zero (a : Option Addr) (n c : Nat) (w : World) :
    Calls Tryz.prog 175 #[.slice a n c, .int .u64 0] w fun e w' => e = .returned (.slice a 0 c) ∧ w = w' := by
  go_enter Tryz.func175, Tryz.ntmps175
  go_wp2
  go_ret
  exact ⟨rfl, rfl⟩
theorem setWord_new (x : Nat) (w : World) (hx : 0 < x) :
    Calls Tryz.prog 175 #[.slice none 0 0, .int .u64 (x : Int)] w fun e w' => ∃ g c, g = w.heap.size ∧ c = 1 ∧ e = .returned (.slice (some ⟨g, 0, none⟩) 1 c) ∧ Below w.heap.size w w' ∧ w'.heap.size = g + 1 ∧
      (∃ f, Row w' g 246 c f ∧ f 0 = .int .u64 (x : Int)) := by
  have hx0 : ((x : Int) == 0) = false := by simp; omega
  go_enter Tryz.func175, Tryz.ntmps175
  go_wp2_with fail
  refine (make_gt _ _ _ 1 _ (by omega) (by omega)).mono ?_
  rintro e w' ⟨c, hc1, ⟨_, hc2⟩, rfl, rfl⟩
  obtain rfl := hc2 rfl
  clear hc2
  have hrow := Row.made w 246 1 (.int .u64 0)
  have hb1 : Below w.heap.size w (w.alloc (.cells (madeCells #[.int .u64 0] 1) 246)) := (Below.refl _ _).alloc (Nat.le_refl _) _
  have hsz : (w.alloc (.cells (madeCells #[.int .u64 0] 1) 246)).heap.size = w.heap.size + 1 := by simp
  obtain ⟨g, hgg⟩ : ∃ g, g = w.heap.size := ⟨_, rfl⟩
  rw [← hgg] at hrow hsz ⊢
  have HG := Lib.hid hgg; clear hgg
  have HZ := Lib.hid hsz; clear hsz
  generalize w.alloc (.cells (madeCells #[.int .u64 0] 1) 246) = w1 at *
  have c0 := hrow.cell (i := 0) (by omega)
  have f0 := hrow.frozen 0
  go_wp2
  go_ret
  refine ⟨g, 1, HG.out, rfl, rfl, ?_, ?_, _, hrow.set 0 _, rfl⟩
  · exact hb1.setCell (by rw [HG.out]; exact Nat.le_refl _) _
  · have := HZ.out; simpa [World.setCell] using this
theorem setUint64_any (x : Nat) (w : World) (hx : 0 < x) (_hl : x ≤ 18446744073709551615) :
    Calls Tryz.prog 184 #[.slice none 0 0, .int .u64 (x : Int)] w fun e w' => ∃ g c, g = w.heap.size ∧ c = 1 ∧ e = .returned (.slice (some ⟨g, 0, none⟩) 1 c) ∧ Below w.heap.size w w' ∧ w'.heap.size = g + 1 ∧
      (∃ f, Row w' g 246 c f ∧ f 0 = .int .u64 (x : Int)) := by
  go_enter Tryz.func184, Tryz.ntmps184
  go_wp2_with fail
  refine (setWord_new x _ hx).mono ?_
  rintro e w' ⟨g, c, hg, rfl, rfl, h⟩
  have HG := Lib.hid hg; clear hg
  have H := Lib.hid h; clear h
  go_wp2
  go_ret
  exact ⟨g, 1, HG.out, rfl, rfl, H.out⟩
theorem setUint64_zero (w : World) :
    Calls Tryz.prog 184 #[.slice none 0 0, .int .u64 0] w fun e w' => e = .returned (.slice none 0 0) ∧ w = w' := by
  go_enter Tryz.func184, Tryz.ntmps184
  go_wp2_with fail
  refine (setWord_zero _ _ _ _).mono ?_
  rintro e w' ⟨rfl, rfl⟩
  go_wp2
  go_ret
  exact ⟨rfl, rfl⟩
theorem low64_some (g o c n V : Nat) (w : World) (h0 : 0 < n) (hn : n ≤ 2147483648)
    (hc : ∀ i, i < n → w.cell? ⟨g, o + i, none⟩ = some (.int .u64 (wd V i))) :
    Calls Tryz.prog 153 #[.slice (some ⟨g, o, none⟩) n c] w fun e w' => e = .returned (.int .u64 (wd V 0)) ∧ w = w' := by
  have hcell : w.cell? ⟨g, o, none⟩ = some (.int .u64 (wd V 0)) := hc 0 h0
  have hn0 : ((n : Int) == 0) = false := by simp; omega
  have hl := wd_lt V 0
  go_enter Tryz.func153, Tryz.ntmps153
  go_wp2
  go_ret
  exact ⟨rfl, rfl⟩
theorem low64_zero (a : Option Addr) (c : Nat) (w : World) :
    Calls Tryz.prog 153 #[.slice a 0 c] w fun e w' => e = .returned (.int .u64 0) ∧ w = w' := by
  go_enter Tryz.func153, Tryz.ntmps153
  go_wp2
  go_ret
  exact ⟨rfl, rfl⟩

/-! the big-endian readers -/
theorem or_u32 (a0 a1 a2 a3 : Nat) (h0 : a0 < 256) (h1 : a1 < 256) (h2 : a2 < 256) (h3 : a3 < 256) :
    bits .or .u32 (bits .or .u32 (bits .or .u32 (a0 : Int) ((a1 : Int) * 256)) ((a2 : Int) * 65536)) ((a3 : Int) * 16777216) = ((a0 + 256 * a1 + 65536 * a2 + 16777216 * a3 : Nat) : Int) := by
  have e1 : bits .or .u32 (a0 : Int) ((a1 : Int) * 256) = ((a0 + 256 * a1 : Nat) : Int) := by
    have := u32_or_nat a0 (a1 * 256) (by omega) (by omega)
    rw [show ((a1 : Int) * 256) = ((a1 * 256 : Nat) : Int) by omega, this]
    congr 1
    have := Nat.two_pow_add_eq_or_of_lt (i := 8) (b := a0) (by omega) a1
    rw [Nat.or_comm, show a1 * 256 = 2 ^ 8 * a1 by omega, ← this]; omega
  have e2 : bits .or .u32 ((a0 + 256 * a1 : Nat) : Int) ((a2 : Int) * 65536) = ((a0 + 256 * a1 + 65536 * a2 : Nat) : Int) := by
    have := u32_or_nat (a0 + 256 * a1) (a2 * 65536) (by omega) (by omega)
    rw [show ((a2 : Int) * 65536) = ((a2 * 65536 : Nat) : Int) by omega, this]
    congr 1
    have := Nat.two_pow_add_eq_or_of_lt (i := 16) (b := a0 + 256 * a1) (by omega) a2
    rw [Nat.or_comm, show a2 * 65536 = 2 ^ 16 * a2 by omega, ← this]; omega
  have e3 : bits .or .u32 ((a0 + 256 * a1 + 65536 * a2 : Nat) : Int) ((a3 : Int) * 16777216) = ((a0 + 256 * a1 + 65536 * a2 + 16777216 * a3 : Nat) : Int) := by
    have := u32_or_nat (a0 + 256 * a1 + 65536 * a2) (a3 * 16777216) (by omega) (by omega)
    rw [show ((a3 : Int) * 16777216) = ((a3 * 16777216 : Nat) : Int) by omega, this]
    congr 1
    have := Nat.two_pow_add_eq_or_of_lt (i := 24) (b := a0 + 256 * a1 + 65536 * a2) (by omega) a3
    rw [Nat.or_comm, show a3 * 16777216 = 2 ^ 24 * a3 by omega, ← this]; omega
  rw [e1, e2, e3]
theorem or_u64 (a b : Nat) (ha : a < 4294967296) (hb : b < 4294967296) : bits .or .u64 ((a : Int) * 4294967296) (b : Int) = ((4294967296 * a + b : Nat) : Int) := by
  have := u64_or_nat (a * 4294967296) b (by omega) (by omega)
  rw [show ((a : Int) * 4294967296) = ((a * 4294967296 : Nat) : Int) by omega, this]
  congr 1
  have := Nat.two_pow_add_eq_or_of_lt (i := 32) (b := b) (by omega) a
  rw [show a * 4294967296 = 2 ^ 32 * a by omega, ← this]
theorem beUint32_any (g o n c : Nat) (a0 a1 a2 a3 : Nat) (w : World) (hn : 4 ≤ n) (hn2 : n ≤ 2147483648) (h0 : a0 < 256) (h1 : a1 < 256) (h2 : a2 < 256) (h3 : a3 < 256)
    (c3 : w.cell? ⟨g, o, none⟩ = some (.int .u8 (a3 : Int))) (c2 : w.cell? ⟨g, o + 1, none⟩ = some (.int .u8 (a2 : Int)))
    (c1 : w.cell? ⟨g, o + 2, none⟩ = some (.int .u8 (a1 : Int))) (c0 : w.cell? ⟨g, o + 3, none⟩ = some (.int .u8 (a0 : Int))) :
    Calls Tryz.prog 160 #[.slice (some ⟨g, o, none⟩) n c] w fun e w' => e = .returned (.int .u32 ((a0 + 256 * a1 + 65536 * a2 + 16777216 * a3 : Nat) : Int)) ∧ ∃ k, w' = w.drewN k := by
  have hor := or_u32 a0 a1 a2 a3 h0 h1 h2 h3
  go_enter Tryz.func160, Tryz.ntmps160
  go_wp2
  go_quiet (fail)
  go_wp2
  go_ret
  exact ⟨rfl, _, rfl⟩
theorem beUint64_any (g o n c : Nat) (B : Nat → Nat) (w : World) (hn : 8 ≤ n) (hnc : n ≤ c) (hn2 : n ≤ 2147483648) (hB : ∀ j, B j < 256)
    (hc : ∀ j, j < 8 → w.cell? ⟨g, o + j, none⟩ = some (.int .u8 (B j : Int))) :
    Calls Tryz.prog 159 #[.slice (some ⟨g, o, none⟩) n c] w fun e w' => e = .returned (.int .u64 ((4294967296 * (B 3 + 256 * B 2 + 65536 * B 1 + 16777216 * B 0) + (B 7 + 256 * B 6 + 65536 * B 5 + 16777216 * B 4) : Nat) : Int)) ∧ ∃ k, w' = w.drewN k := by
  have c0 : w.cell? ⟨g, o, none⟩ = some (.int .u8 (B 0 : Int)) := hc 0 (by omega)
  have c1 := hc 1 (by omega)
  have c2 := hc 2 (by omega)
  have c3 := hc 3 (by omega)
  have c4 := hc 4 (by omega)
  have c5 : w.cell? ⟨g, o + 4 + 1, none⟩ = some (.int .u8 (B 5 : Int)) := hc 5 (by omega)
  have c6 : w.cell? ⟨g, o + 4 + 2, none⟩ = some (.int .u8 (B 6 : Int)) := hc 6 (by omega)
  have c7 : w.cell? ⟨g, o + 4 + 3, none⟩ = some (.int .u8 (B 7 : Int)) := hc 7 (by omega)
  have c7' : w.cell? ⟨g, o + 7, none⟩ = some (.int .u8 (B 7 : Int)) := hc 7 (by omega)
  have H1 := fun k => beUint32_any g o n c (B 3) (B 2) (B 1) (B 0) (w.drewN k) (by omega) hn2 (hB _) (hB _) (hB _) (hB _) (by simpa using c0) (by simpa using c1) (by simpa using c2) (by simpa using c3)
  have H2 := fun k => beUint32_any g (o + 4) (n - 4) (c - 4) (B 7) (B 6) (B 5) (B 4) (w.drewN k) (by omega) (by omega) (hB _) (hB _) (hB _) (hB _) (by simpa using c4) (by simpa using c5) (by simpa using c6) (by simpa using c7)
  have HH1 := Lib.hid H1; clear H1
  have HH2 := Lib.hid H2; clear H2
  have hx : B 3 + 256 * B 2 + 65536 * B 1 + 16777216 * B 0 < 4294967296 := by have := hB 0; have := hB 1; have := hB 2; have := hB 3; omega
  have hy : B 7 + 256 * B 6 + 65536 * B 5 + 16777216 * B 4 < 4294967296 := by have := hB 4; have := hB 5; have := hB 6; have := hB 7; omega
  have HC := Lib.hid hc; clear hc
  have HBB := Lib.hid hB; clear hB
  obtain ⟨x, hxx⟩ : ∃ x, x = B 3 + 256 * B 2 + 65536 * B 1 + 16777216 * B 0 := ⟨_, rfl⟩
  obtain ⟨y, hyy⟩ : ∃ y, y = B 7 + 256 * B 6 + 65536 * B 5 + 16777216 * B 4 := ⟨_, rfl⟩
  rw [← hxx] at hx HH1 ⊢
  rw [← hyy] at hy HH2 ⊢
  clear hxx hyy
  have hor := or_u64 x y hx hy
  go_enter Tryz.func159, Tryz.ntmps159
  go_wp2
  go_quiet ((first | (go_at_call 160; with_reducible exact Calls.quiet_of (HH1.out _)) | (go_at_call 160; with_reducible exact Calls.quiet_of (HH2.out _))))
  go_wp2
  go_ret
  exact ⟨rfl, _, rfl⟩
end Go.Proofs.YtpcleebnfgnhdaaGreatDoor

/- Walks: nat.setBytes: the words of a number out of its bytes. -/
set_option linter.unusedVariables false
set_option linter.unusedSimpArgs false
namespace Go.Proofs.YtpcleebnfgnhdaaGreatDoor
open Go.RowKit
open Num

theorem word_any (g o c V k : Nat) (w : World) (hnc : 8 ≤ c)
    (hc : ∀ j, j < 8 → w.cell? ⟨g, o + j, none⟩ = some (.int .u8 (dg V (8 * k + 7 - j) : Int))) :
    Calls Tryz.prog 150 #[.slice (some ⟨g, o, none⟩) 8 c] w fun e w' => e = .returned (.int .u64 (wd V k : Int)) ∧ ∃ k, w' = w.drewN k := by
  have H := beUint64_any g o 8 c (fun j => dg V (8 * k + 7 - j)) w (by omega) hnc (by omega) (fun j => dg_lt _ _) hc
  have e : 4294967296 * (dg V (8 * k + 7 - 3) + 256 * dg V (8 * k + 7 - 2) + 65536 * dg V (8 * k + 7 - 1) + 16777216 * dg V (8 * k + 7 - 0)) + (dg V (8 * k + 7 - 7) + 256 * dg V (8 * k + 7 - 6) + 65536 * dg V (8 * k + 7 - 5) + 16777216 * dg V (8 * k + 7 - 4)) = wd V k := by
    rw [wd_of_dg, show 8 * k + 7 - 3 = 8 * k + 4 by omega, show 8 * k + 7 - 2 = 8 * k + 5 by omega, show 8 * k + 7 - 1 = 8 * k + 6 by omega, show 8 * k + 7 - 0 = 8 * k + 7 by omega, show 8 * k + 7 - 7 = 8 * k by omega, show 8 * k + 7 - 6 = 8 * k + 1 by omega, show 8 * k + 7 - 5 = 8 * k + 2 by omega, show 8 * k + 7 - 4 = 8 * k + 3 by omega]
    omega
  simp only [e] at H
  have HH := Lib.hid H; clear H e
  go_enter Tryz.func150, Tryz.ntmps150
  go_wp2_with fail
  refine HH.out.mono ?_
  rintro e w' ⟨rfl, q, rfl⟩
  go_wp2
  go_ret
  exact ⟨rfl, _, rfl⟩

theorem or_pd (V k t : Nat) (ht : t < 8) : bits .or .u64 (pd V k t : Int) (IntKind.u64.wrap ((dg V (8 * k + t) : Int) * 2 ^ (8 * t))) = (pd V k (t + 1) : Int) := by
  have hd := dg_lt V (8 * k + t)
  have hp := pd_lt V k t
  have h1 : 2 ^ (8 * t) ≤ 2 ^ 56 := Nat.pow_le_pow_right (by omega) (by omega)
  have h2 : dg V (8 * k + t) * 2 ^ (8 * t) ≤ 255 * 2 ^ 56 := Nat.mul_le_mul (by omega) h1
  have e : ((dg V (8 * k + t) : Int) * 2 ^ (8 * t)) = ((dg V (8 * k + t) * 2 ^ (8 * t) : Nat) : Int) := by simp
  rw [e, pd_succ]
  generalize dg V (8 * k + t) * 2 ^ (8 * t) = x at *
  generalize 2 ^ (8 * t) = y at *
  generalize pd V k t = z at *
  have hw : IntKind.u64.wrap (x : Int) = (x : Int) := by
    simp only [IntKind.wrap_u64]; omega
  rw [hw]
  exact u64_or_nat z x (by omega) (by omega)

theorem norm_row {g c m V : Nat} {w : World} {f : Nat → Value} (hr : Row w g 246 c f) (hf : ∀ i, i < m → f i = .int .u64 (wd V i)) (hV : V < 2 ^ (64 * m)) (hm : m ≤ c) (hc : m ≤ 2147483648) :
    Calls Tryz.prog 151 #[.slice (some ⟨g, 0, none⟩) m c] w fun e w' => (∃ m', m' ≤ m ∧ Nw m' V ∧ e = .returned (.slice (some ⟨g, 0, none⟩) m' c)) ∧ w = w' :=
  norm_some g 0 c m V w hV (by omega) hm (fun i hi => by rw [Nat.zero_add, hr.cell (by omega), hf i hi])

theorem setBytes_some (gx ox cx n V : Nat) (w : World) (hV : V < 2 ^ (8 * n)) (h0 : 0 < n) (hn : n ≤ 2147483647) (hnc : n ≤ cx) (hg : gx < w.heap.size)
    (hc : ∀ i, i < n → w.cell? ⟨gx, ox + i, none⟩ = some (.int .u8 (dg V (n - 1 - i)))) :
    Calls Tryz.prog 128 #[.slice none 0 0, .slice (some ⟨gx, ox, none⟩) n cx] w fun e w' => ∃ m g c, g = w.heap.size ∧ Nw m V ∧ m ≤ c ∧ c ≤ 2147483647 ∧ e = .returned (.slice (some ⟨g, 0, none⟩) m c) ∧ Below w.heap.size w w' ∧
      (∃ f, Row w' g 246 c f ∧ ∀ i, i < m → f i = .int .u64 (wd V i)) := by
  obtain ⟨m, hm⟩ : ∃ m, m = (n + 7) / 8 := ⟨_, rfl⟩
  have hm1 : n ≤ 8 * m := by omega
  have hm2 : 8 * m ≤ n + 7 := by omega
  have hmi : ((n : Int) + 8 - 1) / 8 = (m : Int) := by omega
  clear hm
  go_enter Tryz.func128, Tryz.ntmps128
  go_wp2_with fail
  refine (make_gt _ _ _ m _ (by omega) (by omega)).mono ?_
  rintro e w' ⟨c, hc1, ⟨hc2, _⟩, rfl, rfl⟩
  have hrow := Row.made w 246 c (.int .u64 0)
  have hb1 : Below w.heap.size w (w.alloc (.cells (madeCells #[.int .u64 0] c) 246)) := (Below.refl _ _).alloc (Nat.le_refl _) _
  obtain ⟨g, hgg⟩ : ∃ g, g = w.heap.size := ⟨_, rfl⟩
  rw [← hgg] at hrow ⊢
  have HG := Lib.hid hgg; clear hgg
  have HMI := Lib.hid hmi; clear hmi
  have hgx : gx ≠ g := by have := HG.out; omega
  have HC := Lib.hid hc; clear hc
  generalize w.alloc (.cells (madeCells #[.int .u64 0] c) 246) = w1 at *
  have hgw : gx < w1.heap.size := Nat.lt_of_lt_of_le hg hb1.size
  go_wp2_with fail
  go_loopw [5, 6] (fun i k wr => ∃ k' : Nat, ∃ f, 8 * k' ≤ n ∧ i = .int .i64 ((n : Int) - 8 * k') ∧ k = .int .i64 k' ∧ Row wr g 246 c f ∧ (∀ i, i < k' → f i = .int .u64 (wd V i)) ∧ Chg g w1 wr) (fun i _ _ => (intOf i).toNat)
  case atStart => exact ⟨0, _, by omega, by simp, rfl, hrow, fun i hi => absurd hi (by omega), Chg.refl _ _⟩
  case round =>
    obtain ⟨k, f, hk, rfl, rfl, hr, hf, hch⟩ := hrel
    have hcell : ∀ i, i < n → wr.cell? ⟨gx, ox + i, none⟩ = some (.int .u8 (dg V (n - 1 - i))) := fun i hi => by
      rw [hch.cell (p := ⟨gx, ox + i, none⟩) hgw hgx, hb1.cell (p := ⟨gx, ox + i, none⟩) hg]; exact HC.out i hi
    have HF := Lib.hid hf; clear hf
    by_cases h8 : 8 ≤ n - 8 * k
    · have hkc : k < c := by omega
      have ck := hr.cell hkc
      have fk := hr.frozen k
      have HW := word_any gx (ox + (n - 8 * k - 8)) (cx - (n - 8 * k - 8)) V k wr (by omega) (fun j hj => by
        have := hcell (n - 8 * k - 8 + j) (by omega)
        rw [show n - 1 - (n - 8 * k - 8 + j) = 8 * k + 7 - j by omega] at this
        simpa [Nat.add_assoc] using this)
      have HWW := Lib.hid HW; clear HW
      have HCC := Lib.hid hcell; clear hcell
      have HR := Lib.hid hr; clear hr
      go_wp2_with fail
      rw [show n - 8 * k - (n - 8 * k - 8) = 8 by omega]
      refine HWW.out.mono ?_
      rintro e w' ⟨rfl, q, rfl⟩
      go_wp2
      go_roundw
      case rel => exact ⟨k + 1, _, by omega, by go_num, by go_num, (HR.out.drewN q).set k _, fun i hi => by
          by_cases e : i = k
          · rw [if_pos e, e]
          · rw [if_neg e]; exact HF.out i (by omega), (hch.drewN q).set k _⟩
      case measure => simp [intOf]; omega
    · have HCC := Lib.hid hcell; clear hcell
      have HR := Lib.hid hr; clear hr
      by_cases hz : n - 8 * k = 0
      · have hnk : n = 8 * k := by omega
        subst hnk
        have hmk : m = k := by omega
        subst hmk
        have HN := Lib.hid (norm_row HR.out HF.out (show V < 2 ^ (64 * m) by rw [show 64 * m = 8 * (8 * m) by omega]; exact hV) (by omega) (by omega))
        go_wp2_with fail
        refine HN.out.mono ?_
        rintro e w' ⟨⟨m', hm', hNw, rfl⟩, rfl⟩
        go_wp2
        go_ret
        exact ⟨m', g, c, HG.out, hNw, by omega, by omega, rfl, Chg.below hb1 hb1.size hch (by rw [HG.out]; exact Nat.le_refl _), _, HR.out, fun i hi => HF.out i (by omega)⟩
      · obtain ⟨wo, rfl⟩ : ∃ wo : World, wo = wr := ⟨_, rfl⟩
        have hmk : m = k + 1 := by omega
        subst hmk
        go_wp2_with fail
        go_loop [5, 7, 8] (fun i d s => ∃ t : Nat, 8 * k + t ≤ n ∧ i = .int .i64 ((n : Int) - 8 * k - t) ∧ d = .int .u64 (pd V k t) ∧ s = .int .u64 (8 * t)) (fun i _ _ => (intOf i).toNat)
        case atStart => exact ⟨0, by omega, by simp, by simp [pd_zero], by simp⟩
        case round =>
          obtain ⟨t, ht, rfl, rfl, rfl⟩ := hrel
          by_cases h9 : 8 * k + t = n
          · have hr := HR.out
            have ck := hr.cell (i := k) (by omega)
            have fk := hr.frozen k
            have ht8 := pd_full (k := k) hV h9.symm (by omega)
            rw [ht8]
            have hkk : k + 1 - 1 = k := by omega
            have HN := fun (W : World) (f' : Nat → Value) (h1 : Row W g 246 c f') (h2 : ∀ i, i < k + 1 → f' i = .int .u64 (wd V i)) => norm_row h1 h2 (show V < 2 ^ (64 * (k + 1)) from Nat.lt_of_lt_of_le hV (Nat.pow_le_pow_right (by omega) (by omega))) (by omega) (by omega)
            have HNN := Lib.hid HN; clear HN
            clear hr hkk
            go_wp2_with fail
            refine (HNN.out _ _ (HR.out.set k _) (fun i hi => ?_)).mono ?_
            · show (if _ then _ else _) = _
              by_cases e : i = k
              · rw [if_pos e, e]
              · rw [if_neg e]; exact HF.out i (by omega)
            · rintro e w' ⟨⟨m', hm', hNw, rfl⟩, rfl⟩
              go_wp2
              go_ret
              refine ⟨m', g, c, HG.out, hNw, by omega, by omega, rfl, Chg.below hb1 hb1.size (hch.set k _) (by rw [HG.out]; exact Nat.le_refl _), _, HR.out.set k _, fun i hi => ?_⟩
              show (if _ then _ else _) = _
              by_cases e : i = k
              · rw [if_pos e, e]
              · rw [if_neg e]; exact HF.out i (by omega)
          · have hcl := HCC.out (n - 8 * k - t - 1) (by omega)
            rw [show n - 1 - (n - 8 * k - t - 1) = 8 * k + t by omega] at hcl
            have hdl := dg_lt V (8 * k + t)
            have hpl := pd_lt V k t
            have hor := or_pd V k t (by omega)
            go_wp2
            go_round
            case rel => exact ⟨t + 1, by omega, by go_num, by first | rfl | exact congrArg _ hor, by go_num⟩
            case measure => simp [intOf]; omega
end Go.Proofs.YtpcleebnfgnhdaaGreatDoor

/- Walks: nat.bitLen, nat.cmp. -/
set_option linter.unusedVariables false
set_option linter.unusedSimpArgs false
namespace Go.Proofs.YtpcleebnfgnhdaaGreatDoor
open Go.RowKit
open Num

theorem smear (t b : Nat) (d : Nat) (h1 : 2 ^ (b - 1) ≤ t) (h2 : t < 2 ^ b) (hb : b ≤ 64) :
    ∃ t' : Nat, bits .or .u64 (t : Int) ((t : Int) / (d : Int)) = (t' : Int) ∧ 2 ^ (b - 1) ≤ t' ∧ t' < 2 ^ b := by
  have h64 : (2 : Nat) ^ b ≤ 2 ^ 64 := Nat.pow_le_pow_right (by omega) hb
  have hq : t / d ≤ t := Nat.div_le_self _ _
  refine ⟨t ||| t / d, ?_, Nat.le_trans h1 Nat.left_le_or, Nat.or_lt_two_pow h2 (by omega)⟩
  rw [show ((t : Int) / (d : Int)) = ((t / d : Nat) : Int) by simp]
  exact u64_or_nat t (t / d) (by omega) (by omega)
theorem smear32 (t b : Nat) (h1 : 2 ^ (b - 1) ≤ t) (h2 : t < 2 ^ b) (hb : b ≤ 64) :
    ∃ t' : Nat, bits .or .u64 (t : Int) ((t : Int) / 65536 / 65536) = (t' : Int) ∧ 2 ^ (b - 1) ≤ t' ∧ t' < 2 ^ b := by
  have h := smear t b (65536 * 65536) h1 h2 hb
  rw [show ((t : Int) / ((65536 * 65536 : Nat) : Int)) = (t : Int) / 65536 / 65536 by omega] at h
  exact h

theorem bitLen_some (g o c n V : Nat) (w : World) (h0 : 0 < n) (hn : n ≤ 2147483648) (hN : Nw n V)
    (hc : ∀ i, i < n → w.cell? ⟨g, o + i, none⟩ = some (.int .u64 (wd V i))) :
    Calls Tryz.prog 161 #[.slice (some ⟨g, o, none⟩) n c] w fun e w' => (∃ L : Nat, 1 ≤ L ∧ L ≤ 64 * n ∧ 64 * (n - 1) < L ∧ 2 ^ (L - 1) ≤ V ∧ V < 2 ^ L ∧ e = .returned (.int .i64 L)) ∧ w = w' := by
  have hcell := hc (n - 1) (by omega)
  obtain ⟨t, ht⟩ : ∃ t, t = wd V (n - 1) := ⟨_, rfl⟩
  rw [← ht] at hcell
  have hlt := wd_lt V (n - 1)
  have htop := fun b h1 h2 h3 => top_bounds (b := b) hN.1 h0 h1 h2 h3
  rw [← ht] at hlt htop
  have htne : t ≠ 0 := by
    intro e
    have := lt_of_wd_zero (n := n - 1) (by rw [show n - 1 + 1 = n by omega]; exact hN.1) (by rw [← ht]; exact e)
    have := hN.2 h0
    omega
  have hlt64 : t < 2 ^ 64 := hlt
  obtain ⟨hb1, hb2, hb3⟩ := Lib.bitLenAux_bounds 64 t hlt64 htne
  have hb64 : Lib.bitLenAux 64 t ≤ 64 := Lib.bitLenAux_le 64 t 64 hlt64
  generalize Lib.bitLenAux 64 t = b at *
  have HT := htop b hb2 hb3 hb1
  clear htop
  obtain ⟨t1, e1, g1, l1⟩ := smear t b 2 hb2 hb3 hb64
  obtain ⟨t2, e2, g2, l2⟩ := smear t1 b 4 g1 l1 hb64
  obtain ⟨t3, e3, g3, l3⟩ := smear t2 b 16 g2 l2 hb64
  obtain ⟨t4, e4, g4, l4⟩ := smear t3 b 256 g3 l3 hb64
  obtain ⟨t5, e5, g5, l5⟩ := smear t4 b 65536 g4 l4 hb64
  obtain ⟨t6, e6, g6, l6⟩ := smear32 t5 b g5 l5 hb64
  simp only [Int.cast_ofNat_Int] at e1 e2 e3 e4 e5
  have h64 : (2 : Nat) ^ b ≤ 2 ^ 64 := Nat.pow_le_pow_right (by omega) hb64
  have ht6 : t6 < 18446744073709551616 := by omega
  have ht1 : t1 < 18446744073709551616 := by omega
  have ht2 : t2 < 18446744073709551616 := by omega
  have ht3 : t3 < 18446744073709551616 := by omega
  have ht4 : t4 < 18446744073709551616 := by omega
  have ht5 : t5 < 18446744073709551616 := by omega
  have h6ne : t6 ≠ 0 := by have := Nat.two_pow_pos (b - 1); omega
  obtain ⟨hc1, hc2, hc3⟩ := Lib.bitLenAux_bounds 64 t6 ht6 h6ne
  have hbl : Lib.bitLen t6 = b := bits_uniq hc2 hc3 g6 l6 hc1 hb1
  have HBL := Lib.hid hbl
  have HT' := Lib.hid HT; clear HT
  clear hbl hb2 hb3 g1 g2 g3 g4 g5 g6 l1 l2 l3 l4 l5 l6 hc1 hc2 hc3 h64 htne h6ne hlt64
  have HTT := Lib.hid ht; clear ht
  have HNN := Lib.hid hN; clear hN
  go_enter Tryz.func161, Tryz.ntmps161
  go_wp2_with fail
  refine (Tryz.bits_Len (t6 : Int) _ (by omega) (by omega)).mono ?_
  rw [show ((t6 : Int).toNat) = t6 by omega, HBL.out]
  rintro e w' ⟨rfl, rfl⟩
  go_wp2
  go_ret
  refine ⟨⟨64 * (n - 1) + b, by omega, by omega, by omega, HT'.out.1, HT'.out.2, ?_⟩, rfl⟩
  refine ret_int ?_
  omega


theorem cmp_len (a b : Option Addr) (n m c d : Nat) (w : World) (hnm : n < m ∨ m < n) (hn : n ≤ 2147483648) (hm : m ≤ 2147483648) :
    Calls Tryz.prog 179 #[.slice a n c, .slice b m d] w fun e w' => e = .returned (.int .i64 (if n < m then -1 else 1)) ∧ ∃ k, w' = w.drewN k := by
  have e1 : (((n : Int) != (m : Int))) = true := by simp; omega
  rcases hnm with h | h
  · have e2 : n < m := h
    go_enter Tryz.func179, Tryz.ntmps179
    go_wp2
    go_ret
    exact ⟨by simp [h], 0, rfl⟩
  · have e2 : ¬ n < m := by omega
    have e3 : m < n := h
    go_enter Tryz.func179, Tryz.ntmps179
    go_wp2
    go_ret
    exact ⟨by simp [e2], 0, rfl⟩
theorem cmp_nil (a b : Option Addr) (c d : Nat) (w : World) :
    Calls Tryz.prog 179 #[.slice a 0 c, .slice b 0 d] w fun e w' => e = .returned (.int .i64 0) ∧ ∃ k, w' = w.drewN k := by
  go_enter Tryz.func179, Tryz.ntmps179
  go_wp2
  go_ret
  exact ⟨rfl, 0, rfl⟩
theorem cmp_some (g o c h p d n V U : Nat) (w : World) (h0 : 0 < n) (hn : n ≤ 2147483648) (hV : V < 2 ^ (64 * n)) (hU : U < 2 ^ (64 * n))
    (hc : ∀ i, i < n → w.cell? ⟨g, o + i, none⟩ = some (.int .u64 (wd V i))) (hd : ∀ i, i < n → w.cell? ⟨h, p + i, none⟩ = some (.int .u64 (wd U i))) :
    Calls Tryz.prog 179 #[.slice (some ⟨g, o, none⟩) n c, .slice (some ⟨h, p, none⟩) n d] w fun e w' => e = .returned (.int .i64 (sgn3 V U)) ∧ ∃ k, w' = w.drewN k := by
  have HD := Lib.hid hd; clear hd
  have HC := Lib.hid hc; clear hc
  have en : (((n : Int) == 0)) = false := by simp; omega
  have hVU : V / 2 ^ (64 * n) = U / 2 ^ (64 * n) := by rw [Nat.div_eq_of_lt hV, Nat.div_eq_of_lt hU]
  have HVU := Lib.hid hVU; clear hVU
  go_enter Tryz.func179, Tryz.ntmps179
  go_wp2_with fail
  go_loopw [7] (fun i wr => ∃ k q : Nat, k < n ∧ i = .int .i64 k ∧ wr = w.drewN q ∧ Hid (V / 2 ^ (64 * (k + 1)) = U / 2 ^ (64 * (k + 1)))) (fun i _ => (intOf i).toNat)
  case atStart => exact ⟨n - 1, 0, by omega, by go_num, rfl, by have := HVU.out; show _ = _; rwa [show n - 1 + 1 = n by omega]⟩
  case round =>
    obtain ⟨k, q, hk, rfl, rfl, HE⟩ := hrel
    have hck := HC.out k hk
    have hdk := HD.out k hk
    by_cases hw : wd V k = wd U k
    · have hwi : (((wd V k : Int) == (wd U k : Int))) = true := by rw [hw]; simp
      have hwl : ¬ ((wd V k : Int) < (wd U k : Int)) := by omega
      have hwg : ¬ ((wd U k : Int) < (wd V k : Int)) := by omega
      have HW := Lib.hid hw; clear hw
      by_cases hkz : 0 < k
      · go_wp2_with fail
        go_quiet (fail)
        go_wp2
        go_roundw
        case rel => exact ⟨k - 1, _, by omega, by go_num, rfl, by have := cmp_eq HE.out HW.out; show _ = _; rwa [show k - 1 + 1 = k by omega]⟩
        case measure => simp [intOf]; omega
      · have hk0 : k = 0 := by omega
        subst hk0
        have hck0 : w.cell? ⟨g, o, none⟩ = some (.int .u64 (wd V 0)) := HC.out 0 hk
        have hdk0 : w.cell? ⟨h, p, none⟩ = some (.int .u64 (wd U 0)) := HD.out 0 hk
        have hVU : V = U := by have := cmp_eq HE.out HW.out; simpa using this
        have hs : sgn3 V U = 0 := by rw [hVU]; simp [sgn3]
        have HS := Lib.hid hs; clear hs hVU
        go_wp2_with fail
        go_quiet (fail)
        go_wp2_with fail
        go_quiet (fail)
        go_wp2_with fail
        go_quiet (fail)
        go_wp2
        go_ret
        exact ⟨by rw [HS.out]; rfl, by simp only [World.drewN_drewN]; exact ⟨_, rfl⟩⟩
    · have hwi : (((wd V k : Int) == (wd U k : Int))) = false := by rw [beq_eq_false_iff_ne]; omega
      rcases Nat.lt_or_gt_of_ne hw with hl | hl
      · have hwl : ((wd V k : Int) < (wd U k : Int)) := by omega
        have hs : sgn3 V U = -1 := by have := cmp_lt HE.out hl; unfold sgn3; rw [if_pos this]
        have HS := Lib.hid hs; clear hs hw
        by_cases hkz : 0 < k
        · go_wp2_with fail
          go_quiet (fail)
          go_wp2_with fail
          go_quiet (fail)
          go_wp2
          go_ret
          exact ⟨by rw [HS.out]; rfl, by simp only [World.drewN_drewN]; exact ⟨_, rfl⟩⟩
        · obtain rfl : k = 0 := by omega
          have hck0 : w.cell? ⟨g, o, none⟩ = some (.int .u64 (wd V 0)) := HC.out 0 hk
          have hdk0 : w.cell? ⟨h, p, none⟩ = some (.int .u64 (wd U 0)) := HD.out 0 hk
          go_wp2_with fail
          go_quiet (fail)
          go_wp2_with fail
          go_quiet (fail)
          go_wp2
          go_ret
          exact ⟨by rw [HS.out]; rfl, by simp only [World.drewN_drewN]; exact ⟨_, rfl⟩⟩
      · have hwl : ¬ ((wd V k : Int) < (wd U k : Int)) := by omega
        have hwg : ((wd U k : Int) < (wd V k : Int)) := by omega
        have hs : sgn3 V U = 1 := by have := cmp_lt HE.out.symm hl; unfold sgn3; rw [if_neg (by omega), if_pos this]
        have HS := Lib.hid hs; clear hs hw
        by_cases hkz : 0 < k
        · go_wp2_with fail
          go_quiet (fail)
          go_wp2_with fail
          go_quiet (fail)
          go_wp2_with fail
          go_quiet (fail)
          go_wp2
          go_ret
          exact ⟨by rw [HS.out]; rfl, by simp only [World.drewN_drewN]; exact ⟨_, rfl⟩⟩
        · obtain rfl : k = 0 := by omega
          have hck0 : w.cell? ⟨g, o, none⟩ = some (.int .u64 (wd V 0)) := HC.out 0 hk
          have hdk0 : w.cell? ⟨h, p, none⟩ = some (.int .u64 (wd U 0)) := HD.out 0 hk
          go_wp2_with fail
          go_quiet (fail)
          go_wp2_with fail
          go_quiet (fail)
          go_wp2_with fail
          go_quiet (fail)
          go_wp2
          go_ret
          exact ⟨by rw [HS.out]; rfl, by simp only [World.drewN_drewN]; exact ⟨_, rfl⟩⟩

end Go.Proofs.YtpcleebnfgnhdaaGreatDoor

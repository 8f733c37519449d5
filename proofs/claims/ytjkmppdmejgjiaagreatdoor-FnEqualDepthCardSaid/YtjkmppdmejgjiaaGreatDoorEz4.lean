import Derived.Test.YtjkmppdmejgjiaaGreatDoorEz3
import Derived.Test.YtjkmppdmejgjiaaGreatDoorEz1
import Derived.Laws.AppendOwn
import Derived.Stop.Asserts
/- Walks: impl.whole: an integer of the program out of the given one. -/
set_option linter.unusedVariables false
set_option linter.unusedSimpArgs false
namespace Go.Proofs.YtjkmppdmejgjiaaGreatDoor
open Go.RowKit
open Num

theorem IntIs.shape {w : World} {base : Nat} {v : Value} {neg : Bool} {V : Nat} (h : IntIs w base v neg V) : ∃ z p, v = .agg #[.int .i64 z, .pointer p] := by
  rcases h with ⟨_, h⟩ | ⟨_, b, s, n, g, c, f, hv, _⟩
  · exact ⟨_, _, h⟩
  · exact ⟨_, _, hv⟩
theorem IntIs.base_le {w : World} {base base' : Nat} {v : Value} {neg : Bool} {V : Nat} (h : IntIs w base v neg V) (hb : base' ≤ base) : IntIs w base' v neg V := by
  rcases h with h | ⟨h1, b, s, n, g, c, f, hv, hbb, hh, h0, hN, hn, hs, hg, hnc, hc, hr, hf⟩
  · exact .inl h
  · exact .inr ⟨h1, b, s, n, g, c, f, hv, by omega, hh, h0, hN, hn, hs, by omega, hnc, hc, hr, hf⟩
theorem IntIs.far {w : World} {base : Nat} {v : Value} {neg : Bool} {V : Nat} (h : IntIs w base v neg V) {p : Addr} (hp : p.block < base) (u : Value) : IntIs (w.setCell p u) base v neg V := by
  rcases h with h | ⟨h1, b, s, n, g, c, f, hv, hbb, hh, h0, hN, hn, hs, hg, hnc, hc, hr, hf⟩
  · exact .inl h
  · exact .inr ⟨h1, b, s, n, g, c, f, hv, hbb, (Below.heap_setCell _ _ _ _ (by omega)).trans hh, h0, hN, hn, hs, hg, hnc, hc, hr.far (by omega) u, hf⟩

/-- an integer object at ⟨b, o⟩: its sign, and its words in a block that is there -/
def IntObj (w : World) (b o : Nat) (neg : Bool) (n V : Nat) : Prop :=
  ∃ ca ta s, w.heap[b]? = some (.cells ca ta (0, 0)) ∧ ca[o]? = some (.bool neg) ∧ ca[o + 1]? = some s ∧ Nw n V ∧ n ≤ 16777216 ∧
    ((n = 0 ∧ ∃ a c, s = .slice a 0 c) ∨ (0 < n ∧ ∃ g p c, s = .slice (some ⟨g, p, none⟩) n c ∧ g < w.heap.size ∧ ∀ i, i < n → w.cell? ⟨g, p + i, none⟩ = some (.int .u64 (wd V i))))

theorem MakeBigInt_any (b o n V : Nat) (neg : Bool) (w : World) (h : IntObj w b o neg n V) :
    Calls Tryz.prog 69 #[.pointer (some ⟨b, o, none⟩)] w fun e w' => ∃ v, e = .returned v ∧ IntIs w' w.heap.size v neg V ∧ Below w.heap.size w w' := by
  obtain ⟨ca, ta, s, hx, x0, x1, hN, hn, hs⟩ := h
  have hx0 : w.cell? ⟨b, o, none⟩ = some (.bool neg) := (cell_of_row w b o ca ta (0, 0) hx).trans x0
  have hx1 : w.cell? ⟨b, o + 1, none⟩ = some s := (cell_of_row w b (o + 1) ca ta (0, 0) hx).trans x1
  rcases hs with ⟨rfl, a, c, rfl⟩ | ⟨h0, g, p, c, rfl, hg, hc⟩
  · obtain rfl : V = 0 := hN.zero_iff.1 rfl
    refine (MakeBigInt_zero b o c a neg w hx0 hx1).mono ?_
    rintro e w' ⟨rfl, hb⟩
    exact ⟨_, rfl, .inl ⟨by simp [sm], by simp⟩, hb⟩
  · cases hs : sm neg V
    · exact MakeBigInt_big b o g p c n V ca ta neg w h0 hn hN hs hx x0 x1 hg hc
    · refine (MakeBigInt_small b o g p c n V neg w h0 (by omega) hN hs hx0 hx1 hg hc).mono ?_
      rintro e w' ⟨rfl, hb⟩
      exact ⟨_, rfl, .inl ⟨hs, rfl⟩, hb⟩
theorem IntObj.keep {w w' : World} {b o n V : Nat} {neg : Bool} (h : IntObj w b o neg n V) (hb : Below w.heap.size w w') : IntObj w' b o neg n V := by
  obtain ⟨ca, ta, s, hx, x0, x1, hN, hn, hs⟩ := h
  refine ⟨ca, ta, s, (hb.block b (Array.getElem?_eq_some_iff.1 hx).1).trans hx, x0, x1, hN, hn, ?_⟩
  rcases hs with hs | ⟨h0, g, p, c, rfl, hg, hc⟩
  · exact .inl hs
  · exact .inr ⟨h0, g, p, c, rfl, Nat.lt_of_lt_of_le hg hb.size, fun i hi => (hb.cell (p := ⟨g, p + i, none⟩) hg).trans (hc i hi)⟩
theorem IntSet.obj {b o tz n V : Nat} {cz : Array Value} {neg : Bool} {w w' : World} (h : IntSet b o cz tz neg n V w w') (hN : Nw n V) (hn : n ≤ 16777216) (hsz : o + 1 < cz.size) : IntObj w' b o neg n V := by
  obtain ⟨s, hnew, hch, hh⟩ := h
  refine ⟨_, tz, s, hh, ?_, ?_, hN, hn, ?_⟩
  · simp [Array.getElem?_setIfInBounds]; omega
  · simp [Array.getElem?_setIfInBounds, hsz]
  · rcases hnew with ⟨rfl, _, rfl⟩ | ⟨h0, hV, g, c, f, rfl, hg, hnc, hc, hr, hf⟩
    · exact .inl ⟨rfl, none, 0, rfl⟩
    · exact .inr ⟨h0, g, 0, c, rfl, hr.lt, fun i hi => by rw [Nat.zero_add, hr.cell (by omega), hf i hi]⟩
/-- the sign is set anew -/
theorem IntObj.resign {w : World} {b o n V : Nat} {neg : Bool} (h : IntObj w b o neg n V) (neg' : Bool) (hne : ∀ g p c ca ta, w.heap[b]? = some (.cells ca ta (0, 0)) → ca[o + 1]? = some (.slice (some ⟨g, p, none⟩) n c) → 0 < n → g ≠ b) : IntObj (w.setCell ⟨b, o, none⟩ (.bool neg')) b o neg' n V := by
  obtain ⟨ca, ta, s, hx, x0, x1, hN, hn, hs⟩ := h
  have hsz : o + 1 < ca.size := by have := (Array.getElem?_eq_some_iff.1 x1).1; exact this
  refine ⟨ca.setIfInBounds o (.bool neg'), ta, s, ?_, ?_, ?_, hN, hn, ?_⟩
  · simp only [World.setCell, Array.getElem?_modify, if_true, hx, Option.map_some]; rfl
  · simp [Array.getElem?_setIfInBounds]; omega
  · simp [Array.getElem?_setIfInBounds, x1]
  · rcases hs with hs | ⟨h0, g, p, c, rfl, hg, hc⟩
    · exact .inl hs
    · have hgb := hne g p c ca ta hx x1 h0
      refine .inr ⟨h0, g, p, c, rfl, by simpa [World.setCell] using hg, fun i hi => ?_⟩
      rw [World.cell?_of_block (w := w) (a := ⟨g, p + i, none⟩) (Below.heap_setCell w ⟨b, o, none⟩ _ g hgb)]
      exact hc i hi

/-- the slice s holds n bytes, the highest first, of V, and no leading 0 -/
def MagAt (w : World) (s : Value) (n V : Nat) : Prop :=
  Nb n V ∧ ((n = 0 ∧ ∃ a c, s = .slice a 0 c) ∨ (0 < n ∧ ∃ g p c, s = .slice (some ⟨g, p, none⟩) n c ∧ n ≤ c ∧ g < w.heap.size ∧ ∀ i, i < n → w.cell? ⟨g, p + i, none⟩ = some (.int .u8 (dg V (n - 1 - i)))))
theorem MagAt.below {w w' : World} {s : Value} {n V : Nat} (h : MagAt w s n V) (hb : Below w.heap.size w w') : MagAt w' s n V := by
  obtain ⟨hN, h⟩ := h
  refine ⟨hN, ?_⟩
  rcases h with h | ⟨h0, g, p, c, rfl, hnc, hg, hc⟩
  · exact .inl h
  · exact .inr ⟨h0, g, p, c, rfl, hnc, Nat.lt_of_lt_of_le hg hb.size, fun i hi => (hb.cell (p := ⟨g, p + i, none⟩) hg).trans (hc i hi)⟩

theorem Int_SetBytes_any (b o n V : Nat) (s : Value) (cz : Array Value) (tz : Nat) (zn : Bool) (w : World) (hm : MagAt w s n V) (hn : n ≤ 16777216)
    (hz : w.heap[b]? = some (.cells cz tz (0, 0))) (z0 : cz[o]? = some (.bool zn)) (z1 : cz[o + 1]? = some (.slice none 0 0)) :
    Calls Tryz.prog 67 #[.pointer (some ⟨b, o, none⟩), s] w fun e w' => e = .returned (.pointer (some ⟨b, o, none⟩)) ∧ ∃ m, Nw m V ∧ m ≤ 16777216 ∧ IntSet b o cz tz false m V w w' := by
  obtain ⟨hN, hm⟩ := hm
  rcases hm with ⟨rfl, a, c, rfl⟩ | ⟨h0, g, p, c, rfl, hnc, hg, hc⟩
  · obtain rfl : V = 0 := hN.zero_iff.1 rfl
    refine (Int_SetBytes_zero b o c a cz tz zn w hz z0 z1).mono ?_
    rintro e w' ⟨rfl, h⟩
    exact ⟨rfl, 0, ⟨by simp, fun h => absurd h (by omega)⟩, by omega, h⟩
  · have hV0 : 0 < V := by
      rcases Nat.eq_zero_or_pos V with h | h
      · have := hN.zero_iff.2 h; omega
      · exact h
    exact Int_SetBytes_some b o g p c n V cz tz zn w hN.1 h0 hn hnc hg hz z0 z1 hV0 hc

theorem IntSet.shape {b o tz n V : Nat} {cz : Array Value} {neg : Bool} {w w' : World} (h : IntSet b o cz tz neg n V w w') : ∃ a c, w'.heap[b]? = some (.cells ((cz.setIfInBounds (o + 1) (.slice a n c)).setIfInBounds o (.bool neg)) tz (0, 0)) ∧ (0 < n → ∃ g, a = some ⟨g, 0, none⟩ ∧ w.heap.size ≤ g) := by
  obtain ⟨s, hnew, hch, hh⟩ := h
  rcases hnew with ⟨rfl, _, rfl⟩ | ⟨h0, hV, g, c, f, rfl, hg, _⟩
  · exact ⟨none, 0, hh, fun h => absurd h (by omega)⟩
  · exact ⟨_, c, hh, fun _ => ⟨g, rfl, hg⟩⟩
/-- storing a starlark integer into its two-cell variable R, below what it points to -/
theorem res_int {w w5 : World} {R T : Nat} {base : Nat} {z : Int} {p : Option Addr} {neg : Bool} {V : Nat} (hb : Below w.heap.size w w5) (hR : w.heap.size ≤ R) (hRb : R < base) (hI : IntIs w5 base (.agg #[.int .i64 z, .pointer p]) neg V) :
    IntIs ((w5.setCell ⟨R, 0, none⟩ (.int .i64 z)).setCell ⟨R, 1, none⟩ (.pointer p)) w.heap.size (.agg #[.int .i64 z, .pointer p]) neg V ∧ Below w.heap.size w ((w5.setCell ⟨R, 0, none⟩ (.int .i64 z)).setCell ⟨R, 1, none⟩ (.pointer p)) :=
  ⟨((hI.far hRb _).far hRb _).base_le (by omega), (hb.setCell hR _).setCell hR _⟩

theorem whole_any (k : Int) (neg : Bool) (s : Value) (bits : Int) (text : ByteArray) (kids : Value) (n V : Nat) (w : World) (hm : MagAt w s n V) (hn : n ≤ 16777216) (hneg : neg = true → 0 < V) (hone : s.oneCell' = true) (hkone : kids.oneCell' = true) :
    Calls Tryz.prog 48 #[.agg #[.int .i64 k, .bool neg, s, .int .u64 bits, .string text, kids]] w fun e w' => ∃ v, e = .returned v ∧ IntIs w' w.heap.size v neg V ∧ Below w.heap.size w w' := by
  have HM := Lib.hid hm; clear hm
  go_enter Tryz.func48, Tryz.ntmps48
  go_wp2_with fail
  have hb3 : Below w.heap.size w (((w.alloc (Obj.cells #[Value.int IntKind.i64 k, Value.bool neg, s, Value.int IntKind.u64 bits, Value.string text, kids] 26)).alloc (Obj.cells #[Value.int IntKind.i64 0, Value.pointer none] 105)).alloc (Obj.cells #[Value.bool false, Value.slice none 0 0] 159)) := (((Below.refl _ _).alloc (Nat.le_refl _) _).alloc (by simp) _).alloc (by simp; omega) _
  have hB : (((w.alloc (Obj.cells #[Value.int IntKind.i64 k, Value.bool neg, s, Value.int IntKind.u64 bits, Value.string text, kids] 26)).alloc (Obj.cells #[Value.int IntKind.i64 0, Value.pointer none] 105)).alloc (Obj.cells #[Value.bool false, Value.slice none 0 0] 159)).heap[w.heap.size]? = some (Obj.cells #[Value.int IntKind.i64 k, Value.bool neg, s, Value.int IntKind.u64 bits, Value.string text, kids] 26 (0, 0)) :=
    (Below.heap_alloc _ _ _ (by simp; omega)).trans ((Below.heap_alloc _ _ _ (by simp)).trans (heap_alloc_new w _))
  have hR : (((w.alloc (Obj.cells #[Value.int IntKind.i64 k, Value.bool neg, s, Value.int IntKind.u64 bits, Value.string text, kids] 26)).alloc (Obj.cells #[Value.int IntKind.i64 0, Value.pointer none] 105)).alloc (Obj.cells #[Value.bool false, Value.slice none 0 0] 159)).heap[w.heap.size + 1]? = some (Obj.cells #[Value.int IntKind.i64 0, Value.pointer none] 105 (0, 0)) :=
    (Below.heap_alloc _ _ _ (by simp)).trans (by have := heap_alloc_new (w.alloc (Obj.cells #[Value.int IntKind.i64 k, Value.bool neg, s, Value.int IntKind.u64 bits, Value.string text, kids] 26)) (Obj.cells #[Value.int IntKind.i64 0, Value.pointer none] 105); simpa using this)
  have hI : (((w.alloc (Obj.cells #[Value.int IntKind.i64 k, Value.bool neg, s, Value.int IntKind.u64 bits, Value.string text, kids] 26)).alloc (Obj.cells #[Value.int IntKind.i64 0, Value.pointer none] 105)).alloc (Obj.cells #[Value.bool false, Value.slice none 0 0] 159)).heap[w.heap.size + 1 + 1]? = some (Obj.cells #[Value.bool false, Value.slice none 0 0] 159 (0, 0)) := by
    have := heap_alloc_new ((w.alloc (Obj.cells #[Value.int IntKind.i64 k, Value.bool neg, s, Value.int IntKind.u64 bits, Value.string text, kids] 26)).alloc (Obj.cells #[Value.int IntKind.i64 0, Value.pointer none] 105)) (Obj.cells #[Value.bool false, Value.slice none 0 0] 159)
    simpa using this
  have hsz : (((w.alloc (Obj.cells #[Value.int IntKind.i64 k, Value.bool neg, s, Value.int IntKind.u64 bits, Value.string text, kids] 26)).alloc (Obj.cells #[Value.int IntKind.i64 0, Value.pointer none] 105)).alloc (Obj.cells #[Value.bool false, Value.slice none 0 0] 159)).heap.size = w.heap.size + 3 := by simp
  generalize (((w.alloc (Obj.cells #[Value.int IntKind.i64 k, Value.bool neg, s, Value.int IntKind.u64 bits, Value.string text, kids] 26)).alloc (Obj.cells #[Value.int IntKind.i64 0, Value.pointer none] 105)).alloc (Obj.cells #[Value.bool false, Value.slice none 0 0] 159)) = w3 at *
  refine (Int_SetBytes_any (w.heap.size + 1 + 1) 0 n V s _ _ false w3 (HM.out.below hb3) hn hI rfl rfl).mono ?_
  rintro e w4 ⟨rfl, m, hNm, hm24, hset⟩
  have hch := hset.choose_spec.2.1
  have hb4 : Below w.heap.size w w4 := Chg.below hb3 (by omega) hch (by omega)
  have hB4 := (hch.block (w.heap.size) (by omega) (by omega)).trans hB
  have hR4 := (hch.block (w.heap.size + 1) (by omega) (by omega)).trans hR
  have hobj := hset.obj hNm hm24 (by simp)
  obtain ⟨a, c, hsh, hag⟩ := hset.shape
  have nc : w4.cell? ⟨w.heap.size, 1, none⟩ = some (.bool neg) := (cell_of_row w4 _ 1 _ _ (0, 0) hB4).trans rfl
  have hsz4 : w.heap.size + 3 ≤ w4.heap.size := by have := hch.size; omega
  clear hB hR hI hB4
  have HSH := Lib.hid hsh; clear hsh
  have HSZ := Lib.hid hsz; clear hsz
  have HR4 := Lib.hid hR4; clear hR4
  have HNM := Lib.hid hNm; clear hNm
  clear hset hch
  cases neg
  · go_wp2_with fail
    refine (MakeBigInt_any _ _ m V false w4 hobj).mono ?_
    rintro e w5 ⟨v, rfl, hI5, hb5⟩
    obtain ⟨z, p, rfl⟩ := hI5.shape
    have hR5 := (hb5.block (w.heap.size + 1) (by omega)).trans HR4.out
    have c0 := (cell_of_row w5 _ 0 _ _ (0, 0) hR5).trans rfl
    have c1 := (cell_of_row w5 _ 1 _ _ (0, 0) hR5).trans rfl
    have f0 : w5.frozen? ⟨w.heap.size + 1, 0, none⟩ = false := by simp [World.frozen?, hR5]
    have f1 : w5.frozen? ⟨w.heap.size + 1, 1, none⟩ = false := by simp [World.frozen?, hR5]
    have HR5 := Lib.hid hR5; clear hR5
    have HI5 := Lib.hid hI5; clear hI5
    go_wp2
    have hW := set2 (x := .int .i64 z) (y := .pointer p) HR5.out
    have e0 := (cell_of_row _ _ 0 _ _ (0, 0) hW).trans rfl
    have e1 := (cell_of_row _ _ 1 _ _ (0, 0) hW).trans rfl
    have hfin := res_int (R := w.heap.size + 1) (T := 0) (hb4.trans (hb5.mono (by omega))) (by omega) (by omega) HI5.out
    exact bodyPost_ret (v := .agg #[.int .i64 z, .pointer p]) (by simp [results, Tryz.results48, go_sem, e0, e1]) rfl ⟨_, rfl, hfin.1, hfin.2⟩
  · have hV := hneg rfl
    have hm0 : 0 < m := by
      rcases Nat.eq_zero_or_pos m with h | h
      · have := HNM.out.zero_iff.1 h; omega
      · exact h
    obtain ⟨ga, rfl, hga⟩ := hag hm0
    have hobj2 := hobj.resign true (fun g p c ca ta h1 h2 _ => by
      rw [HSH.out] at h1
      injection h1 with h1
      injection h1 with h1
      subst h1
      simp [Array.getElem?_setIfInBounds] at h2
      have h9 := HSZ.out
      omega)
    have HO2 := Lib.hid hobj2; clear hobj2
    have HNEG := Lib.hid (Int_Neg_own (w.heap.size + 1 + 1) 0 m c _ _ _ false w4 HSH.out rfl rfl)
    have hd : (decide (0 < m) && !false) = true := by simp [hm0]
    rw [hd] at HNEG
    clear hd
    go_wp2_with fail
    refine HNEG.out.mono ?_
    rintro e w5 ⟨rfl, rfl⟩
    go_wp2_with fail
    refine (MakeBigInt_any _ _ m V true _ HO2.out).mono ?_
    rintro e w5 ⟨v, rfl, hI5, hb5⟩
    obtain ⟨z, p, rfl⟩ := hI5.shape
    have hsz5 : (w4.setCell ⟨w.heap.size + 1 + 1, 0, none⟩ (.bool true)).heap.size = w4.heap.size := by simp [World.setCell]
    have hR5 := (hb5.block (w.heap.size + 1) (by omega)).trans ((Below.heap_setCell w4 ⟨w.heap.size + 1 + 1, 0, none⟩ (.bool true) (w.heap.size + 1) (by simp)).trans HR4.out)
    have c0 := (cell_of_row w5 _ 0 _ _ (0, 0) hR5).trans rfl
    have c1 := (cell_of_row w5 _ 1 _ _ (0, 0) hR5).trans rfl
    have f0 : w5.frozen? ⟨w.heap.size + 1, 0, none⟩ = false := by simp [World.frozen?, hR5]
    have f1 : w5.frozen? ⟨w.heap.size + 1, 1, none⟩ = false := by simp [World.frozen?, hR5]
    have HR5 := Lib.hid hR5; clear hR5
    have HI5 := Lib.hid hI5; clear hI5
    have HSZ5 := Lib.hid hsz5; clear hsz5
    go_wp2
    have hW := set2 (x := .int .i64 z) (y := .pointer p) HR5.out
    have e0 := (cell_of_row _ _ 0 _ _ (0, 0) hW).trans rfl
    have e1 := (cell_of_row _ _ 1 _ _ (0, 0) hW).trans rfl
    have h9 := HSZ5.out
    have hfin := res_int (R := w.heap.size + 1) (T := 0) ((hb4.setCell (p := ⟨w.heap.size + 1 + 1, 0, none⟩) (by simp; omega) (.bool true)).trans (hb5.mono (by omega))) (by omega) (by omega) HI5.out
    exact bodyPost_ret (v := .agg #[.int .i64 z, .pointer p]) (by simp [results, Tryz.results48, go_sem, e0, e1]) rfl ⟨_, rfl, hfin.1, hfin.2⟩

end Go.Proofs.YtjkmppdmejgjiaaGreatDoor

/- Walks: impl.number: a given value out of an integer of the program. -/
set_option linter.unusedVariables false
set_option linter.unusedSimpArgs false
namespace Go.Proofs.YtjkmppdmejgjiaaGreatDoor
open Go.RowKit
open Num

theorem belowN {B : Nat} {a w : World} (h : Below B a w) (n : Nat) : Below B a (w.drewN n) := ⟨h.os, h.tape, h.output, h.size, h.block⟩

theorem get_any (z : Int) (p : Option Addr) (w : World) :
    Calls Tryz.prog 72 #[.agg #[.int .i64 z, .pointer p]] w fun e w' => e = .returned (.tuple #[.int .i64 z, .pointer p]) ∧ Below w.heap.size w w' := by
  go_enter Tryz.func72, Tryz.ntmps72
  go_wp2
  go_quiet (fail)
  go_wp2
  go_ret2
  exact ⟨rfl, by first | exact (Below.refl _ _).alloc (Nat.le_refl _) _ | exact belowN ((Below.refl _ _).alloc (Nat.le_refl _) _) _⟩

theorem NewInt_zero (w : World) :
    Calls Tryz.prog 125 #[.int .i64 0] w fun e w' => e = .returned (.pointer (some ⟨w.heap.size, 0, none⟩)) ∧ w' = w.alloc (.cells #[.bool false, .slice none 0 0] 159) := by
  go_enter Tryz.func125, Tryz.ntmps125
  go_wp2
  go_ret
  exact ⟨rfl, rfl⟩
theorem NewInt_pos (V : Nat) (w : World) (h0 : 0 < V) (hV : V ≤ 9223372036854775807) :
    Calls Tryz.prog 125 #[.int .i64 (V : Int)] w fun e w' => e = .returned (.pointer (some ⟨w.heap.size + 1, 0, none⟩)) ∧ w' = (w.alloc (.cells #[.int .u64 (V : Int)] 195)).alloc (.cells #[.bool false, .slice (some ⟨w.heap.size, 0, none⟩) 1 1] 159) := by
  have e0 : ((V : Int) == 0) = false := by simp; omega
  have e1 : ¬ ((V : Int) < 0) := by omega
  go_enter Tryz.func125, Tryz.ntmps125
  go_wp2
  go_ret
  exact ⟨rfl, rfl⟩
theorem NewInt_neg (V : Nat) (w : World) (h0 : 0 < V) (hV : V ≤ 9223372036854775808) :
    Calls Tryz.prog 125 #[.int .i64 (-(V : Int))] w fun e w' => e = .returned (.pointer (some ⟨w.heap.size + 1, 0, none⟩)) ∧ w' = (w.alloc (.cells #[.int .u64 (V : Int)] 195)).alloc (.cells #[.bool true, .slice (some ⟨w.heap.size, 0, none⟩) 1 1] 159) := by
  have e0 : ((-(V : Int)) == 0) = false := by simp; omega
  have e1 : (-(V : Int)) < 0 := by omega
  have e2 : IntKind.u64.wrap (-(IntKind.u64.wrap (-(V : Int)))) = (V : Int) := by
    simp only [IntKind.wrap_u64]; omega
  have e3 : IntKind.u64.wrap (-(V : Int)) = 18446744073709551616 - (V : Int) := by
    simp only [IntKind.wrap_u64]; omega
  clear e3
  go_enter Tryz.func125, Tryz.ntmps125
  go_wp2
  go_ret
  exact ⟨rfl, rfl⟩

theorem sm_bound {neg : Bool} {V : Nat} (h : sm neg V = true) : V ≤ 2147483648 := by
  cases neg <;> simp [sm] at h <;> omega
theorem nw_one {V : Nat} (h0 : 0 < V) (hV : V ≤ 9223372036854775808) : Nw 1 V := ⟨by simp; omega, fun _ => by simp; omega⟩
theorem wd_zero_small {V : Nat} (hV : V ≤ 9223372036854775808) : wd V 0 = V := by unfold wd; simp; omega
/-- an integer of one word, made anew -/
theorem obj_one {w : World} {V : Nat} {neg : Bool} (h0 : 0 < V) (hV : V ≤ 9223372036854775808) :
    IntObj ((w.alloc (.cells #[.int .u64 (V : Int)] 195)).alloc (.cells #[.bool neg, .slice (some ⟨w.heap.size, 0, none⟩) 1 1] 159)) (w.heap.size + 1) 0 neg 1 V := by
  refine ⟨#[.bool neg, .slice (some ⟨w.heap.size, 0, none⟩) 1 1], 159, _, ?_, rfl, rfl, nw_one h0 hV, by omega, .inr ⟨by omega, w.heap.size, 0, 1, rfl, by simp; omega, fun i hi => ?_⟩⟩
  · have := heap_alloc_new (w.alloc (.cells #[.int .u64 (V : Int)] 195)) (.cells #[.bool neg, .slice (some ⟨w.heap.size, 0, none⟩) 1 1] 159)
    simpa using this
  · obtain rfl : i = 0 := by omega
    have h := (Below.heap_alloc (w.alloc (.cells #[.int .u64 (V : Int)] 195)) (.cells #[.bool neg, .slice (some ⟨w.heap.size, 0, none⟩) 1 1] 159) w.heap.size (by simp)).trans (heap_alloc_new w _)
    rw [cell_of_row _ _ 0 _ _ (0, 0) h, wd_zero_small hV]; rfl

end Go.Proofs.YtjkmppdmejgjiaaGreatDoor

/- Walks: *Int's Bytes; impl.number. -/
set_option linter.unusedVariables false
set_option linter.unusedSimpArgs false
namespace Go.Proofs.YtjkmppdmejgjiaaGreatDoor
open Go.RowKit
open Num

theorem u8Info : (Tryz.prog.info? 5).map (fun i => (i.zero, i.size, i.bytes)) = some (some (.int .u8 0), 1, 1) := by kernel_rfl
theorem bytesUnder : Tryz.prog.underlying 22 = some (.slice 5) := by kernel_rfl
theorem run_make_bytes (c : Nat) (hc : c ≤ 281474976710656) : ∀ W : World, (Instr.makeSlice 22 (.int .i64 (c : Int)) (.int .i64 (c : Int))).run Tryz.prog W =
    .ok (.slice (some ⟨W.heap.size, 0, none⟩) c c) (W.alloc (.cells (madeCells #[.int .u8 0] c) 5)) := by
  intro W
  obtain ⟨i0, hi, hzz⟩ := Option.map_eq_some_iff.1 u8Info
  simp only [Prod.mk.injEq] at hzz
  obtain ⟨hz0, hz1, hz2⟩ := hzz
  have h := run_make (P := Tryz.prog) W 22 5 i0 (.int .u8 0) bytesUnder hi hz0 .i64 .i64 (c : Int) (c : Int) (by omega) (by omega) (by rw [hz2]; omega) (by omega)
  simp only [Int.toNat_natCast, hz1, Nat.mul_one] at h
  exact h

theorem IntObj.cells {w : World} {b n V : Nat} {neg : Bool} {a : Option Addr} {c : Nat} {T : Nat} (h : w.heap[b]? = some (.cells #[.bool neg, .slice a n c] T (0, 0))) : w.cell? ⟨b, 0, none⟩ = some (.bool neg) ∧ w.cell? ⟨b, 1, none⟩ = some (.slice a n c) :=
  ⟨(cell_of_row w _ 0 _ _ (0, 0) h).trans rfl, (cell_of_row w _ 1 _ _ (0, 0) h).trans rfl⟩

theorem MagAt.shape {w : World} {s : Value} {n V : Nat} (h : MagAt w s n V) : ∃ a c, s = .slice a n c := by
  rcases h.2 with ⟨rfl, a, c, rfl⟩ | ⟨_, g, p, c, rfl, _⟩
  · exact ⟨a, c, rfl⟩
  · exact ⟨_, c, rfl⟩
theorem MagAt.far {w : World} {s : Value} {n V : Nat} (h : MagAt w s n V) {p : Addr} (hne : ∀ a k c, s = .slice (some a) k c → a.block ≠ p.block) (u : Value) : MagAt (w.setCell p u) s n V := by
  refine ⟨h.1, ?_⟩
  rcases h.2 with h2 | ⟨h0, g, o, c, rfl, hnc, hg, hc⟩
  · exact .inl h2
  · have hgp : g ≠ p.block := hne ⟨g, o, none⟩ n c rfl
    exact .inr ⟨h0, g, o, c, rfl, hnc, by simpa [World.setCell] using hg, fun i hi => (World.cell?_of_block (w := w) (a := ⟨g, o + i, none⟩) (Below.heap_setCell w p u g hgp)).trans (hc i hi)⟩
theorem set1 {w3 : World} {B T i : Nat} {cs : Array Value} {x : Value} (h : w3.heap[B]? = some (.cells cs T (0, 0))) : (w3.setCell ⟨B, i, none⟩ x).heap[B]? = some (.cells (cs.setIfInBounds i x) T (0, 0)) := by
  simp only [World.setCell, Array.getElem?_modify, if_true, h, Option.map_some]; rfl

end Go.Proofs.YtjkmppdmejgjiaaGreatDoor

/- append onto an empty slice that is not nil: a fresh row. No program in sight. -/
set_option linter.unusedVariables false
set_option linter.unusedSimpArgs false
namespace Go.Proofs.YtjkmppdmejgjiaaGreatDoor
open Go.RowKit
open Num

theorem below_drewN {B n : Nat} {w w' : World} (h : Below B w w') : Below B w (w'.drewN n) := ⟨h.os, h.tape, h.output, h.size, h.block⟩
theorem heap2_0 (w : World) (A B : Obj) : ((w.alloc A).alloc B).heap[w.heap.size]? = some A := (heap_alloc_old _ _ (by simp)).trans (heap_alloc_new w A)
theorem heap2_1 (w : World) (A B : Obj) : ((w.alloc A).alloc B).heap[w.heap.size + 1]? = some B := by have := heap_alloc_new (w.alloc A) B; simpa using this
theorem heap3_0 (w : World) (A B C : Obj) : (((w.alloc A).alloc B).alloc C).heap[w.heap.size]? = some A := (heap_alloc_old _ _ (by simp; omega)).trans (heap2_0 w A B)
theorem heap3_1 (w : World) (A B C : Obj) : (((w.alloc A).alloc B).alloc C).heap[w.heap.size + 1]? = some B := (heap_alloc_old _ _ (by simp)).trans (heap2_1 w A B)
theorem heap3_2 (w : World) (A B C : Obj) : (((w.alloc A).alloc B).alloc C).heap[w.heap.size + 2]? = some C := by have := heap_alloc_new ((w.alloc A).alloc B) C; simpa using this

/-- v is a slice of m cells, in a block that is new since w, with the cells src -/
def Fresh (w w' : World) (v : Value) (m : Nat) (src : Nat → Value) (T : TypeId) : Prop :=
  Below w.heap.size w w' ∧ ((m = 0 ∧ ∃ a c, v = .slice a 0 c) ∨ (0 < m ∧ ∃ c N f, v = .slice (some ⟨w.heap.size, 0, none⟩) m c ∧ m ≤ c ∧ m ≤ N ∧ Row w' w.heap.size T N f ∧ ∀ j, j < m → f j = src j))

theorem Fresh.shape {w w' : World} {v : Value} {m : Nat} {src : Nat → Value} {T : TypeId} (h : Fresh w w' v m src T) : ∃ a c, v = .slice a m c := by
  rcases h.2 with ⟨rfl, a, c, rfl⟩ | ⟨h0, c, N, f, rfl, _⟩
  · exact ⟨a, c, rfl⟩
  · exact ⟨_, c, rfl⟩

theorem Fresh.new {w w' : World} {v : Value} {m : Nat} {src : Nat → Value} {T : TypeId} (h : Fresh w w' v m src T) : ∀ a k c, v = .slice (some a) k c → 0 < m → a.block = w.heap.size := by
  intro a k c e h0
  rcases h.2 with ⟨rfl, _⟩ | ⟨_, c, N, f, rfl, _⟩
  · omega
  · injection e with e; injection e with e; subst e; rfl

theorem run_append_fresh {P : Program} {w : World} (t ty : TypeId) (e : TypeId) (z : Value) (ht : P.underlying t = some (.slice e)) (hi : (P.info? e).map (fun i => (i.zero, i.size, i.bytes)) = some (some z, 1, 1)) (hz : z.cells = #[z])
    (B : Addr) (sp : Option Addr) (m c : Nat) (src : Nat → Value) (hm : m ≤ 1099511627776)
    (hsrc : 0 < m → ∃ ad, sp = some ad ∧ ∀ j, j < m → w.cell? (ad.add j) = some (src j)) :
    ∃ v' w', (Builtin.append_ #[t, t] ty #[.slice (some B) 0 0, .slice sp m c]).run P w = .ok v' w' ∧ Fresh w w' v' m src e := by
  obtain ⟨i, hi, hi2⟩ := Option.map_eq_some_iff.1 hi
  simp only [Prod.mk.injEq] at hi2
  obtain ⟨hz0, hsz, hby⟩ := hi2
  by_cases h0 : m = 0
  · subst h0
    refine ⟨.slice (some B) 0 0, w, ?_, Below.refl _ _, .inl ⟨rfl, _, _, rfl⟩⟩
    cases sp <;> simp [Builtin.append_, run_underlying ht, sizeOf, typeInfo, hi, Builtin.lenOf, Builtin.firstCells, loadCells, loadCellsFrom, storeCells]
  · obtain ⟨ad, rfl, hc⟩ := hsrc (by omega)
    have hr := run_append_grow (P := P) w t ty e i z ht hi hz0 B 0 0 [] (by simp) (by simp) ad m c ((List.range m).map src) (by simp [hsz]) (by
      intro j v hj
      simp only [List.getElem?_map, Option.map_eq_some_iff] at hj
      obtain ⟨q, hq, rfl⟩ := hj
      have hjm : j < m := by
        have := (List.getElem?_eq_some_iff.1 hq).1
        simpa using this
      rw [List.getElem?_range hjm] at hq
      injection hq with hq
      subst hq
      exact hc _ hjm) (by omega) (by omega) (growslice_fits (by omega) (by rw [hby]; omega))
    refine ⟨_, _, hr, ⟨rfl, rfl, rfl, by simp, fun k hk => heap_alloc_old w.drew _ hk⟩, .inr ⟨by omega, grownCap w (0 + m) 0 e, _, _, by rw [Nat.zero_add], ?_, ?_, Row.lit w.drew e _, fun j hj => ?_⟩⟩
    · have := grownCap_ge w (0 + m) 0 e
      omega
    · simp
    · have hj2 : j < ((List.range m).map src).length := by simpa using hj
      simp [Array.getD, hj, Array.getElem_append]
      intro hn
      omega

theorem wpList_append_fresh {P : Program} {w : World} {ops : Array Oper} {rest : List Oper} {o : Oper} {a : Act} {Q : Exit → Act → World → Prop} (hgd : o.guard = none) (s x : Operand) (t : TypeId)
    (ho : o.op = .call { callee := .builtin .append, args := #[s, x], argTypes := #[t, t] }) (e : TypeId) (z : Value) (ht : P.underlying t = some (.slice e)) (hi : (P.info? e).map (fun i => (i.zero, i.size, i.bytes)) = some (some z, 1, 1)) (hz : z.cells = #[z])
    (B : Addr) (hs : a.eval s = .slice (some B) 0 0) (sp : Option Addr) (m c : Nat) (hx : a.eval x = .slice sp m c) (src : Nat → Value) (hm : m ≤ 1099511627776)
    (hsrc : 0 < m → ∃ ad, sp = some ad ∧ ∀ j, j < m → w.cell? (ad.add j) = some (src j))
    (h : ∀ v' w', Hid (Fresh w w' v' m src e) → wpList P ops Q rest (a.put o.dst v') w') : wpList P ops Q (o :: rest) a w := by
  obtain ⟨v', w', hr, hf⟩ := run_append_fresh (P := P) (w := w) t o.type e z ht hi hz B sp m c src hm hsrc
  refine wpList_plain hgd fun K hK => ?_
  unfold Oper.wp execOp
  simp only [ho, resolve, invoke, builtin, Sem.run_bind, Sem.run_pure, Result.andThen_ok, List.map_toArray, List.map_cons, List.map_nil, hs, hx, hr]
  exact hK _ _ (h v' w' hf)

theorem step_append_fresh {P : Program} {w : World} {ops : Array Oper} {o : Oper} {a : Act} {K : Act → World → Prop} {Q : Exit → Act → World → Prop} {E : Prop} (hgd : o.guard = none) (s x : Operand) (t : TypeId)
    (ho : o.op = .call { callee := .builtin .append, args := #[s, x], argTypes := #[t, t] }) (e : TypeId) (z : Value) (ht : P.underlying t = some (.slice e)) (hi : (P.info? e).map (fun i => (i.zero, i.size, i.bytes)) = some (some z, 1, 1)) (hz : z.cells = #[z])
    (B : Addr) (hs : a.eval s = .slice (some B) 0 0) (sp : Option Addr) (m c : Nat) (hx : a.eval x = .slice sp m c) (src : Nat → Value) (hm : m ≤ 1099511627776)
    (hsrc : 0 < m → ∃ ad, sp = some ad ∧ ∀ j, j < m → w.cell? (ad.add j) = some (src j))
    (h : ∀ v' w', Hid (Fresh w w' v' m src e) → K (a.put o.dst v') w') :
    if Region.wanted o (yielded ops a.tmps) = true then Oper.wp P o a w K Q else E := by
  obtain ⟨v', w', hr, hf⟩ := run_append_fresh (P := P) (w := w) t o.type e z ht hi hz B sp m c src hm hsrc
  have hw : Region.wanted o (yielded ops a.tmps) = true := by simp [Region.wanted, hgd]
  rw [if_pos hw]
  unfold Oper.wp execOp
  simp only [ho, resolve, invoke, builtin, Sem.run_bind, Sem.run_pure, Result.andThen_ok, List.map_toArray, List.map_cons, List.map_nil, hs, hx, hr]
  exact h v' w' hf

end Go.Proofs.YtjkmppdmejgjiaaGreatDoor

/- Walks: spec.cut, spec.Of, laws.told, laws.whole. -/
set_option linter.unusedVariables false
set_option linter.unusedSimpArgs false
namespace Go.Proofs.YtjkmppdmejgjiaaGreatDoor
open Go.RowKit
open Num

/-- the slice s holds n bytes, the highest first, of V, leading zeros among them -/
def BytAt (w : World) (s : Value) (n V : Nat) : Prop :=
  V < 2 ^ (8 * n) ∧ ((n = 0 ∧ ∃ a c, s = .slice a 0 c) ∨ (0 < n ∧ ∃ g p c, s = .slice (some ⟨g, p, none⟩) n c ∧ n ≤ c ∧ g < w.heap.size ∧ ∀ i, i < n → w.cell? ⟨g, p + i, none⟩ = some (.int .u8 (dg V (n - 1 - i)))))
theorem MagAt.byt {w : World} {s : Value} {n V : Nat} (h : MagAt w s n V) : BytAt w s n V := ⟨h.1.1, h.2⟩
theorem u8InfoO : (Tryz.prog.info? 5).map (fun i => (i.zero, i.size, i.bytes)) = some (some (.int .u8 0), 1, 1) := u8Info

/-- what the spec's functions answer: a fresh magnitude -/
def NewMag (w w' : World) (s : Value) (m V : Nat) : Prop := MagAt w' s m V ∧ (∀ a k c, s = .slice (some a) k c → 0 < m → w.heap.size ≤ a.block) ∧ Below w.heap.size w w'
theorem Fresh.mag {w0 w w' : World} {v : Value} {m V : Nat} {src : Nat → Value} (h : Fresh w w' v m src 5) (hb0 : Below w0.heap.size w0 w) (hN : Nb m V) (hs : ∀ i, i < m → src i = .int .u8 (dg V (m - 1 - i))) : NewMag w0 w' v m V := by
  obtain ⟨hb, h⟩ := h
  have hb2 := hb0.trans (hb.mono hb0.size)
  rcases h with ⟨rfl, a, c, rfl⟩ | ⟨h0, c, N, f, rfl, hmc, hmN, hr, hf⟩
  · exact ⟨⟨hN, .inl ⟨rfl, a, c, rfl⟩⟩, fun _ _ _ _ h => absurd h (by omega), hb2⟩
  · refine ⟨⟨hN, .inr ⟨h0, _, 0, c, rfl, hmc, hr.lt, fun i hi => ?_⟩⟩, fun a k c e _ => ?_, hb2⟩
    · rw [Nat.zero_add, hr.cell (by omega), hf i hi, hs i hi]
    · injection e with e; injection e with e; subst e; exact hb0.size
theorem NewMag.from {w0 w w' : World} {s : Value} {m V : Nat} (h : NewMag w w' s m V) (hb : Below w0.heap.size w0 w) : NewMag w0 w' s m V :=
  ⟨h.1, fun a k c e h0 => Nat.le_trans hb.size (h.2.1 a k c e h0), hb.trans (h.2.2.mono hb.size)⟩

theorem NewMag.put {w w' : World} {s : Value} {m V : Nat} (h : NewMag w w' s m V) {B o : Nat} (hB : w.heap.size ≤ B) (hne : ∀ a k c, s = .slice (some a) k c → 0 < m → a.block ≠ B) (u : Value) : NewMag w (w'.setCell ⟨B, o, none⟩ u) s m V := by
  refine ⟨?_, h.2.1, h.2.2.setCell hB _⟩
  refine ⟨h.1.1, ?_⟩
  rcases h.1.2 with h2 | ⟨h0, g, q, c, rfl, hnc, hg, hc⟩
  · exact .inl h2
  · have hgp : g ≠ B := hne ⟨g, q, none⟩ m c rfl h0
    exact .inr ⟨h0, g, q, c, rfl, hnc, by simpa [World.setCell] using hg, fun i hi => (World.cell?_of_block (w := w') (a := ⟨g, q + i, none⟩) (Below.heap_setCell w' ⟨B, o, none⟩ u g hgp)).trans (hc i hi)⟩
theorem NewMag.on {w w' w2 : World} {s : Value} {m V : Nat} (h : NewMag w w' s m V) (hb : Below w'.heap.size w' w2) : NewMag w w2 s m V :=
  ⟨h.1.below hb, h.2.1, h.2.2.trans (hb.mono h.2.2.size)⟩

theorem cut_any (s : Value) (n V : Nat) (w : World) (h : BytAt w s n V) (hn : n ≤ 1099511627776) :
    Calls Tryz.prog 32 #[s] w fun e w' => ∃ s' m, e = .returned s' ∧ m ≤ n ∧ NewMag w w' s' m V := by
  obtain ⟨hV, h⟩ := h
  rcases h with ⟨rfl, a, c, rfl⟩ | ⟨h0, g, p, c, rfl, hnc, hg, hc⟩
  · obtain rfl : V = 0 := by simpa using hV
    go_enter Tryz.func32, Tryz.ntmps32
    go_wp2_with fail
    refine wp_loop_rounds 1 ?_
    rw [rounds_succ]
    go_wp2_with ((with_reducible show wpList _ _ _ _ _ _); refine wpList_append_fresh rfl (.tmp 17) (.tmp 20) 22 rfl 5 (.int .u8 0) bytesUnder u8Info rfl _ rfl _ 0 _ rfl (fun _ => .int .u8 0) (by omega) (fun h => absurd h (by omega)) ?_; intro v' w' hfr)
    go_ret
    exact ⟨_, 0, rfl, Nat.le_refl _, hfr.out.mag ((Below.refl _ _).alloc (Nat.le_refl _) _) ⟨by simp, fun h => absurd h (by omega)⟩ (fun i hi => absurd hi (by omega))⟩
  · have HV := Lib.hid hV; clear hV
    have HC := Lib.hid hc
    go_enter Tryz.func32, Tryz.ntmps32
    go_wp2_with fail
    go_loop [3] (fun i => ∃ r : Nat, r ≤ n ∧ i = .int .i64 r ∧ V < 2 ^ (8 * (n - r))) (fun i => n - (intOf i).toNat)
    case atStart => exact ⟨0, by omega, by go_num, by simpa using HV.out⟩
    case round =>
      obtain ⟨r, hr, rfl, hrV⟩ := hrel
      by_cases hrn : r < n
      · have cr := HC.out r hrn
        by_cases hz : dg V (n - 1 - r) = 0
        · go_wp2
          go_round
          case rel =>
            refine ⟨r + 1, by omega, by go_num, ?_⟩
            have := lt_of_dg_zero (n := n - 1 - r) (by rw [show n - 1 - r + 1 = n - r by omega]; exact hrV) hz
            rw [show n - (r + 1) = n - 1 - r by omega]; exact this
          case measure => simp [intOf]; omega
        · have hN : Nb (n - r) V := ⟨hrV, fun _ => by have := le_of_dg_ne hz; rwa [show n - r - 1 = n - 1 - r by omega]⟩
          have HN := Lib.hid hN; clear hN
          have HRV := Lib.hid hrV; clear hrV
          go_wp2_with ((with_reducible show wpList _ _ _ _ _ _); refine wpList_append_fresh rfl (.tmp 17) (.tmp 20) 22 rfl 5 (.int .u8 0) bytesUnder u8Info rfl _ rfl _ (n - r) _ rfl (fun j => .int .u8 (dg V (n - r - 1 - j))) (by omega) (fun h => ⟨_, rfl, fun j hj => by rw [add_at, World.cell?_of_block (w := w) (Below.heap_alloc w _ g hg), show p + r + j = p + (r + j) by omega, HC.out _ (by omega), show n - 1 - (r + j) = n - r - 1 - j by omega]⟩) ?_; intro v' w' hfr)
          go_ret
          exact ⟨_, rfl, n - r, by omega, hfr.out.mag ((Below.refl _ _).alloc (Nat.le_refl _) _) HN.out (fun i hi => rfl)⟩
      · obtain rfl : r = n := by omega
        obtain rfl : V = 0 := by simpa using hrV
        go_wp2_with ((with_reducible show wpList _ _ _ _ _ _); refine wpList_append_fresh rfl (.tmp 17) (.tmp 20) 22 rfl 5 (.int .u8 0) bytesUnder u8Info rfl _ rfl _ 0 _ (by first | rfl | (go_num) | (simp)) (fun _ => .int .u8 0) (by omega) (fun h => absurd h (by omega)) ?_; intro v' w' hfr)
        all_goals go_ret
        all_goals exact ⟨_, rfl, 0, by omega, hfr.out.mag ((Below.refl _ _).alloc (Nat.le_refl _) _) ⟨by simp, fun h => absurd h (by omega)⟩ (fun i hi => absurd hi (by omega))⟩

theorem Of_any (neg : Bool) (s : Value) (n V : Nat) (w : World) (h : BytAt w s n V) (hn : n ≤ 1099511627776) :
    Calls Tryz.prog 17 #[.bool neg, s] w fun e w' => ∃ s' m, e = .returned (.agg #[.bool (neg && decide (0 < V)), s']) ∧ m ≤ n ∧ NewMag w w' s' m V := by
  have HC := Lib.hid (cut_any s n V _ ⟨h.1, by
    rcases h.2 with h | ⟨h0, g, p, c, e, hnc, hg, hc⟩
    · exact .inl h
    · exact .inr ⟨h0, g, p, c, e, hnc, Nat.lt_of_lt_of_le hg (by simp), fun i hi => (World.cell?_of_block (w := w) (Below.heap_alloc w (.cells #[.bool false, .slice none 0 0] 47) g hg)).trans (hc i hi)⟩⟩ hn)
  have hone : ∃ a c, s = .slice a n c := by
    rcases h.2 with ⟨rfl, a, c, rfl⟩ | ⟨h0, g, p, c, e, _⟩
    · exact ⟨a, c, rfl⟩
    · exact ⟨_, c, e⟩
  obtain ⟨sa, sc, rfl⟩ := hone
  clear h
  go_enter Tryz.func17, Tryz.ntmps17
  go_wp2_with fail
  refine HC.out.mono ?_
  rintro e w2 ⟨s', m, rfl, hmn, hnew⟩
  have hb0 : Below w.heap.size w (w.alloc (.cells #[.bool false, .slice none 0 0] 47)) := (Below.refl _ _).alloc (Nat.le_refl _) _
  have hnew0 := hnew.from hb0
  have hR : w2.heap[w.heap.size]? = some (.cells #[.bool false, .slice none 0 0] 47 (0, 0)) := (hnew.2.2.block _ (by simp)).trans (heap_alloc_new w _)
  obtain ⟨a', c', rfl⟩ := hnew.1.shape
  have hnw : ∀ a k c, Value.slice a' m c' = .slice (some a) k c → 0 < m → a.block ≠ w.heap.size := fun a k c e h0 => by have := hnew.2.1 a k c e h0; simp at this; omega
  have hd : decide (0 < m) = decide (0 < V) := by
    have := hnew.1.1.zero_iff
    by_cases h : m = 0
    · have hv := this.1 h
      subst h hv; simp
    · have h2 : V ≠ 0 := fun e => h (this.2 e)
      simp; omega
  have HN := Lib.hid hnew0
  have HD := Lib.hid hd
  have HW := Lib.hid hnw
  have HR := Lib.hid hR
  have c0 := (cell_of_row w2 _ 0 _ _ (0, 0) hR).trans rfl
  have c1 := (cell_of_row w2 _ 1 _ _ (0, 0) hR).trans rfl
  have f0 : ∀ i, w2.frozen? ⟨w.heap.size, i, none⟩ = false := fun i => by simp [World.frozen?, hR]
  clear hnew hnew0 hd hnw hR hb0
  cases neg
  · go_wp2
    have hW := set1 (i := 1) (x := .slice a' m c') (set1 (i := 0) (x := .bool false) HR.out)
    have e0 := (cell_of_row _ _ 0 _ _ (0, 0) hW).trans rfl
    have e1 := (cell_of_row _ _ 1 _ _ (0, 0) hW).trans rfl
    refine bodyPost_ret (v := .agg #[.bool false, .slice a' m c']) (by simp [results, Tryz.results17, go_sem, e0, e1]) rfl ⟨_, m, by simp, hmn, (HN.out.put (Nat.le_refl _) HW.out _).put (Nat.le_refl _) HW.out _⟩
  · go_wp2
    have hW := set1 (i := 1) (x := .slice a' m c') (set1 (i := 0) (x := .bool (decide (0 < m))) HR.out)
    have e0 := (cell_of_row _ _ 0 _ _ (0, 0) hW).trans rfl
    have e1 := (cell_of_row _ _ 1 _ _ (0, 0) hW).trans rfl
    refine bodyPost_ret (v := .agg #[.bool (decide (0 < m)), .slice a' m c']) (by simp [results, Tryz.results17, go_sem, e0, e1]) rfl ⟨_, m, by rw [HD.out]; simp, hmn, (HN.out.put (Nat.le_refl _) HW.out _).put (Nat.le_refl _) HW.out _⟩

end Go.Proofs.YtjkmppdmejgjiaaGreatDoor

/- Walks: laws.told, laws.whole, laws.is. -/
set_option linter.unusedVariables false
set_option linter.unusedSimpArgs false
namespace Go.Proofs.YtjkmppdmejgjiaaGreatDoor
open Go.RowKit
open Num

/-- the program's value of an integer -/
abbrev valInt (neg : Bool) (s : Value) : Value := .agg #[.int .i64 2, .bool neg, s, .int .u64 0, .string ⟨#[]⟩, .slice none 0 0]

theorem dg_shift (V t j : Nat) : dg (V / 2 ^ (8 * t)) j = dg V (j + t) := by
  unfold dg
  rw [Nat.div_div_eq_div_mul, ← Nat.pow_add, show 8 * t + 8 * j = 8 * (j + t) by omega]
/-- the first k of n bytes -/
theorem BytAt.first {w : World} {s : Value} {n V k : Nat} (h : BytAt w s n V) (hk : k ≤ n) {a : Option Addr} {c : Nat} (hs : s = .slice a n c) : BytAt w (.slice a k c) k (V / 2 ^ (8 * (n - k))) := by
  refine ⟨?_, ?_⟩
  · rw [Nat.div_lt_iff_lt_mul (Nat.two_pow_pos _), ← Nat.pow_add, show 8 * k + 8 * (n - k) = 8 * n by omega]
    exact h.1
  · by_cases h0 : k = 0
    · exact .inl ⟨h0, a, c, by rw [h0]⟩
    · rcases h.2 with ⟨rfl, _⟩ | ⟨_, g, p, c', e, hnc, hg, hc⟩
      · omega
      · rw [hs] at e
        injection e with e1 _ e3
        subst e1 e3
        refine .inr ⟨by omega, g, p, c, rfl, by omega, hg, fun i hi => ?_⟩
        rw [hc i (by omega), dg_shift, show k - 1 - i + (n - k) = n - 1 - i by omega]
theorem BytAt.shape {w : World} {s : Value} {n V : Nat} (h : BytAt w s n V) : ∃ a c, s = .slice a n c ∧ n ≤ c ∨ ∃ a c, s = .slice a 0 c ∧ n = 0 := by
  rcases h.2 with ⟨rfl, a, c, rfl⟩ | ⟨_, g, p, c, rfl, hnc, _⟩
  · exact ⟨a, c, .inr ⟨a, c, rfl, rfl⟩⟩
  · exact ⟨_, c, .inl ⟨rfl, hnc⟩⟩
theorem BytAt.below {w w' : World} {s : Value} {n V : Nat} (h : BytAt w s n V) (hb : Below w.heap.size w w') : BytAt w' s n V := by
  refine ⟨h.1, ?_⟩
  rcases h.2 with h | ⟨h0, g, p, c, rfl, hnc, hg, hc⟩
  · exact .inl h
  · exact .inr ⟨h0, g, p, c, rfl, hnc, Nat.lt_of_lt_of_le hg hb.size, fun i hi => (hb.cell (p := ⟨g, p + i, none⟩) hg).trans (hc i hi)⟩

end Go.Proofs.YtjkmppdmejgjiaaGreatDoor

/- Floats: the native functions, the type switch of NumberToInt. -/
set_option linter.unusedVariables false
set_option linter.unusedSimpArgs false
namespace Go.Proofs.YtjkmppdmejgjiaaGreatDoor
open Go.RowKit
open Num

theorem run_frombits (n : Int) (w : World) : (callFunc 65 #[.int .u64 n]).run Tryz.prog w = .ok (.value (.float .f64 n.toNat)) w := by kernel_rfl
theorem run_tobits (b : Nat) (w : World) : (callFunc 96 #[.float .f64 b]).run Tryz.prog w = .ok (.value (.int .u64 b)) w := by kernel_rfl
theorem assert_int_int (v : Value) (w : World) : (Instr.typeAssert (.iface 105 v) 50 105 true).run Tryz.prog w = .ok (.tuple #[v, .bool true]) w := by kernel_rfl
theorem assert_float_int (v : Value) (w : World) : (Instr.typeAssert (.iface 107 v) 50 105 true).run Tryz.prog w = .ok (.tuple #[.agg #[.int .i64 0, .pointer none], .bool false]) w := by kernel_rfl
theorem assert_float_float (v : Value) (w : World) : (Instr.typeAssert (.iface 107 v) 50 107 true).run Tryz.prog w = .ok (.tuple #[v, .bool true]) w := by kernel_rfl
theorem assert_string_int (v : Value) (w : World) : (Instr.typeAssert (.iface 109 v) 50 105 true).run Tryz.prog w = .ok (.tuple #[.agg #[.int .i64 0, .pointer none], .bool false]) w := by kernel_rfl
theorem assert_string_float (v : Value) (w : World) : (Instr.typeAssert (.iface 109 v) 50 107 true).run Tryz.prog w = .ok (.tuple #[.float .f64 0, .bool false]) w := by kernel_rfl
theorem assert_bool_int (v : Value) (w : World) : (Instr.typeAssert (.iface 100 v) 50 105 true).run Tryz.prog w = .ok (.tuple #[.agg #[.int .i64 0, .pointer none], .bool false]) w := by kernel_rfl
theorem assert_bool_float (v : Value) (w : World) : (Instr.typeAssert (.iface 100 v) 50 107 true).run Tryz.prog w = .ok (.tuple #[.float .f64 0, .bool false]) w := by kernel_rfl

end Go.Proofs.YtjkmppdmejgjiaaGreatDoor

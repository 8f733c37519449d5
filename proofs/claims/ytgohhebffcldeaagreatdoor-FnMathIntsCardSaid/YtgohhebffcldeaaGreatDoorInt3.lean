/- Walks: impl.whole: an integer of the program out of the given one. -/
import Derived.Test.YtgohhebffcldeaaGreatDoorInt2
set_option linter.unusedVariables false
set_option linter.unusedSimpArgs false
namespace Go.Proofs.YtgohhebffcldeaaGreatDoor
open Go.RowKit
open Num

theorem IntIs.shape {w : World} {base : Nat} {v : Value} {neg : Bool} {V : Nat} (h : IntIs w base v neg V) : ∃ z p, v = .agg #[.int .i64 z, .pointer p] := by
  rcases h with ⟨_, h⟩ | ⟨_, b, s, n, g, c, f, hv, _⟩
  · exact ⟨_, _, h⟩
  · exact ⟨_, _, hv⟩
theorem IntIs.base_le {w : World} {base base' : Nat} {v : Value} {neg : Bool} {V : Nat} (h : IntIs w base v neg V) (hb : base' ≤ base) : IntIs w base' v neg V := by
  rcases h with h | ⟨h1, b, s, n, g, c, f, hv, hbb, hh, h0, hN, hn, hs, hg, hnc, hc, hr, hf⟩
  · exact .inl h
  · exact .inr ⟨h1, b, s, n, g, c, f, hv, by omega, hh, h0, hN, hn, hs, by omega, hnc, hc, hr, hf⟩
theorem IntIs.far {w : World} {base : Nat} {v : Value} {neg : Bool} {V : Nat} (h : IntIs w base v neg V) {p : Addr} (hp : p.block < base) (u : Value) : IntIs (w.setCell p u) base v neg V := by
  rcases h with h | ⟨h1, b, s, n, g, c, f, hv, hbb, hh, h0, hN, hn, hs, hg, hnc, hc, hr, hf⟩
  · exact .inl h
  · exact .inr ⟨h1, b, s, n, g, c, f, hv, hbb, (Below.heap_setCell _ _ _ _ (by omega)).trans hh, h0, hN, hn, hs, hg, hnc, hc, hr.far (by omega) u, hf⟩

/-- an integer object at ⟨b, o⟩: its sign, and its words in a block that is there -/
def IntObj (w : World) (b o : Nat) (neg : Bool) (n V : Nat) : Prop :=
  ∃ ca ta s, w.heap[b]? = some (.cells ca ta (0, 0)) ∧ ca[o]? = some (.bool neg) ∧ ca[o + 1]? = some s ∧ Nw n V ∧ n ≤ 16777216 ∧
    ((n = 0 ∧ ∃ a c, s = .slice a 0 c) ∨ (0 < n ∧ ∃ g p c, s = .slice (some ⟨g, p, none⟩) n c ∧ g < w.heap.size ∧ ∀ i, i < n → w.cell? ⟨g, p + i, none⟩ = some (.int .u64 (wd V i))))

theorem MakeBigInt_any (b o n V : Nat) (neg : Bool) (w : World) (h : IntObj w b o neg n V) :
    Calls Tryz.prog 98 #[.pointer (some ⟨b, o, none⟩)] w fun e w' => ∃ v, e = .returned v ∧ IntIs w' w.heap.size v neg V ∧ Below w.heap.size w w' := by
  obtain ⟨ca, ta, s, hx, x0, x1, hN, hn, hs⟩ := h
  have hx0 : w.cell? ⟨b, o, none⟩ = some (.bool neg) := (cell_of_row w b o ca ta (0, 0) hx).trans x0
  have hx1 : w.cell? ⟨b, o + 1, none⟩ = some s := (cell_of_row w b (o + 1) ca ta (0, 0) hx).trans x1
  rcases hs with ⟨rfl, a, c, rfl⟩ | ⟨h0, g, p, c, rfl, hg, hc⟩
  · obtain rfl : V = 0 := hN.zero_iff.1 rfl
    refine (MakeBigInt_zero b o c a neg w hx0 hx1).mono ?_
    rintro e w' ⟨rfl, hb⟩
    exact ⟨_, rfl, .inl ⟨by simp [sm], by simp⟩, hb⟩
  · cases hs : sm neg V
    · exact MakeBigInt_big b o g p c n V ca ta neg w h0 hn hN hs hx x0 x1 hg hc
    · refine (MakeBigInt_small b o g p c n V neg w h0 (by omega) hN hs hx0 hx1 hg hc).mono ?_
      rintro e w' ⟨rfl, hb⟩
      exact ⟨_, rfl, .inl ⟨hs, rfl⟩, hb⟩
theorem IntObj.keep {w w' : World} {b o n V : Nat} {neg : Bool} (h : IntObj w b o neg n V) (hb : Below w.heap.size w w') : IntObj w' b o neg n V := by
  obtain ⟨ca, ta, s, hx, x0, x1, hN, hn, hs⟩ := h
  refine ⟨ca, ta, s, (hb.block b (Array.getElem?_eq_some_iff.1 hx).1).trans hx, x0, x1, hN, hn, ?_⟩
  rcases hs with hs | ⟨h0, g, p, c, rfl, hg, hc⟩
  · exact .inl hs
  · exact .inr ⟨h0, g, p, c, rfl, Nat.lt_of_lt_of_le hg hb.size, fun i hi => (hb.cell (p := ⟨g, p + i, none⟩) hg).trans (hc i hi)⟩
theorem IntSet.obj {b o tz n V : Nat} {cz : Array Value} {neg : Bool} {w w' : World} (h : IntSet b o cz tz neg n V w w') (hN : Nw n V) (hn : n ≤ 16777216) (hsz : o + 1 < cz.size) : IntObj w' b o neg n V := by
  obtain ⟨s, hnew, hch, hh⟩ := h
  refine ⟨_, tz, s, hh, ?_, ?_, hN, hn, ?_⟩
  · simp [Array.getElem?_setIfInBounds]; omega
  · simp [Array.getElem?_setIfInBounds, hsz]
  · rcases hnew with ⟨rfl, _, rfl⟩ | ⟨h0, hV, g, c, f, rfl, hg, hnc, hc, hr, hf⟩
    · exact .inl ⟨rfl, none, 0, rfl⟩
    · exact .inr ⟨h0, g, 0, c, rfl, hr.lt, fun i hi => by rw [Nat.zero_add, hr.cell (by omega), hf i hi]⟩
/-- the sign is set anew -/
theorem IntObj.resign {w : World} {b o n V : Nat} {neg : Bool} (h : IntObj w b o neg n V) (neg' : Bool) (hne : ∀ g p c ca ta, w.heap[b]? = some (.cells ca ta (0, 0)) → ca[o + 1]? = some (.slice (some ⟨g, p, none⟩) n c) → 0 < n → g ≠ b) : IntObj (w.setCell ⟨b, o, none⟩ (.bool neg')) b o neg' n V := by
  obtain ⟨ca, ta, s, hx, x0, x1, hN, hn, hs⟩ := h
  have hsz : o + 1 < ca.size := by have := (Array.getElem?_eq_some_iff.1 x1).1; exact this
  refine ⟨ca.setIfInBounds o (.bool neg'), ta, s, ?_, ?_, ?_, hN, hn, ?_⟩
  · simp only [World.setCell, Array.getElem?_modify, if_true, hx, Option.map_some]; rfl
  · simp [Array.getElem?_setIfInBounds]; omega
  · simp [Array.getElem?_setIfInBounds, x1]
  · rcases hs with hs | ⟨h0, g, p, c, rfl, hg, hc⟩
    · exact .inl hs
    · have hgb := hne g p c ca ta hx x1 h0
      refine .inr ⟨h0, g, p, c, rfl, by simpa [World.setCell] using hg, fun i hi => ?_⟩
      rw [World.cell?_of_block (w := w) (a := ⟨g, p + i, none⟩) (Below.heap_setCell w ⟨b, o, none⟩ _ g hgb)]
      exact hc i hi

/-- the slice s holds n bytes, the highest first, of V, and no leading 0 -/
def MagAt (w : World) (s : Value) (n V : Nat) : Prop :=
  Nb n V ∧ ((n = 0 ∧ ∃ a c, s = .slice a 0 c) ∨ (0 < n ∧ ∃ g p c, s = .slice (some ⟨g, p, none⟩) n c ∧ n ≤ c ∧ g < w.heap.size ∧ ∀ i, i < n → w.cell? ⟨g, p + i, none⟩ = some (.int .u8 (dg V (n - 1 - i)))))
theorem MagAt.below {w w' : World} {s : Value} {n V : Nat} (h : MagAt w s n V) (hb : Below w.heap.size w w') : MagAt w' s n V := by
  obtain ⟨hN, h⟩ := h
  refine ⟨hN, ?_⟩
  rcases h with h | ⟨h0, g, p, c, rfl, hnc, hg, hc⟩
  · exact .inl h
  · exact .inr ⟨h0, g, p, c, rfl, hnc, Nat.lt_of_lt_of_le hg hb.size, fun i hi => (hb.cell (p := ⟨g, p + i, none⟩) hg).trans (hc i hi)⟩

theorem Int_SetBytes_any (b o n V : Nat) (s : Value) (cz : Array Value) (tz : Nat) (zn : Bool) (w : World) (hm : MagAt w s n V) (hn : n ≤ 16777216)
    (hz : w.heap[b]? = some (.cells cz tz (0, 0))) (z0 : cz[o]? = some (.bool zn)) (z1 : cz[o + 1]? = some (.slice none 0 0)) :
    Calls Tryz.prog 96 #[.pointer (some ⟨b, o, none⟩), s] w fun e w' => e = .returned (.pointer (some ⟨b, o, none⟩)) ∧ ∃ m, Nw m V ∧ m ≤ 16777216 ∧ IntSet b o cz tz false m V w w' := by
  obtain ⟨hN, hm⟩ := hm
  rcases hm with ⟨rfl, a, c, rfl⟩ | ⟨h0, g, p, c, rfl, hnc, hg, hc⟩
  · obtain rfl : V = 0 := hN.zero_iff.1 rfl
    refine (Int_SetBytes_zero b o c a cz tz zn w hz z0 z1).mono ?_
    rintro e w' ⟨rfl, h⟩
    exact ⟨rfl, 0, ⟨by simp, fun h => absurd h (by omega)⟩, by omega, h⟩
  · have hV0 : 0 < V := by
      rcases Nat.eq_zero_or_pos V with h | h
      · have := hN.zero_iff.2 h; omega
      · exact h
    exact Int_SetBytes_some b o g p c n V cz tz zn w hN.1 h0 hn hnc hg hz z0 z1 hV0 hc

theorem IntSet.shape {b o tz n V : Nat} {cz : Array Value} {neg : Bool} {w w' : World} (h : IntSet b o cz tz neg n V w w') : ∃ a c, w'.heap[b]? = some (.cells ((cz.setIfInBounds (o + 1) (.slice a n c)).setIfInBounds o (.bool neg)) tz (0, 0)) ∧ (0 < n → ∃ g, a = some ⟨g, 0, none⟩ ∧ w.heap.size ≤ g) := by
  obtain ⟨s, hnew, hch, hh⟩ := h
  rcases hnew with ⟨rfl, _, rfl⟩ | ⟨h0, hV, g, c, f, rfl, hg, _⟩
  · exact ⟨none, 0, hh, fun h => absurd h (by omega)⟩
  · exact ⟨_, c, hh, fun _ => ⟨g, rfl, hg⟩⟩
/-- storing a starlark integer into its two-cell variable R, below what it points to -/
theorem res_int {w w5 : World} {R T : Nat} {base : Nat} {z : Int} {p : Option Addr} {neg : Bool} {V : Nat} (hb : Below w.heap.size w w5) (hR : w.heap.size ≤ R) (hRb : R < base) (hI : IntIs w5 base (.agg #[.int .i64 z, .pointer p]) neg V) :
    IntIs ((w5.setCell ⟨R, 0, none⟩ (.int .i64 z)).setCell ⟨R, 1, none⟩ (.pointer p)) w.heap.size (.agg #[.int .i64 z, .pointer p]) neg V ∧ Below w.heap.size w ((w5.setCell ⟨R, 0, none⟩ (.int .i64 z)).setCell ⟨R, 1, none⟩ (.pointer p)) :=
  ⟨((hI.far hRb _).far hRb _).base_le (by omega), (hb.setCell hR _).setCell hR _⟩

theorem whole_any (k : Int) (neg : Bool) (s : Value) (bits : Int) (text : ByteArray) (kids : Value) (n V : Nat) (w : World) (hm : MagAt w s n V) (hn : n ≤ 16777216) (hneg : neg = true → 0 < V) (hone : s.oneCell' = true) (hkone : kids.oneCell' = true) :
    Calls Tryz.prog 62 #[.agg #[.int .i64 k, .bool neg, s, .int .u64 bits, .string text, kids]] w fun e w' => ∃ v, e = .returned v ∧ IntIs w' w.heap.size v neg V ∧ Below w.heap.size w w' := by
  have HM := Lib.hid hm; clear hm
  go_enter Tryz.func62, Tryz.ntmps62
  go_wp2_with fail
  have hb3 : Below w.heap.size w (((w.alloc (Obj.cells #[Value.int IntKind.i64 k, Value.bool neg, s, Value.int IntKind.u64 bits, Value.string text, kids] 26)).alloc (Obj.cells #[Value.int IntKind.i64 0, Value.pointer none] 97)).alloc (Obj.cells #[Value.bool false, Value.slice none 0 0] 142)) := (((Below.refl _ _).alloc (Nat.le_refl _) _).alloc (by simp) _).alloc (by simp; omega) _
  have hB : (((w.alloc (Obj.cells #[Value.int IntKind.i64 k, Value.bool neg, s, Value.int IntKind.u64 bits, Value.string text, kids] 26)).alloc (Obj.cells #[Value.int IntKind.i64 0, Value.pointer none] 97)).alloc (Obj.cells #[Value.bool false, Value.slice none 0 0] 142)).heap[w.heap.size]? = some (Obj.cells #[Value.int IntKind.i64 k, Value.bool neg, s, Value.int IntKind.u64 bits, Value.string text, kids] 26 (0, 0)) :=
    (Below.heap_alloc _ _ _ (by simp; omega)).trans ((Below.heap_alloc _ _ _ (by simp)).trans (heap_alloc_new w _))
  have hR : (((w.alloc (Obj.cells #[Value.int IntKind.i64 k, Value.bool neg, s, Value.int IntKind.u64 bits, Value.string text, kids] 26)).alloc (Obj.cells #[Value.int IntKind.i64 0, Value.pointer none] 97)).alloc (Obj.cells #[Value.bool false, Value.slice none 0 0] 142)).heap[w.heap.size + 1]? = some (Obj.cells #[Value.int IntKind.i64 0, Value.pointer none] 97 (0, 0)) :=
    (Below.heap_alloc _ _ _ (by simp)).trans (by have := heap_alloc_new (w.alloc (Obj.cells #[Value.int IntKind.i64 k, Value.bool neg, s, Value.int IntKind.u64 bits, Value.string text, kids] 26)) (Obj.cells #[Value.int IntKind.i64 0, Value.pointer none] 97); simpa using this)
  have hI : (((w.alloc (Obj.cells #[Value.int IntKind.i64 k, Value.bool neg, s, Value.int IntKind.u64 bits, Value.string text, kids] 26)).alloc (Obj.cells #[Value.int IntKind.i64 0, Value.pointer none] 97)).alloc (Obj.cells #[Value.bool false, Value.slice none 0 0] 142)).heap[w.heap.size + 1 + 1]? = some (Obj.cells #[Value.bool false, Value.slice none 0 0] 142 (0, 0)) := by
    have := heap_alloc_new ((w.alloc (Obj.cells #[Value.int IntKind.i64 k, Value.bool neg, s, Value.int IntKind.u64 bits, Value.string text, kids] 26)).alloc (Obj.cells #[Value.int IntKind.i64 0, Value.pointer none] 97)) (Obj.cells #[Value.bool false, Value.slice none 0 0] 142)
    simpa using this
  have hsz : (((w.alloc (Obj.cells #[Value.int IntKind.i64 k, Value.bool neg, s, Value.int IntKind.u64 bits, Value.string text, kids] 26)).alloc (Obj.cells #[Value.int IntKind.i64 0, Value.pointer none] 97)).alloc (Obj.cells #[Value.bool false, Value.slice none 0 0] 142)).heap.size = w.heap.size + 3 := by simp
  generalize (((w.alloc (Obj.cells #[Value.int IntKind.i64 k, Value.bool neg, s, Value.int IntKind.u64 bits, Value.string text, kids] 26)).alloc (Obj.cells #[Value.int IntKind.i64 0, Value.pointer none] 97)).alloc (Obj.cells #[Value.bool false, Value.slice none 0 0] 142)) = w3 at *
  refine (Int_SetBytes_any (w.heap.size + 1 + 1) 0 n V s _ _ false w3 (HM.out.below hb3) hn hI rfl rfl).mono ?_
  rintro e w4 ⟨rfl, m, hNm, hm24, hset⟩
  have hch := hset.choose_spec.2.1
  have hb4 : Below w.heap.size w w4 := Chg.below hb3 (by omega) hch (by omega)
  have hB4 := (hch.block (w.heap.size) (by omega) (by omega)).trans hB
  have hR4 := (hch.block (w.heap.size + 1) (by omega) (by omega)).trans hR
  have hobj := hset.obj hNm hm24 (by simp)
  obtain ⟨a, c, hsh, hag⟩ := hset.shape
  have nc : w4.cell? ⟨w.heap.size, 1, none⟩ = some (.bool neg) := (cell_of_row w4 _ 1 _ _ (0, 0) hB4).trans rfl
  have hsz4 : w.heap.size + 3 ≤ w4.heap.size := by have := hch.size; omega
  clear hB hR hI hB4
  have HSH := Lib.hid hsh; clear hsh
  have HSZ := Lib.hid hsz; clear hsz
  have HR4 := Lib.hid hR4; clear hR4
  have HNM := Lib.hid hNm; clear hNm
  clear hset hch
  cases neg
  · go_wp2_with fail
    refine (MakeBigInt_any _ _ m V false w4 hobj).mono ?_
    rintro e w5 ⟨v, rfl, hI5, hb5⟩
    obtain ⟨z, p, rfl⟩ := hI5.shape
    have hR5 := (hb5.block (w.heap.size + 1) (by omega)).trans HR4.out
    have c0 := (cell_of_row w5 _ 0 _ _ (0, 0) hR5).trans rfl
    have c1 := (cell_of_row w5 _ 1 _ _ (0, 0) hR5).trans rfl
    have f0 : w5.frozen? ⟨w.heap.size + 1, 0, none⟩ = false := by simp [World.frozen?, hR5]
    have f1 : w5.frozen? ⟨w.heap.size + 1, 1, none⟩ = false := by simp [World.frozen?, hR5]
    have HR5 := Lib.hid hR5; clear hR5
    have HI5 := Lib.hid hI5; clear hI5
    go_wp2
    have hW := set2 (x := .int .i64 z) (y := .pointer p) HR5.out
    have e0 := (cell_of_row _ _ 0 _ _ (0, 0) hW).trans rfl
    have e1 := (cell_of_row _ _ 1 _ _ (0, 0) hW).trans rfl
    have hfin := res_int (R := w.heap.size + 1) (T := 0) (hb4.trans (hb5.mono (by omega))) (by omega) (by omega) HI5.out
    exact bodyPost_ret (v := .agg #[.int .i64 z, .pointer p]) (by simp [results, Tryz.results62, go_sem, e0, e1]) rfl ⟨_, rfl, hfin.1, hfin.2⟩
  · have hV := hneg rfl
    have hm0 : 0 < m := by
      rcases Nat.eq_zero_or_pos m with h | h
      · have := HNM.out.zero_iff.1 h; omega
      · exact h
    obtain ⟨ga, rfl, hga⟩ := hag hm0
    have hobj2 := hobj.resign true (fun g p c ca ta h1 h2 _ => by
      rw [HSH.out] at h1
      injection h1 with h1
      injection h1 with h1
      subst h1
      simp [Array.getElem?_setIfInBounds] at h2
      have h9 := HSZ.out
      omega)
    have HO2 := Lib.hid hobj2; clear hobj2
    have HNEG := Lib.hid (Int_Neg_own (w.heap.size + 1 + 1) 0 m c _ _ _ false w4 HSH.out rfl rfl)
    have hd : (decide (0 < m) && !false) = true := by simp [hm0]
    rw [hd] at HNEG
    clear hd
    go_wp2_with fail
    refine HNEG.out.mono ?_
    rintro e w5 ⟨rfl, rfl⟩
    go_wp2_with fail
    refine (MakeBigInt_any _ _ m V true _ HO2.out).mono ?_
    rintro e w5 ⟨v, rfl, hI5, hb5⟩
    obtain ⟨z, p, rfl⟩ := hI5.shape
    have hsz5 : (w4.setCell ⟨w.heap.size + 1 + 1, 0, none⟩ (.bool true)).heap.size = w4.heap.size := by simp [World.setCell]
    have hR5 := (hb5.block (w.heap.size + 1) (by omega)).trans ((Below.heap_setCell w4 ⟨w.heap.size + 1 + 1, 0, none⟩ (.bool true) (w.heap.size + 1) (by simp)).trans HR4.out)
    have c0 := (cell_of_row w5 _ 0 _ _ (0, 0) hR5).trans rfl
    have c1 := (cell_of_row w5 _ 1 _ _ (0, 0) hR5).trans rfl
    have f0 : w5.frozen? ⟨w.heap.size + 1, 0, none⟩ = false := by simp [World.frozen?, hR5]
    have f1 : w5.frozen? ⟨w.heap.size + 1, 1, none⟩ = false := by simp [World.frozen?, hR5]
    have HR5 := Lib.hid hR5; clear hR5
    have HI5 := Lib.hid hI5; clear hI5
    have HSZ5 := Lib.hid hsz5; clear hsz5
    go_wp2
    have hW := set2 (x := .int .i64 z) (y := .pointer p) HR5.out
    have e0 := (cell_of_row _ _ 0 _ _ (0, 0) hW).trans rfl
    have e1 := (cell_of_row _ _ 1 _ _ (0, 0) hW).trans rfl
    have h9 := HSZ5.out
    have hfin := res_int (R := w.heap.size + 1) (T := 0) ((hb4.setCell (p := ⟨w.heap.size + 1 + 1, 0, none⟩) (by simp; omega) (.bool true)).trans (hb5.mono (by omega))) (by omega) (by omega) HI5.out
    exact bodyPost_ret (v := .agg #[.int .i64 z, .pointer p]) (by simp [results, Tryz.results62, go_sem, e0, e1]) rfl ⟨_, rfl, hfin.1, hfin.2⟩

end Go.Proofs.YtgohhebffcldeaaGreatDoor

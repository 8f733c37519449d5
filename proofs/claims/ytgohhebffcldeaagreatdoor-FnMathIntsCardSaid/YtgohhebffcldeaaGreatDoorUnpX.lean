/- Walks: unpacking of integers as floats. Walks: the builtins of the module math. Walks: the builtin fabs; impl.scalarOf, MathTwo, MathOne. Walks: impl.MathTwo (copysign, mod), MathOne (fabs) of integers that are doubles. -/
import Derived.Test.YtgohhebffcldeaaGreatDoorFltY
import Derived.Test.YtgohhebffcldeaaGreatDoorFl
import Derived.Test.YtgohhebffcldeaaGreatDoorMathX
import Derived.Test.YtgohhebffcldeaaGreatDoorConv
set_option linter.unusedVariables false
set_option linter.unusedSimpArgs false
namespace Go.Proofs.YtgohhebffcldeaaGreatDoor
open Go.RowKit
open Num

theorem assert_unp (v : Value) (w : World) : (Instr.typeAssert (.iface 153 v) 20 236 true).run Tryz.prog w = .ok (.tuple #[.iface 153 v, .bool true]) w := by kernel_rfl
theorem method_unp (v : Value) (w : World) : (method 524 153 v "Unpack").run Tryz.prog w = .ok (384, v) w := by kernel_rfl

/-- block b holds the float F -/
def FC (w : World) (b F : Nat) : Prop := w.heap[b]? = some (.cells #[.float .f64 F] 151 (0, 0))
theorem FC.c {w : World} {b F : Nat} (h : FC w b F) : w.cell? ⟨b, 0, none⟩ = some (.float .f64 F) := (cell_of_row w b 0 _ _ (0, 0) h).trans rfl
theorem FC.fr {w : World} {b F : Nat} (h : FC w b F) : ∀ i, w.frozen? ⟨b, i, none⟩ = false := fun i => by unfold FC at h; simp [World.frozen?, h]
theorem FC.lt {w : World} {b F : Nat} (h : FC w b F) : b < w.heap.size := (Array.getElem?_eq_some_iff.1 h).1

theorem Unpack_int (pb base F0 : Nat) (v : Value) (neg : Bool) (V F : Nat) (w : World) (hp : FC w pb F0) (hI : IntIs w base v neg V) (hneg : neg = true → 0 < V) (hF : IsF F neg V) :
    Calls Tryz.prog 384 #[.pointer (some ⟨pb, 0, none⟩), .iface 97 v] w fun e w' => e = .returned .nilIface ∧ FC w' pb F ∧ Chg pb w w' := by
  have hta := assert_int_int v
  obtain ⟨z, p, rfl⟩ := hI.shape
  obtain ⟨w1, hw1⟩ : ∃ w1, w1 = w.alloc (.cells #[.int .i64 z, .pointer p] 97) := ⟨_, rfl⟩
  have hb1 : Below w.heap.size w w1 := by rw [hw1]; exact (Below.refl _ _).alloc (Nat.le_refl _) _
  have HFL := Lib.hid (Float_any _ base neg V F w1 (hI.below hb1) hneg hF)
  have HP := Lib.hid hp; have HB1 := Lib.hid hb1; have HW1 := Lib.hid hw1
  have hl := hp.lt
  clear hp hI hneg hF hb1 hw1
  go_enter Tryz.func384, Tryz.ntmps384
  go_wp2_with fail
  rw [← HW1.out]
  refine HFL.out.mono ?_
  rintro e w2 ⟨rfl, hb2⟩
  have hb := HB1.out.trans (hb2.mono HB1.out.size)
  have hq : FC w2 pb F0 := (hb.block pb hl).trans HP.out
  have c0 := hq.c
  have f0 := hq.fr
  have HB := Lib.hid hb; have HQ := Lib.hid hq
  clear hb2 hb hq
  have hst : ∀ (a : Addr) (m : Mode) (W : World), (store a (.float .f64 F) m).run Tryz.prog W = stored Tryz.prog W a (.float .f64 F) m := fun a m W => run_store Tryz.prog W a _ m rfl
  go_wp2
  go_ret
  refine ⟨rfl, ?_, (Chg.of_below HB.out).set _ _⟩
  exact set1 (i := 0) (x := .float .f64 F) HQ.out

theorem UnpackArg_int (pb base F0 : Nat) (v : Value) (neg : Bool) (V F : Nat) (w : World) (hp : FC w pb F0) (hI : IntIs w base v neg V) (hneg : neg = true → 0 < V) (hF : IsF F neg V) :
    Calls Tryz.prog 136 #[.iface 97 v, .iface 153 (.pointer (some ⟨pb, 0, none⟩))] w fun e w' => e = .returned .nilIface ∧ FC w' pb F ∧ Chg pb w w' := by
  have hta := assert_unp (.pointer (some ⟨pb, 0, none⟩))
  have hme := method_unp (.pointer (some ⟨pb, 0, none⟩))
  have HU := Lib.hid (Unpack_int pb base F0 v neg V F w hp hI hneg hF)
  clear hp hI hneg hF
  go_enter Tryz.func136, Tryz.ntmps136
  go_wp2_with fail
  refine HU.out.mono ?_
  rintro e w2 ⟨rfl, h1, h2⟩
  have HH := Lib.hid (And.intro h1 h2)
  clear h1 h2
  go_wp2
  go_ret
  exact ⟨rfl, HH.out⟩

theorem checkPos_any (name : ByteArray) (a : Option Addr) (n c k : Nat) (m : Nat) (h1 : m ≤ n) (h2 : n ≤ k) (w : World) :
    Calls Tryz.prog 135 #[.string name, .slice a n c, .slice none 0 0, .int .i64 m, .int .i64 k] w fun e w' => e = .returned .nilIface ∧ w' = w := by
  have e1 : ¬ ((n : Int) < (m : Int)) := by omega
  have e2 : ¬ ((k : Int) < (n : Int)) := by omega
  go_enter Tryz.func135, Tryz.ntmps135
  go_wp2
  go_ret
  exact ⟨rfl, rfl⟩

/-- two integers into two floats -/
theorem UPA_two (name : ByteArray) (ab vb p1 p2 Ta Tv base : Nat) (x y : Value) (xn yn : Bool) (X Y F G : Nat) (w w0 : World)
    (ha : w.heap[ab]? = some (.cells #[.iface 97 x, .iface 97 y] Ta (0, 0))) (hv : w.heap[vb]? = some (.cells #[.iface 153 (.pointer (some ⟨p1, 0, none⟩)), .iface 153 (.pointer (some ⟨p2, 0, none⟩))] Tv (0, 0)))
    (h1 : FC w p1 0) (h2 : FC w p2 0) (hx : IntIs w0 base x xn X) (hy : IntIs w0 base y yn Y) (hb0 : Below w0.heap.size w0 w) (hp1 : w0.heap.size ≤ p1) (hp2 : w0.heap.size ≤ p2) (h12 : p1 ≠ p2) (ha1 : ab ≠ p1) (hv1 : vb ≠ p1)
    (hxn : xn = true → 0 < X) (hyn : yn = true → 0 < Y) (hF : IsF F xn X) (hG : IsF G yn Y) :
    Calls Tryz.prog 103 #[.string name, .slice (some ⟨ab, 0, none⟩) 2 2, .slice none 0 0, .int .i64 2, .slice (some ⟨vb, 0, none⟩) 2 2] w fun e w' => e = .returned .nilIface ∧ FC w' p1 F ∧ FC w' p2 G ∧ Below w0.heap.size w0 w' := by
  have a0 := (cell_of_row w ab 0 _ _ (0, 0) ha).trans rfl
  have v0 := (cell_of_row w vb 0 _ _ (0, 0) hv).trans rfl
  have hla := (Array.getElem?_eq_some_iff.1 ha).1
  have hlv := (Array.getElem?_eq_some_iff.1 hv).1
  have HC := Lib.hid (checkPos_any name (some ⟨ab, 0, none⟩) 2 2 2 2 (by omega) (by omega) w)
  have HU1 := Lib.hid (UnpackArg_int p1 base 0 x xn X F w h1 (hx.below hb0) hxn hF)
  have HU2 := Lib.hid (fun (W : World) (hb : Chg p1 w W) => UnpackArg_int p2 base 0 y yn Y G W ((hb.block p2 h2.lt (Ne.symm h12)).trans h2) (hy.below (Chg.below hb0 hb0.size hb hp1)) hyn hG)
  have HA := Lib.hid (fun (W : World) (hb : Chg p1 w W) => (show W.cell? ⟨ab, 1, none⟩ = some (.iface 97 y) ∧ W.cell? ⟨vb, 1, none⟩ = some (.iface 153 (.pointer (some ⟨p2, 0, none⟩))) from
    ⟨(cell_of_row W ab 1 _ _ (0, 0) ((hb.block ab hla ha1).trans ha)).trans rfl, (cell_of_row W vb 1 _ _ (0, 0) ((hb.block vb hlv hv1).trans hv)).trans rfl⟩))
  have HB0 := Lib.hid hb0
  have HL1 := Lib.hid h1.lt
  clear ha hv h1 h2 hx hy hb0 hxn hyn hF hG
  go_enter Tryz.func103, Tryz.ntmps103
  go_wp2_with fail
  refine HC.out.mono ?_
  rintro e w2 ⟨rfl, rfl⟩
  go_wp2_with fail
  refine wp_loop_rounds 3 ?_
  rw [rounds_succ]
  go_wp2_with fail
  refine HU1.out.mono ?_
  rintro e w3 ⟨rfl, k1, k2⟩
  obtain ⟨a1, v1⟩ := HA.out w3 k2
  have HV2 := Lib.hid (HU2.out w3 k2)
  have HK := Lib.hid (And.intro k1 k2)
  clear k1 k2
  go_wp2_with fail
  rw [rounds_succ]
  go_wp2_with fail
  refine HV2.out.mono ?_
  rintro e w4 ⟨rfl, k3, k4⟩
  have HK2 := Lib.hid (And.intro k3 k4)
  clear k3 k4
  go_wp2_with fail
  rw [rounds_succ]
  go_wp2
  go_ret
  have hb3 := Chg.below HB0.out HB0.out.size HK.out.2 hp1
  exact ⟨rfl, (HK2.out.2.block p1 (Nat.lt_of_lt_of_le HL1.out HK.out.2.size) h12).trans HK.out.1, HK2.out.1, Chg.below hb3 hb3.size HK2.out.2 hp2⟩
end Go.Proofs.YtgohhebffcldeaaGreatDoor

set_option linter.unusedVariables false
set_option linter.unusedSimpArgs false
namespace Go.Proofs.YtgohhebffcldeaaGreatDoor
open Go.RowKit
open Num

/-- the closure of a builtin of two arguments -/
abbrev bin2 (nb fb : Nat) : Value := .func (Fn.func 102) #[] #[.pointer (some ⟨nb, 0, none⟩), .pointer (some ⟨fb, 0, none⟩)]
theorem newBin_any (name : ByteArray) (k : FuncId) (w : World) :
    Calls Tryz.prog 65 #[.string name, .func (Fn.func k) #[] #[]] w fun e w' => e = .returned (.pointer (some ⟨w.heap.size + 2, 0, none⟩)) ∧ w' = ((w.alloc (.cells #[.string name] 9)).alloc (.cells #[.func (Fn.func k) #[] #[]] 38)).alloc (.cells #[.string name, bin2 w.heap.size (w.heap.size + 1), .nilIface] 155) := by
  go_enter Tryz.func65, Tryz.ntmps65
  go_wp2
  go_ret
  exact ⟨by simp, by simp⟩

abbrev fc0 : Obj := .cells #[.float .f64 0] 151
set_option maxRecDepth 100000 in
theorem clo2_any (name : ByteArray) (k : FuncId) (bb nb fb ab base Ta : Nat) (x y : Value) (xn yn : Bool) (X Y F G R : Nat) (w : World)
    (hn : w.heap[nb]? = some (.cells #[.string name] 9 (0, 0))) (hf : w.heap[fb]? = some (.cells #[.func (Fn.func k) #[] #[]] 38 (0, 0)))
    (ha : w.heap[ab]? = some (.cells #[.iface 97 x, .iface 97 y] Ta (0, 0)))
    (hx : IntIs w base x xn X) (hy : IntIs w base y yn Y) (hxn : xn = true → 0 < X) (hyn : yn = true → 0 < Y) (hF : IsF F xn X) (hG : IsF G yn Y)
    (hkk : k = 12 ∨ k = 11) (hk : ∀ W : World, Calls Tryz.prog k #[.float .f64 F, .float .f64 G] W fun e w' => e = .returned (.float .f64 R) ∧ w' = W) :
    Calls Tryz.prog 102 #[.pointer none, .pointer (some ⟨bb, 0, none⟩), .slice (some ⟨ab, 0, none⟩) 2 2, .slice none 0 0, .pointer (some ⟨nb, 0, none⟩), .pointer (some ⟨fb, 0, none⟩)] w fun e w' => e = .returned (.tuple #[.iface 99 (.float .f64 R), .nilIface]) ∧ Below w.heap.size w w' := by
  obtain ⟨w1, hw1⟩ : ∃ w1, w1 = ((w.alloc fc0).alloc fc0).alloc (.cells #[.iface 153 (.pointer (some ⟨w.heap.size, 0, none⟩)), .iface 153 (.pointer (some ⟨w.heap.size + 1, 0, none⟩))] 20) := ⟨_, rfl⟩
  have hb1 : Below w.heap.size w w1 := by rw [hw1]; exact (((Below.refl _ _).alloc (Nat.le_refl _) _).alloc (by simp) _).alloc (by simp; omega) _
  have hv1 : w1.heap[w.heap.size + 2]? = some (.cells #[.iface 153 (.pointer (some ⟨w.heap.size, 0, none⟩)), .iface 153 (.pointer (some ⟨w.heap.size + 1, 0, none⟩))] 20 (0, 0)) := by rw [hw1]; exact heap3_2 _ _ _ _
  have hp1 : FC w1 w.heap.size 0 := by unfold FC; rw [hw1]; exact heap3_0 _ _ _ _
  have hp2 : FC w1 (w.heap.size + 1) 0 := by unfold FC; rw [hw1]; exact heap3_1 _ _ _ _
  have ln := (Array.getElem?_eq_some_iff.1 hn).1
  have lf := (Array.getElem?_eq_some_iff.1 hf).1
  have la := (Array.getElem?_eq_some_iff.1 ha).1
  have HU := Lib.hid (UPA_two name ab (w.heap.size + 2) w.heap.size (w.heap.size + 1) Ta _ base x y xn yn X Y F G w1 w ((hb1.block ab la).trans ha) hv1 hp1 hp2 hx hy hb1 (Nat.le_refl _) (by omega) (by omega) (by omega) (by omega) hxn hyn hF hG)
  have hb2' : Below w.heap.size w ((w.alloc fc0).alloc fc0) := ((Below.refl _ _).alloc (Nat.le_refl _) _).alloc (by simp) _
  have n0 : ((w.alloc fc0).alloc fc0).cell? ⟨nb, 0, none⟩ = some (.string name) := (cell_of_row _ nb 0 _ _ (0, 0) ((hb2'.block nb ln).trans hn)).trans rfl
  clear hb2'
  have HFB := Lib.hid (fun (W : World) (hb : Below w.heap.size w W) => (show W.cell? ⟨fb, 0, none⟩ = some (.func (Fn.func k) #[] #[]) from (cell_of_row W fb 0 _ _ (0, 0) ((hb.block fb lf).trans hf)).trans rfl))
  have HK := Lib.hid hk
  have HW1 := Lib.hid hw1; have HB1 := Lib.hid hb1
  clear hn hf ha hx hy hxn hyn hF hG hk hw1 hb1 hv1 hp1 hp2
  go_enter Tryz.func102, Tryz.ntmps102
  go_wp2_with fail
  rw [← HW1.out]
  go_wp2_with fail
  refine HU.out.mono ?_
  rintro e w2 ⟨rfl, k1, k2, k3⟩
  have f0 := HFB.out w2 k3
  have c1 := k1.c
  have c2 := k2.c
  have HH := Lib.hid k3
  clear k1 k2 k3
  rcases hkk with rfl | rfl
  all_goals (
    go_wp2_with fail
    refine (HK.out _).mono ?_
    rintro e w3 ⟨rfl, rfl⟩
    go_wp2
    go_ret2
    exact ⟨rfl, HH.out⟩)

theorem CallInternal_bin (name : ByteArray) (k : FuncId) (bb nb fb ab base Ta : Nat) (x y : Value) (xn yn : Bool) (X Y F G R : Nat) (w : World)
    (hb : w.heap[bb]? = some (.cells #[.string name, bin2 nb fb, .nilIface] 155 (0, 0)))
    (hn : w.heap[nb]? = some (.cells #[.string name] 9 (0, 0))) (hf : w.heap[fb]? = some (.cells #[.func (Fn.func k) #[] #[]] 38 (0, 0)))
    (ha : w.heap[ab]? = some (.cells #[.iface 97 x, .iface 97 y] Ta (0, 0)))
    (hx : IntIs w base x xn X) (hy : IntIs w base y yn Y) (hxn : xn = true → 0 < X) (hyn : yn = true → 0 < Y) (hF : IsF F xn X) (hG : IsF G yn Y)
    (hkk : k = 12 ∨ k = 11) (hk : ∀ W : World, Calls Tryz.prog k #[.float .f64 F, .float .f64 G] W fun e w' => e = .returned (.float .f64 R) ∧ w' = W) :
    Calls Tryz.prog 66 #[.pointer (some ⟨bb, 0, none⟩), .pointer none, .slice (some ⟨ab, 0, none⟩) 2 2, .slice none 0 0] w fun e w' => e = .returned (.tuple #[.iface 99 (.float .f64 R), .nilIface]) ∧ Below w.heap.size w w' := by
  have HC := Lib.hid (clo2_any name k bb nb fb ab base Ta x y xn yn X Y F G R w hn hf ha hx hy hxn hyn hF hG hkk hk)
  have c1 := (cell_of_row w bb 1 _ _ (0, 0) hb).trans rfl
  clear hb hn hf ha hx hy hxn hyn hF hG hk
  go_enter Tryz.func66, Tryz.ntmps66
  go_wp2_with fail
  refine HC.out.mono ?_
  rintro e w2 ⟨rfl, h2⟩
  have HH := Lib.hid h2
  clear h2
  go_wp2
  go_ret2
  exact ⟨rfl, HH.out⟩

/-- what the doors copysign and mod lay ahead of the call -/
theorem door_bin (name : ByteArray) (k : FuncId) (base : Nat) (x y : Value) (xn yn : Bool) (X Y F G R : Nat) (w : World)
    (hx : IntIs w base x xn X) (hy : IntIs w base y yn Y) (hxn : xn = true → 0 < X) (hyn : yn = true → 0 < Y) (hF : IsF F xn X) (hG : IsF G yn Y)
    (hkk : k = 12 ∨ k = 11) (hk : ∀ W : World, Calls Tryz.prog k #[.float .f64 F, .float .f64 G] W fun e w' => e = .returned (.float .f64 R) ∧ w' = W) :
    ∀ w2 w3, w2 = ((w.alloc (.cells #[.string name] 9)).alloc (.cells #[.func (Fn.func k) #[] #[]] 38)).alloc (.cells #[.string name, bin2 w.heap.size (w.heap.size + 1), .nilIface] 155) →
      w3 = w2.alloc (.cells #[.iface 97 x, .iface 97 y] 55) →
      Calls Tryz.prog 66 #[.pointer (some ⟨w.heap.size + 2, 0, none⟩), .pointer none, .slice (some ⟨w2.heap.size, 0, none⟩) 2 2, .slice none 0 0] w3 fun e w' => e = .returned (.tuple #[.iface 99 (.float .f64 R), .nilIface]) ∧ Below w.heap.size w w' := by
  intro w2 w3 h2 h3
  have hb2 : Below w.heap.size w w2 := by rw [h2]; exact (((Below.refl _ _).alloc (Nat.le_refl _) _).alloc (by simp) _).alloc (by simp; omega) _
  have hs2 : w2.heap.size = w.heap.size + 3 := by rw [h2]; simp
  have hb3 : Below w2.heap.size w2 w3 := by rw [h3]; exact (Below.refl _ _).alloc (Nat.le_refl _) _
  have r0 := (hb3.block w.heap.size (by omega)).trans (show w2.heap[w.heap.size]? = some (.cells #[.string name] 9 (0, 0)) from by rw [h2]; exact heap3_0 _ _ _ _)
  have r1 := (hb3.block (w.heap.size + 1) (by omega)).trans (show w2.heap[w.heap.size + 1]? = some (.cells #[.func (Fn.func k) #[] #[]] 38 (0, 0)) from by rw [h2]; exact heap3_1 _ _ _ _)
  have r2 := (hb3.block (w.heap.size + 2) (by omega)).trans (show w2.heap[w.heap.size + 2]? = some (.cells #[.string name, bin2 w.heap.size (w.heap.size + 1), .nilIface] 155 (0, 0)) from by rw [h2]; exact heap3_2 _ _ _ _)
  have r3 : w3.heap[w2.heap.size]? = some (.cells #[.iface 97 x, .iface 97 y] 55 (0, 0)) := by rw [h3]; exact heap_alloc_new _ _
  have hb := hb2.trans (hb3.mono (by omega))
  refine (CallInternal_bin name k (w.heap.size + 2) w.heap.size (w.heap.size + 1) w2.heap.size base _ x y xn yn X Y F G R w3 r2 r0 r1 r3 (hx.below hb) (hy.below hb) hxn hyn hF hG hkk hk).mono ?_
  rintro e w' ⟨he, hw⟩
  exact ⟨he, hb.trans (hw.mono (by have := hb3.size; omega))⟩

theorem ZzMod_any (base : Nat) (x y : Value) (xn yn : Bool) (X Y F G R : Nat) (w : World)
    (hx : IntIs w base x xn X) (hy : IntIs w base y yn Y) (hxn : xn = true → 0 < X) (hyn : yn = true → 0 < Y) (hF : IsF F xn X) (hG : IsF G yn Y)
    (hk : ∀ W : World, Calls Tryz.prog 12 #[.float .f64 F, .float .f64 G] W fun e w' => e = .returned (.float .f64 R) ∧ w' = W) :
    Calls Tryz.prog 26 #[.iface 97 x, .iface 97 y] w fun e w' => e = .returned (.tuple #[.iface 99 (.float .f64 R), .nilIface]) ∧ Below w.heap.size w w' := by
  have HD := Lib.hid (door_bin ⟨#[109, 111, 100]⟩ 12 base x y xn yn X Y F G R w hx hy hxn hyn hF hG (.inl rfl) hk)
  clear hx hy hxn hyn hF hG hk
  go_enter Tryz.func26, Tryz.ntmps26
  go_wp2_with fail
  refine (newBin_any _ _ _).mono ?_
  rintro e w2 ⟨rfl, hw2⟩
  have HD2 := Lib.hid (HD.out w2 _ hw2 rfl)
  clear hw2
  go_wp2_with fail
  refine HD2.out.mono ?_
  rintro e w4 ⟨rfl, h4⟩
  have HH := Lib.hid h4
  clear h4
  go_wp2
  go_ret2
  exact ⟨rfl, HH.out⟩
theorem ZzCopysign_any (base : Nat) (x y : Value) (xn yn : Bool) (X Y F G R : Nat) (w : World)
    (hx : IntIs w base x xn X) (hy : IntIs w base y yn Y) (hxn : xn = true → 0 < X) (hyn : yn = true → 0 < Y) (hF : IsF F xn X) (hG : IsF G yn Y)
    (hk : ∀ W : World, Calls Tryz.prog 11 #[.float .f64 F, .float .f64 G] W fun e w' => e = .returned (.float .f64 R) ∧ w' = W) :
    Calls Tryz.prog 25 #[.iface 97 x, .iface 97 y] w fun e w' => e = .returned (.tuple #[.iface 99 (.float .f64 R), .nilIface]) ∧ Below w.heap.size w w' := by
  have HD := Lib.hid (door_bin ⟨#[99, 111, 112, 121, 115, 105, 103, 110]⟩ 11 base x y xn yn X Y F G R w hx hy hxn hyn hF hG (.inr rfl) hk)
  clear hx hy hxn hyn hF hG hk
  go_enter Tryz.func25, Tryz.ntmps25
  go_wp2_with fail
  refine (newBin_any _ _ _).mono ?_
  rintro e w2 ⟨rfl, hw2⟩
  have HD2 := Lib.hid (HD.out w2 _ hw2 rfl)
  clear hw2
  go_wp2_with fail
  refine HD2.out.mono ?_
  rintro e w4 ⟨rfl, h4⟩
  have HH := Lib.hid h4
  clear h4
  go_wp2
  go_ret2
  exact ⟨rfl, HH.out⟩
end Go.Proofs.YtgohhebffcldeaaGreatDoor

set_option linter.unusedVariables false
set_option linter.unusedSimpArgs false
namespace Go.Proofs.YtgohhebffcldeaaGreatDoor
open Go.RowKit
open Num

/-- one integer into a float -/
theorem UPA_one (name : ByteArray) (ab vb p1 Ta Tv base : Nat) (x : Value) (xn : Bool) (X F : Nat) (w w0 : World)
    (ha : w.heap[ab]? = some (.cells #[.iface 97 x] Ta (0, 0))) (hv : w.heap[vb]? = some (.cells #[.iface 153 (.pointer (some ⟨p1, 0, none⟩))] Tv (0, 0)))
    (h1 : FC w p1 0) (hx : IntIs w0 base x xn X) (hb0 : Below w0.heap.size w0 w) (hp1 : w0.heap.size ≤ p1)
    (hxn : xn = true → 0 < X) (hF : IsF F xn X) :
    Calls Tryz.prog 103 #[.string name, .slice (some ⟨ab, 0, none⟩) 1 1, .slice none 0 0, .int .i64 1, .slice (some ⟨vb, 0, none⟩) 1 1] w fun e w' => e = .returned .nilIface ∧ FC w' p1 F ∧ Below w0.heap.size w0 w' := by
  have a0 := (cell_of_row w ab 0 _ _ (0, 0) ha).trans rfl
  have v0 := (cell_of_row w vb 0 _ _ (0, 0) hv).trans rfl
  have HC := Lib.hid (checkPos_any name (some ⟨ab, 0, none⟩) 1 1 1 1 (by omega) (by omega) w)
  have HU1 := Lib.hid (UnpackArg_int p1 base 0 x xn X F w h1 (hx.below hb0) hxn hF)
  have HB0 := Lib.hid hb0
  clear ha hv h1 hx hb0 hxn hF
  go_enter Tryz.func103, Tryz.ntmps103
  go_wp2_with fail
  refine HC.out.mono ?_
  rintro e w2 ⟨rfl, rfl⟩
  go_wp2_with fail
  refine wp_loop_rounds 2 ?_
  rw [rounds_succ]
  go_wp2_with fail
  refine HU1.out.mono ?_
  rintro e w3 ⟨rfl, k1, k2⟩
  have HK := Lib.hid (And.intro k1 k2)
  clear k1 k2
  go_wp2_with fail
  rw [rounds_succ]
  go_wp2
  go_ret
  exact ⟨rfl, HK.out.1, Chg.below HB0.out HB0.out.size HK.out.2 hp1⟩

/-- the closure of a builtin of one argument -/
abbrev bin1 (nb fb : Nat) : Value := .func (Fn.func 110) #[] #[.pointer (some ⟨nb, 0, none⟩), .pointer (some ⟨fb, 0, none⟩)]
theorem newUn_any (name : ByteArray) (k : FuncId) (w : World) :
    Calls Tryz.prog 70 #[.string name, .func (Fn.func k) #[] #[]] w fun e w' => e = .returned (.pointer (some ⟨w.heap.size + 2, 0, none⟩)) ∧ w' = ((w.alloc (.cells #[.string name] 9)).alloc (.cells #[.func (Fn.func k) #[] #[]] 39)).alloc (.cells #[.string name, bin1 w.heap.size (w.heap.size + 1), .nilIface] 155) := by
  go_enter Tryz.func70, Tryz.ntmps70
  go_wp2
  go_ret
  exact ⟨by simp, by simp⟩

set_option maxRecDepth 100000 in
theorem clo1_any (name : ByteArray) (bb nb fb ab base Ta : Nat) (x : Value) (xn : Bool) (X F R : Nat) (w : World)
    (hn : w.heap[nb]? = some (.cells #[.string name] 9 (0, 0))) (hf : w.heap[fb]? = some (.cells #[.func (Fn.func 13) #[] #[]] 39 (0, 0)))
    (ha : w.heap[ab]? = some (.cells #[.iface 97 x] Ta (0, 0)))
    (hx : IntIs w base x xn X) (hxn : xn = true → 0 < X) (hF : IsF F xn X)
    (hk : ∀ W : World, Calls Tryz.prog 13 #[.float .f64 F] W fun e w' => e = .returned (.float .f64 R) ∧ w' = W) :
    Calls Tryz.prog 110 #[.pointer none, .pointer (some ⟨bb, 0, none⟩), .slice (some ⟨ab, 0, none⟩) 1 1, .slice none 0 0, .pointer (some ⟨nb, 0, none⟩), .pointer (some ⟨fb, 0, none⟩)] w fun e w' => e = .returned (.tuple #[.iface 99 (.float .f64 R), .nilIface]) ∧ Below w.heap.size w w' := by
  obtain ⟨w1, hw1⟩ : ∃ w1, w1 = (w.alloc fc0).alloc (.cells #[.iface 153 (.pointer (some ⟨w.heap.size, 0, none⟩))] 20) := ⟨_, rfl⟩
  have hb1 : Below w.heap.size w w1 := by rw [hw1]; exact ((Below.refl _ _).alloc (Nat.le_refl _) _).alloc (by simp) _
  have hv1 : w1.heap[w.heap.size + 1]? = some (.cells #[.iface 153 (.pointer (some ⟨w.heap.size, 0, none⟩))] 20 (0, 0)) := by rw [hw1]; exact heap2_1 _ _ _
  have hp1 : FC w1 w.heap.size 0 := by unfold FC; rw [hw1]; exact heap2_0 _ _ _
  have ln := (Array.getElem?_eq_some_iff.1 hn).1
  have lf := (Array.getElem?_eq_some_iff.1 hf).1
  have la := (Array.getElem?_eq_some_iff.1 ha).1
  have HU := Lib.hid (UPA_one name ab (w.heap.size + 1) w.heap.size Ta _ base x xn X F w1 w ((hb1.block ab la).trans ha) hv1 hp1 hx hb1 (Nat.le_refl _) hxn hF)
  have hb2' : Below w.heap.size w (w.alloc fc0) := (Below.refl _ _).alloc (Nat.le_refl _) _
  have n0 : (w.alloc fc0).cell? ⟨nb, 0, none⟩ = some (.string name) := (cell_of_row _ nb 0 _ _ (0, 0) ((hb2'.block nb ln).trans hn)).trans rfl
  clear hb2'
  have HFB := Lib.hid (fun (W : World) (hb : Below w.heap.size w W) => (show W.cell? ⟨fb, 0, none⟩ = some (.func (Fn.func 13) #[] #[]) from (cell_of_row W fb 0 _ _ (0, 0) ((hb.block fb lf).trans hf)).trans rfl))
  have HK := Lib.hid hk
  have HW1 := Lib.hid hw1; have HB1 := Lib.hid hb1
  clear hn hf ha hx hxn hF hk hw1 hb1 hv1 hp1
  go_enter Tryz.func110, Tryz.ntmps110
  go_wp2_with fail
  rw [← HW1.out]
  go_wp2_with fail
  refine HU.out.mono ?_
  rintro e w2 ⟨rfl, k1, k3⟩
  have f0 := HFB.out w2 k3
  have c1 := k1.c
  have HH := Lib.hid k3
  clear k1 k3
  go_wp2_with fail
  refine (HK.out _).mono ?_
  rintro e w3 ⟨rfl, rfl⟩
  go_wp2
  go_ret2
  exact ⟨rfl, HH.out⟩

theorem CallInternal_un (name : ByteArray) (bb nb fb ab base Ta : Nat) (x : Value) (xn : Bool) (X F R : Nat) (w : World)
    (hb : w.heap[bb]? = some (.cells #[.string name, bin1 nb fb, .nilIface] 155 (0, 0)))
    (hn : w.heap[nb]? = some (.cells #[.string name] 9 (0, 0))) (hf : w.heap[fb]? = some (.cells #[.func (Fn.func 13) #[] #[]] 39 (0, 0)))
    (ha : w.heap[ab]? = some (.cells #[.iface 97 x] Ta (0, 0)))
    (hx : IntIs w base x xn X) (hxn : xn = true → 0 < X) (hF : IsF F xn X)
    (hk : ∀ W : World, Calls Tryz.prog 13 #[.float .f64 F] W fun e w' => e = .returned (.float .f64 R) ∧ w' = W) :
    Calls Tryz.prog 66 #[.pointer (some ⟨bb, 0, none⟩), .pointer none, .slice (some ⟨ab, 0, none⟩) 1 1, .slice none 0 0] w fun e w' => e = .returned (.tuple #[.iface 99 (.float .f64 R), .nilIface]) ∧ Below w.heap.size w w' := by
  have HC := Lib.hid (clo1_any name bb nb fb ab base Ta x xn X F R w hn hf ha hx hxn hF hk)
  have c1 := (cell_of_row w bb 1 _ _ (0, 0) hb).trans rfl
  clear hb hn hf ha hx hxn hF hk
  go_enter Tryz.func66, Tryz.ntmps66
  go_wp2_with fail
  refine HC.out.mono ?_
  rintro e w2 ⟨rfl, h2⟩
  have HH := Lib.hid h2
  clear h2
  go_wp2
  go_ret2
  exact ⟨rfl, HH.out⟩

theorem ZzFabs_any (base : Nat) (x : Value) (xn : Bool) (X F R : Nat) (w : World)
    (hx : IntIs w base x xn X) (hxn : xn = true → 0 < X) (hF : IsF F xn X)
    (hk : ∀ W : World, Calls Tryz.prog 13 #[.float .f64 F] W fun e w' => e = .returned (.float .f64 R) ∧ w' = W) :
    Calls Tryz.prog 31 #[.iface 97 x] w fun e w' => e = .returned (.tuple #[.iface 99 (.float .f64 R), .nilIface]) ∧ Below w.heap.size w w' := by
  have HD : Hid (∀ w2 w3, w2 = ((w.alloc (.cells #[.string ⟨#[102, 97, 98, 115]⟩] 9)).alloc (.cells #[.func (Fn.func 13) #[] #[]] 39)).alloc (.cells #[.string ⟨#[102, 97, 98, 115]⟩, bin1 w.heap.size (w.heap.size + 1), .nilIface] 155) →
      w3 = w2.alloc (.cells #[.iface 97 x] 55) →
      Calls Tryz.prog 66 #[.pointer (some ⟨w.heap.size + 2, 0, none⟩), .pointer none, .slice (some ⟨w2.heap.size, 0, none⟩) 1 1, .slice none 0 0] w3 fun e w' => e = .returned (.tuple #[.iface 99 (.float .f64 R), .nilIface]) ∧ Below w.heap.size w w') := Lib.hid (by
    intro w2 w3 h2 h3
    have hb2 : Below w.heap.size w w2 := by rw [h2]; exact (((Below.refl _ _).alloc (Nat.le_refl _) _).alloc (by simp) _).alloc (by simp; omega) _
    have hs2 : w2.heap.size = w.heap.size + 3 := by rw [h2]; simp
    have hb3 : Below w2.heap.size w2 w3 := by rw [h3]; exact (Below.refl _ _).alloc (Nat.le_refl _) _
    have r0 := (hb3.block w.heap.size (by omega)).trans (show w2.heap[w.heap.size]? = some (.cells #[.string ⟨#[102, 97, 98, 115]⟩] 9 (0, 0)) from by rw [h2]; exact heap3_0 _ _ _ _)
    have r1 := (hb3.block (w.heap.size + 1) (by omega)).trans (show w2.heap[w.heap.size + 1]? = some (.cells #[.func (Fn.func 13) #[] #[]] 39 (0, 0)) from by rw [h2]; exact heap3_1 _ _ _ _)
    have r2 := (hb3.block (w.heap.size + 2) (by omega)).trans (show w2.heap[w.heap.size + 2]? = some (.cells #[.string ⟨#[102, 97, 98, 115]⟩, bin1 w.heap.size (w.heap.size + 1), .nilIface] 155 (0, 0)) from by rw [h2]; exact heap3_2 _ _ _ _)
    have r3 : w3.heap[w2.heap.size]? = some (.cells #[.iface 97 x] 55 (0, 0)) := by rw [h3]; exact heap_alloc_new _ _
    have hb := hb2.trans (hb3.mono (by omega))
    refine (CallInternal_un ⟨#[102, 97, 98, 115]⟩ (w.heap.size + 2) w.heap.size (w.heap.size + 1) w2.heap.size base _ x xn X F R w3 r2 r0 r1 r3 (hx.below hb) hxn hF hk).mono ?_
    rintro e w' ⟨he, hw⟩
    exact ⟨he, hb.trans (hw.mono (by have := hb3.size; omega))⟩)
  clear hx hxn hF hk
  go_enter Tryz.func31, Tryz.ntmps31
  go_wp2_with fail
  refine (newUn_any _ _ _).mono ?_
  rintro e w2 ⟨rfl, hw2⟩
  have HD2 := Lib.hid (HD.out w2 _ hw2 rfl)
  clear hw2
  go_wp2_with fail
  refine HD2.out.mono ?_
  rintro e w4 ⟨rfl, h4⟩
  have HH := Lib.hid h4
  clear h4
  go_wp2
  go_ret2
  exact ⟨rfl, HH.out⟩

theorem assert_float_none (v : Value) (w : World) : (Instr.typeAssert (.iface 99 v) 55 91 true).run Tryz.prog w = .ok (.tuple #[.int .u8 0, .bool false]) w := by kernel_rfl
theorem assert_float_bool (v : Value) (w : World) : (Instr.typeAssert (.iface 99 v) 55 92 true).run Tryz.prog w = .ok (.tuple #[.bool false, .bool false]) w := by kernel_rfl

theorem bitsOf_any (F : Nat) (w : World) : Calls Tryz.prog 100 #[.float .f64 F] w fun e w' => e = .returned (.int .u64 F) ∧ w' = w := by
  have h1 := run_tobits F
  go_enter Tryz.func100, Tryz.ntmps100
  go_wp2
  go_ret
  exact ⟨rfl, rfl⟩

set_option maxRecDepth 100000 in
theorem tellScalar_float (F : Nat) (w : World) : Calls Tryz.prog 64 #[.iface 99 (.float .f64 F)] w fun e w' => e = .returned (valFloat F) ∧ Below w.heap.size w w' := by
  have t1 := assert_float_none (.float .f64 F)
  have t2 := assert_float_bool (.float .f64 F)
  have t3 := assert_float_int (.float .f64 F)
  have t4 := assert_float_float (.float .f64 F)
  have hb : ∀ O, Below w.heap.size w (w.alloc O) := fun O => (Below.refl _ _).alloc (Nat.le_refl _) _
  have HB := Lib.hid hb
  clear hb
  go_enter Tryz.func64, Tryz.ntmps64
  go_wp2_with fail
  refine (bitsOf_any _ _).mono ?_
  rintro e w2 ⟨rfl, rfl⟩
  go_wp2
  exact bodyPost_ret (v := valFloat F) (by simp [results, Tryz.results64, go_sem]) rfl ⟨rfl, HB.out _⟩

set_option maxRecDepth 100000 in
theorem scalarOf_float (F : Nat) (w : World) : Calls Tryz.prog 24 #[.iface 99 (.float .f64 F), .nilIface] w fun e w' => e = .returned (.tuple #[valFloat F, .bool true]) ∧ Below w.heap.size w w' := by
  obtain ⟨w1, hw1⟩ : ∃ w1, w1 = w.alloc (.cells valZero 26) := ⟨_, rfl⟩
  have hb1 : Below w.heap.size w w1 := by rw [hw1]; exact (Below.refl _ _).alloc (Nat.le_refl _) _
  have r1 : w1.heap[w.heap.size]? = some (.cells valZero 26 (0, 0)) := by rw [hw1]; exact heap_alloc_new _ _
  have HT := Lib.hid (tellScalar_float F w1)
  have HB1 := Lib.hid hb1; have HW1 := Lib.hid hw1; have HR1 := Lib.hid r1
  have hl := (Array.getElem?_eq_some_iff.1 r1).1
  clear hb1 hw1 r1
  go_enter Tryz.func24, Tryz.ntmps24
  go_wp2_with fail
  rw [← HW1.out]
  refine HT.out.mono ?_
  rintro e w2 ⟨rfl, hb2⟩
  have hr2 := (hb2.block _ hl).trans HR1.out
  obtain ⟨c0, c1, c2, c3, c4, c5, cf⟩ := valRow hr2
  have HR2 := Lib.hid hr2
  have HB2 := Lib.hid (HB1.out.trans (hb2.mono HB1.out.size))
  clear hb2 hr2
  go_wp2
  have hW := set1 (i := 5) (x := .slice none 0 0) (set1 (i := 4) (x := .string ⟨#[]⟩) (set1 (i := 3) (x := .int .u64 F) (set1 (i := 2) (x := .slice none 0 0) (set1 (i := 1) (x := .bool false) (set1 (i := 0) (x := .int .i64 3) HR2.out)))))
  obtain ⟨d0, d1, d2, d3, d4, d5, df⟩ := valRow hW
  exact bodyPost_ret (v := .tuple #[valFloat F, .bool true]) (by simp [results, Tryz.results24, go_sem, d0, d1, d2, d3, d4, d5]) rfl ⟨rfl, (((((HB2.out.setCell (Nat.le_refl _) _).setCell (Nat.le_refl _) _).setCell (Nat.le_refl _) _).setCell (Nat.le_refl _) _).setCell (Nat.le_refl _) _).setCell (Nat.le_refl _) _⟩
end Go.Proofs.YtgohhebffcldeaaGreatDoor

set_option linter.unusedVariables false
set_option linter.unusedSimpArgs false
namespace Go.Proofs.YtgohhebffcldeaaGreatDoor
open Go.RowKit
open Num

abbrev vObj (neg : Bool) (s : Value) : Obj := .cells #[.int .i64 2, .bool neg, s, .int .u64 0, .string ⟨#[]⟩, .slice none 0 0] 26

set_option maxRecDepth 100000 in
set_option maxHeartbeats 1000000 in
theorem MathTwo_copysign (xn yn : Bool) (s t : Value) (n m X Y F G R : Nat) (w : World) (hs : MagAt w s n X) (ht : MagAt w t m Y) (hn : n ≤ 16777216) (hm : m ≤ 16777216) (hxn : xn = true → 0 < X) (hyn : yn = true → 0 < Y) (hF : IsF F xn X) (hG : IsF G yn Y)
    (hk : ∀ W : World, Calls Tryz.prog 11 #[.float .f64 F, .float .f64 G] W fun e w' => e = .returned (.float .f64 R) ∧ w' = W) :
    Calls Tryz.prog 8 #[.int .i64 5, valInt xn s, valInt yn t] w fun e w' => e = .returned (.tuple #[valFloat R, .bool true]) ∧ Below w.heap.size w w' := by
  obtain ⟨sa, sc, rfl⟩ := hs.shape
  obtain ⟨ta, tc, rfl⟩ := ht.shape
  obtain ⟨w1, hw1⟩ : ∃ w1, w1 = ((w.alloc (vObj xn (.slice sa n sc))).alloc (vObj yn (.slice ta m tc))).alloc (.cells valZero 26) := ⟨_, rfl⟩
  have hb1 : Below w.heap.size w w1 := by rw [hw1]; exact (((Below.refl _ _).alloc (Nat.le_refl _) _).alloc (by simp) _).alloc (by simp; omega) _
  have r0 : w1.heap[w.heap.size]? = some (vObj xn (.slice sa n sc)) := by rw [hw1]; exact heap3_0 _ _ _ _
  have r1 : w1.heap[w.heap.size + 1]? = some (vObj yn (.slice ta m tc)) := by rw [hw1]; exact heap3_1 _ _ _ _
  have r2 : w1.heap[w.heap.size + 2]? = some (.cells valZero 26 (0, 0)) := by rw [hw1]; exact heap3_2 _ _ _ _
  have hsz : w1.heap.size = w.heap.size + 3 := by rw [hw1]; simp
  obtain ⟨x0, x1, x2, x3, x4, x5, xf⟩ := valRow r0
  have HY := Lib.hid (fun (W : World) (hb : Below w1.heap.size w1 W) => valRow ((hb.block _ (by omega)).trans r1))
  have HRR := Lib.hid (fun (W : World) (hb : Below w1.heap.size w1 W) => (show W.heap[w.heap.size + 2]? = some (.cells valZero 26 (0, 0)) from (hb.block _ (by omega)).trans r2))
  have HS1 := Lib.hid (scalar_int xn (.slice sa n sc) n X w1 (hs.below hb1) hn hxn)
  have HS2 := Lib.hid (fun (W : World) (hb : Below w1.heap.size w1 W) => scalar_int yn (.slice ta m tc) m Y W ((ht.below hb1).below hb) hm hyn)
  have HZ := Lib.hid (fun (W : World) (x y : Value) (hx : IntIs W 0 x xn X) (hy : IntIs W 0 y yn Y) => ZzCopysign_any 0 x y xn yn X Y F G R W hx hy hxn hyn hF hG hk)
  have HB1 := Lib.hid hb1; have HW1 := Lib.hid hw1; have HSZ := Lib.hid hsz
  clear hs ht hxn hyn hF hG hk hb1 hw1 r0 r1 r2 hsz
  go_enter Tryz.func8, Tryz.ntmps8
  go_wp2_with fail
  rw [← HW1.out]
  go_wp2_with fail
  refine HS1.out.mono ?_
  rintro e w2 ⟨v, rfl, hI, hb2⟩
  obtain ⟨y0, y1, y2, y3, y4, y5, yf⟩ := HY.out w2 hb2
  have HI := Lib.hid (hI.base_le (Nat.zero_le _)); have HB2 := Lib.hid hb2
  have HS3 := Lib.hid (HS2.out w2 hb2)
  clear hI hb2
  go_wp2_with fail
  refine HS3.out.mono ?_
  rintro e w3 ⟨u, rfl, hJ, hb3⟩
  have HZ2 := Lib.hid (HZ.out w3 v u (HI.out.below hb3) (hJ.base_le (Nat.zero_le _)))
  have HB3 := Lib.hid (HB2.out.trans (hb3.mono HB2.out.size))
  clear hJ hb3
  go_wp2_with fail
  refine HZ2.out.mono ?_
  rintro e w4 ⟨rfl, hb4⟩
  have HB4 := Lib.hid (HB3.out.trans (hb4.mono HB3.out.size))
  clear hb4
  go_wp2_with fail
  refine (scalarOf_float R _).mono ?_
  rintro e w5 ⟨rfl, hb5⟩
  have hb5u := HB4.out.trans (hb5.mono HB4.out.size)
  have hr5 := HRR.out w5 hb5u
  obtain ⟨c0, c1, c2, c3, c4, c5, cf⟩ := valRow hr5
  have HR5 := Lib.hid hr5; have HB5 := Lib.hid (HB1.out.trans (hb5u.mono HB1.out.size))
  clear hb5 hb5u hr5
  go_wp2
  have hW := set1 (i := 5) (x := .slice none 0 0) (set1 (i := 4) (x := .string ⟨#[]⟩) (set1 (i := 3) (x := .int .u64 R) (set1 (i := 2) (x := .slice none 0 0) (set1 (i := 1) (x := .bool false) (set1 (i := 0) (x := .int .i64 3) HR5.out)))))
  obtain ⟨d0, d1, d2, d3, d4, d5, df⟩ := valRow hW
  exact bodyPost_ret (v := .tuple #[valFloat R, .bool true]) (by simp [results, Tryz.results8, go_sem, d0, d1, d2, d3, d4, d5]) rfl ⟨rfl, (((((HB5.out.setCell (by show w.heap.size ≤ w.heap.size + 2; omega) _).setCell (by show w.heap.size ≤ w.heap.size + 2; omega) _).setCell (by show w.heap.size ≤ w.heap.size + 2; omega) _).setCell (by show w.heap.size ≤ w.heap.size + 2; omega) _).setCell (by show w.heap.size ≤ w.heap.size + 2; omega) _).setCell (by show w.heap.size ≤ w.heap.size + 2; omega) _⟩

set_option maxRecDepth 100000 in
set_option maxHeartbeats 1000000 in
theorem MathTwo_mod (xn yn : Bool) (s t : Value) (n m X Y F G R : Nat) (w : World) (hs : MagAt w s n X) (ht : MagAt w t m Y) (hn : n ≤ 16777216) (hm : m ≤ 16777216) (hxn : xn = true → 0 < X) (hyn : yn = true → 0 < Y) (hF : IsF F xn X) (hG : IsF G yn Y)
    (hk : ∀ W : World, Calls Tryz.prog 12 #[.float .f64 F, .float .f64 G] W fun e w' => e = .returned (.float .f64 R) ∧ w' = W) :
    Calls Tryz.prog 8 #[.int .i64 6, valInt xn s, valInt yn t] w fun e w' => e = .returned (.tuple #[valFloat R, .bool true]) ∧ Below w.heap.size w w' := by
  obtain ⟨sa, sc, rfl⟩ := hs.shape
  obtain ⟨ta, tc, rfl⟩ := ht.shape
  obtain ⟨w1, hw1⟩ : ∃ w1, w1 = ((w.alloc (vObj xn (.slice sa n sc))).alloc (vObj yn (.slice ta m tc))).alloc (.cells valZero 26) := ⟨_, rfl⟩
  have hb1 : Below w.heap.size w w1 := by rw [hw1]; exact (((Below.refl _ _).alloc (Nat.le_refl _) _).alloc (by simp) _).alloc (by simp; omega) _
  have r0 : w1.heap[w.heap.size]? = some (vObj xn (.slice sa n sc)) := by rw [hw1]; exact heap3_0 _ _ _ _
  have r1 : w1.heap[w.heap.size + 1]? = some (vObj yn (.slice ta m tc)) := by rw [hw1]; exact heap3_1 _ _ _ _
  have r2 : w1.heap[w.heap.size + 2]? = some (.cells valZero 26 (0, 0)) := by rw [hw1]; exact heap3_2 _ _ _ _
  have hsz : w1.heap.size = w.heap.size + 3 := by rw [hw1]; simp
  obtain ⟨x0, x1, x2, x3, x4, x5, xf⟩ := valRow r0
  have HY := Lib.hid (fun (W : World) (hb : Below w1.heap.size w1 W) => valRow ((hb.block _ (by omega)).trans r1))
  have HRR := Lib.hid (fun (W : World) (hb : Below w1.heap.size w1 W) => (show W.heap[w.heap.size + 2]? = some (.cells valZero 26 (0, 0)) from (hb.block _ (by omega)).trans r2))
  have HS1 := Lib.hid (scalar_int xn (.slice sa n sc) n X w1 (hs.below hb1) hn hxn)
  have HS2 := Lib.hid (fun (W : World) (hb : Below w1.heap.size w1 W) => scalar_int yn (.slice ta m tc) m Y W ((ht.below hb1).below hb) hm hyn)
  have HZ := Lib.hid (fun (W : World) (x y : Value) (hx : IntIs W 0 x xn X) (hy : IntIs W 0 y yn Y) => ZzMod_any 0 x y xn yn X Y F G R W hx hy hxn hyn hF hG hk)
  have HB1 := Lib.hid hb1; have HW1 := Lib.hid hw1; have HSZ := Lib.hid hsz
  clear hs ht hxn hyn hF hG hk hb1 hw1 r0 r1 r2 hsz
  go_enter Tryz.func8, Tryz.ntmps8
  go_wp2_with fail
  rw [← HW1.out]
  go_wp2_with fail
  refine HS1.out.mono ?_
  rintro e w2 ⟨v, rfl, hI, hb2⟩
  obtain ⟨y0, y1, y2, y3, y4, y5, yf⟩ := HY.out w2 hb2
  have HI := Lib.hid (hI.base_le (Nat.zero_le _)); have HB2 := Lib.hid hb2
  have HS3 := Lib.hid (HS2.out w2 hb2)
  clear hI hb2
  go_wp2_with fail
  refine HS3.out.mono ?_
  rintro e w3 ⟨u, rfl, hJ, hb3⟩
  have HZ2 := Lib.hid (HZ.out w3 v u (HI.out.below hb3) (hJ.base_le (Nat.zero_le _)))
  have HB3 := Lib.hid (HB2.out.trans (hb3.mono HB2.out.size))
  clear hJ hb3
  go_wp2_with fail
  refine HZ2.out.mono ?_
  rintro e w4 ⟨rfl, hb4⟩
  have HB4 := Lib.hid (HB3.out.trans (hb4.mono HB3.out.size))
  clear hb4
  go_wp2_with fail
  refine (scalarOf_float R _).mono ?_
  rintro e w5 ⟨rfl, hb5⟩
  have hb5u := HB4.out.trans (hb5.mono HB4.out.size)
  have hr5 := HRR.out w5 hb5u
  obtain ⟨c0, c1, c2, c3, c4, c5, cf⟩ := valRow hr5
  have HR5 := Lib.hid hr5; have HB5 := Lib.hid (HB1.out.trans (hb5u.mono HB1.out.size))
  clear hb5 hb5u hr5
  go_wp2
  have hW := set1 (i := 5) (x := .slice none 0 0) (set1 (i := 4) (x := .string ⟨#[]⟩) (set1 (i := 3) (x := .int .u64 R) (set1 (i := 2) (x := .slice none 0 0) (set1 (i := 1) (x := .bool false) (set1 (i := 0) (x := .int .i64 3) HR5.out)))))
  obtain ⟨d0, d1, d2, d3, d4, d5, df⟩ := valRow hW
  exact bodyPost_ret (v := .tuple #[valFloat R, .bool true]) (by simp [results, Tryz.results8, go_sem, d0, d1, d2, d3, d4, d5]) rfl ⟨rfl, (((((HB5.out.setCell (by show w.heap.size ≤ w.heap.size + 2; omega) _).setCell (by show w.heap.size ≤ w.heap.size + 2; omega) _).setCell (by show w.heap.size ≤ w.heap.size + 2; omega) _).setCell (by show w.heap.size ≤ w.heap.size + 2; omega) _).setCell (by show w.heap.size ≤ w.heap.size + 2; omega) _).setCell (by show w.heap.size ≤ w.heap.size + 2; omega) _⟩

set_option maxRecDepth 100000 in
set_option maxHeartbeats 1000000 in
theorem MathOne_fabs (xn : Bool) (s : Value) (n X F R : Nat) (w : World) (hs : MagAt w s n X) (hn : n ≤ 16777216) (hxn : xn = true → 0 < X) (hF : IsF F xn X)
    (hk : ∀ W : World, Calls Tryz.prog 13 #[.float .f64 F] W fun e w' => e = .returned (.float .f64 R) ∧ w' = W) :
    Calls Tryz.prog 9 #[.int .i64 3, valInt xn s] w fun e w' => e = .returned (.tuple #[valFloat R, .bool true]) ∧ Below w.heap.size w w' := by
  obtain ⟨sa, sc, rfl⟩ := hs.shape
  obtain ⟨w1, hw1⟩ : ∃ w1, w1 = (w.alloc (vObj xn (.slice sa n sc))).alloc (.cells valZero 26) := ⟨_, rfl⟩
  have hb1 : Below w.heap.size w w1 := by rw [hw1]; exact ((Below.refl _ _).alloc (Nat.le_refl _) _).alloc (by simp) _
  have r0 : w1.heap[w.heap.size]? = some (vObj xn (.slice sa n sc)) := by rw [hw1]; exact heap2_0 _ _ _
  have r2 : w1.heap[w.heap.size + 1]? = some (.cells valZero 26 (0, 0)) := by rw [hw1]; exact heap2_1 _ _ _
  have hsz : w1.heap.size = w.heap.size + 2 := by rw [hw1]; simp
  obtain ⟨x0, x1, x2, x3, x4, x5, xf⟩ := valRow r0
  have HRR := Lib.hid (fun (W : World) (hb : Below w1.heap.size w1 W) => (show W.heap[w.heap.size + 1]? = some (.cells valZero 26 (0, 0)) from (hb.block _ (by omega)).trans r2))
  have HS1 := Lib.hid (scalar_int xn (.slice sa n sc) n X w1 (hs.below hb1) hn hxn)
  have HZ := Lib.hid (fun (W : World) (x : Value) (hx : IntIs W 0 x xn X) => ZzFabs_any 0 x xn X F R W hx hxn hF hk)
  have HB1 := Lib.hid hb1; have HW1 := Lib.hid hw1; have HSZ := Lib.hid hsz
  clear hs hxn hF hk hb1 hw1 r0 r2 hsz
  go_enter Tryz.func9, Tryz.ntmps9
  go_wp2_with fail
  rw [← HW1.out]
  go_wp2_with fail
  refine HS1.out.mono ?_
  rintro e w2 ⟨v, rfl, hI, hb2⟩
  have HZ2 := Lib.hid (HZ.out w2 v (hI.base_le (Nat.zero_le _)))
  have HB2 := Lib.hid hb2
  clear hI hb2
  go_wp2_with fail
  refine HZ2.out.mono ?_
  rintro e w4 ⟨rfl, hb4⟩
  have HB4 := Lib.hid (HB2.out.trans (hb4.mono HB2.out.size))
  clear hb4
  go_wp2_with fail
  refine (scalarOf_float R _).mono ?_
  rintro e w5 ⟨rfl, hb5⟩
  have hb5u := HB4.out.trans (hb5.mono HB4.out.size)
  have hr5 := HRR.out w5 hb5u
  obtain ⟨c0, c1, c2, c3, c4, c5, cf⟩ := valRow hr5
  have HR5 := Lib.hid hr5; have HB5 := Lib.hid (HB1.out.trans (hb5u.mono HB1.out.size))
  clear hb5 hb5u hr5
  go_wp2
  have hW := set1 (i := 5) (x := .slice none 0 0) (set1 (i := 4) (x := .string ⟨#[]⟩) (set1 (i := 3) (x := .int .u64 R) (set1 (i := 2) (x := .slice none 0 0) (set1 (i := 1) (x := .bool false) (set1 (i := 0) (x := .int .i64 3) HR5.out)))))
  obtain ⟨d0, d1, d2, d3, d4, d5, df⟩ := valRow hW
  exact bodyPost_ret (v := .tuple #[valFloat R, .bool true]) (by simp [results, Tryz.results9, go_sem, d0, d1, d2, d3, d4, d5]) rfl ⟨rfl, (((((HB5.out.setCell (by show w.heap.size ≤ w.heap.size + 1; omega) _).setCell (by show w.heap.size ≤ w.heap.size + 1; omega) _).setCell (by show w.heap.size ≤ w.heap.size + 1; omega) _).setCell (by show w.heap.size ≤ w.heap.size + 1; omega) _).setCell (by show w.heap.size ≤ w.heap.size + 1; omega) _).setCell (by show w.heap.size ≤ w.heap.size + 1; omega) _⟩
end Go.Proofs.YtgohhebffcldeaaGreatDoor

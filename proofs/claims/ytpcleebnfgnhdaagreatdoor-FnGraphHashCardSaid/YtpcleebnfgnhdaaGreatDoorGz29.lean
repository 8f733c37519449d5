import Derived.Test.YtpcleebnfgnhdaaGreatDoorGz25
import Derived.Test.YtpcleebnfgnhdaaGreatDoorGz28
import Derived.Test.YtpcleebnfgnhdaaGreatDoorGz21
/- Walks: the specification's equality of two values. -/
set_option linter.unusedVariables false
set_option linter.unusedSimpArgs false
namespace Go.Proofs.YtpcleebnfgnhdaaGreatDoor
open Go.RowKit
open Num

theorem box6 {w W : World} {b T : Nat} {c0 c1 c2 c3 c4 c5 : Value} (h : w.heap[b]? = some (.cells #[c0, c1, c2, c3, c4, c5] T (0, 0))) (hb : Below w.heap.size w W) :
    W.cell? ⟨b, 0, none⟩ = some c0 ∧ W.cell? ⟨b, 1, none⟩ = some c1 ∧ W.cell? ⟨b, 2, none⟩ = some c2 ∧ W.cell? ⟨b, 3, none⟩ = some c3 ∧ W.cell? ⟨b, 4, none⟩ = some c4 ∧ W.cell? ⟨b, 5, none⟩ = some c5 := by
  have h2 := (hb.block _ (Array.getElem?_eq_some_iff.1 h).1).trans h
  exact ⟨(cell_of_row _ _ 0 _ _ (0, 0) h2).trans rfl, (cell_of_row _ _ 1 _ _ (0, 0) h2).trans rfl, (cell_of_row _ _ 2 _ _ (0, 0) h2).trans rfl, (cell_of_row _ _ 3 _ _ (0, 0) h2).trans rfl, (cell_of_row _ _ 4 _ _ (0, 0) h2).trans rfl, (cell_of_row _ _ 5 _ _ (0, 0) h2).trans rfl⟩
/-- six cells as a value's -/
abbrev sixV (k : Int) (n : Bool) (a : Option Addr) (m c : Nat) (b : Int) (s : ByteArray) (a2 : Option Addr) (m2 c2 : Nat) : Value := .agg #[.int .i64 k, .bool n, .slice a m c, .int .u64 b, .string s, .slice a2 m2 c2]
abbrev sixO (k : Int) (n : Bool) (a : Option Addr) (m c : Nat) (b : Int) (s : ByteArray) (a2 : Option Addr) (m2 c2 : Nat) : Obj := .cells #[.int .i64 k, .bool n, .slice a m c, .int .u64 b, .string s, .slice a2 m2 c2] 32
theorem ValAt.kind {w : World} {d : Nat} {v : Value} {T : Tr} (h : ValAt w d v T) : ∃ n a m c b s a2 c2, v = sixV T.kind n a m c b s a2 T.kids.length c2 := by
  cases d with
  | zero => exact h.elim
  | succ d =>
    cases T with
    | non => exact ⟨_, _, _, _, _, _, _, _, h⟩
    | bool b => exact ⟨_, _, _, _, _, _, _, _, h⟩
    | int n V =>
      obtain ⟨s, m, e, hm, _⟩ := h
      obtain ⟨a, c, rfl⟩ := hm.shape
      exact ⟨_, _, _, _, _, _, _, _, e⟩
    | flt B => exact ⟨_, _, _, _, _, _, _, _, h.1⟩
    | str s => exact ⟨_, _, _, _, _, _, _, _, h.1⟩
    | byt s => exact ⟨_, _, _, _, _, _, _, _, h.1⟩
    | lst l => obtain ⟨ks, e, h2⟩ := h; obtain ⟨a, c, rfl⟩ := h2.shape; exact ⟨_, _, _, _, _, _, _, _, e⟩
    | tup l => obtain ⟨ks, e, h2⟩ := h; obtain ⟨a, c, rfl⟩ := h2.shape; exact ⟨_, _, _, _, _, _, _, _, e⟩
    | dic l => obtain ⟨ks, e, h2⟩ := h; obtain ⟨a, c, rfl⟩ := h2.shape; exact ⟨_, _, _, _, _, _, _, _, e⟩
    | set l => obtain ⟨ks, e, h2⟩ := h; obtain ⟨a, c, rfl⟩ := h2.shape; exact ⟨_, _, _, _, _, _, _, _, e⟩

theorem snumber_any (k : Int) (n : Bool) (a : Option Addr) (m c : Nat) (b : Int) (s : ByteArray) (a2 : Option Addr) (m2 c2 : Nat) (w : World) :
    Calls Tryz.prog 76 #[sixV k n a m c b s a2 m2 c2] w fun e w' => e = .returned (.bool (decide (k = 2 ∨ k = 3))) ∧ Below w.heap.size w w' := by
  by_cases h2 : k = 2
  · subst h2
    go_enter Tryz.func76, Tryz.ntmps76
    go_wp2
    go_ret
    exact ⟨rfl, below_al0 _ _⟩
  · have e2 : (k == 2) = false := by simp; omega
    by_cases h3 : k = 3
    · subst h3
      go_enter Tryz.func76, Tryz.ntmps76
      go_wp2
      go_ret
      exact ⟨rfl, below_al0 _ _⟩
    · have e3 : (k == 3) = false := by simp; omega
      have e4 : decide (k = 2 ∨ k = 3) = false := by simp; omega
      rw [e4]
      clear h2 h3 e4
      go_enter Tryz.func76, Tryz.ntmps76
      go_wp2
      go_ret
      exact ⟨rfl, below_al0 _ _⟩

/-- unlike kinds, not both numbers -/
theorem SEq_unlike (k n a m c b s a2 m2 c2 k' n' a' m' c' b' s' a2' m2' c2') (w : World) (hk : k ≠ k') (hn : ¬ ((k = 2 ∨ k = 3) ∧ (k' = 2 ∨ k' = 3))) :
    Calls Tryz.prog 55 #[sixV k n a m c b s a2 m2 c2, sixV k' n' a' m' c' b' s' a2' m2' c2'] w fun e w' => e = .returned (.bool false) ∧ Below w.heap.size w w' := by
  obtain ⟨w1, hw1⟩ : ∃ w1, w1 = (w.alloc (sixO k n a m c b s a2 m2 c2)).alloc (sixO k' n' a' m' c' b' s' a2' m2' c2') := ⟨_, rfl⟩
  obtain ⟨r0, r1, hb1, _⟩ := two_new w (sixO k n a m c b s a2 m2 c2) (sixO k' n' a' m' c' b' s' a2' m2' c2')
  rw [← hw1] at r0 r1 hb1
  have HN1 := Lib.hid (fun W => snumber_any k n a m c b s a2 m2 c2 W)
  have HN2 := Lib.hid (fun W => snumber_any k' n' a' m' c' b' s' a2' m2' c2' W)
  have HW1 := Lib.hid hw1; have HB1 := Lib.hid hb1; have HR0 := Lib.hid r0; have HR1 := Lib.hid r1
  have hne : (k != k') = true := by simp [hk]
  obtain ⟨x0, x1, x2, x3, x4, x5⟩ := box6 r0 (Below.refl _ _)
  have HNN := Lib.hid hn
  clear hw1 r0 r1 hb1 hk hn
  obtain ⟨q1, hq1⟩ : ∃ q, q = decide (k = 2 ∨ k = 3) := ⟨_, rfl⟩
  obtain ⟨q2, hq2⟩ : ∃ q, q = decide (k' = 2 ∨ k' = 3) := ⟨_, rfl⟩
  have hqq : ¬ (q1 = true ∧ q2 = true) := by rw [hq1, hq2, decide_eq_true_iff, decide_eq_true_iff]; exact HNN.out
  rw [← hq1] at HN1
  rw [← hq2] at HN2
  clear hq1 hq2
  cases q1
  · clear hqq
    go_enter Tryz.func55, Tryz.ntmps55
    go_wp2_with fail
    rw [← HW1.out]
    go_wp2_with fail
    refine (HN1.out _).mono ?_
    rintro e w2 ⟨rfl, hb2⟩
    have HB2 := Lib.hid hb2
    obtain ⟨y0, y1, y2, y3, y4, y5⟩ := box6 HR0.out hb2
    obtain ⟨z0, z1, z2, z3, z4, z5⟩ := box6 HR1.out hb2
    clear hb2
    go_wp2
    go_ret
    exact ⟨rfl, HB1.out.trans (HB2.out.mono HB1.out.size)⟩
  · have hq2 : q2 = false := by cases q2; rfl; exact absurd ⟨rfl, rfl⟩ hqq
    subst hq2
    clear hqq
    go_enter Tryz.func55, Tryz.ntmps55
    go_wp2_with fail
    rw [← HW1.out]
    go_wp2_with fail
    refine (HN1.out _).mono ?_
    rintro e w2 ⟨rfl, hb2⟩
    have HB2 := Lib.hid hb2
    obtain ⟨u0, u1, u2, u3, u4, u5⟩ := box6 HR1.out hb2
    clear hb2
    go_wp2_with fail
    refine (HN2.out _).mono ?_
    rintro e w3 ⟨rfl, hb3⟩
    have hb3' := HB2.out.trans (hb3.mono HB2.out.size)
    have HB3 := Lib.hid hb3'
    obtain ⟨y0, y1, y2, y3, y4, y5⟩ := box6 HR0.out hb3'
    obtain ⟨z0, z1, z2, z3, z4, z5⟩ := box6 HR1.out hb3'
    clear hb3 hb3'
    go_wp2
    go_ret
    exact ⟨rfl, HB1.out.trans (HB3.out.mono HB1.out.size)⟩

set_option maxRecDepth 100000 in
/-- two numbers -/
theorem SEq_num (k n a m c b s a2 m2 c2 k' n' a' m' c' b' s' a2' m2' c2') (r : Int) (w : World) (hk : k = 2 ∨ k = 3) (hk' : k' = 2 ∨ k' = 3)
    (hc : ∀ W, Below w.heap.size w W → Calls Tryz.prog 77 #[sixV k n a m c b s a2 m2 c2, sixV k' n' a' m' c' b' s' a2' m2' c2'] W fun e w' => e = .returned (.int .i64 r) ∧ Below W.heap.size W w') :
    Calls Tryz.prog 55 #[sixV k n a m c b s a2 m2 c2, sixV k' n' a' m' c' b' s' a2' m2' c2'] w fun e w' => e = .returned (.bool (r == 0)) ∧ Below w.heap.size w w' := by
  obtain ⟨w1, hw1⟩ : ∃ w1, w1 = (w.alloc (sixO k n a m c b s a2 m2 c2)).alloc (sixO k' n' a' m' c' b' s' a2' m2' c2') := ⟨_, rfl⟩
  obtain ⟨r0, r1, hb1, _⟩ := two_new w (sixO k n a m c b s a2 m2 c2) (sixO k' n' a' m' c' b' s' a2' m2' c2')
  rw [← hw1] at r0 r1 hb1
  have HN1 := Lib.hid (fun W => snumber_any k n a m c b s a2 m2 c2 W)
  have HN2 := Lib.hid (fun W => snumber_any k' n' a' m' c' b' s' a2' m2' c2' W)
  rw [decide_eq_true hk] at HN1
  rw [decide_eq_true hk'] at HN2
  have HC := Lib.hid hc
  have HW1 := Lib.hid hw1; have HB1 := Lib.hid hb1; have HR0 := Lib.hid r0; have HR1 := Lib.hid r1
  obtain ⟨x0, x1, x2, x3, x4, x5⟩ := box6 r0 (Below.refl _ _)
  clear hw1 r0 r1 hb1 hk hk' hc
  go_enter Tryz.func55, Tryz.ntmps55
  go_wp2_with fail
  rw [← HW1.out]
  go_wp2_with fail
  refine (HN1.out _).mono ?_
  rintro e w2 ⟨rfl, hb2⟩
  have HB2 := Lib.hid hb2
  obtain ⟨u0, u1, u2, u3, u4, u5⟩ := box6 HR1.out hb2
  clear hb2
  go_wp2_with fail
  refine (HN2.out _).mono ?_
  rintro e w3 ⟨rfl, hb3⟩
  have hb3' := HB2.out.trans (hb3.mono HB2.out.size)
  have HB3 := Lib.hid (HB1.out.trans (hb3'.mono HB1.out.size))
  obtain ⟨y0, y1, y2, y3, y4, y5⟩ := box6 HR0.out hb3'
  obtain ⟨z0, z1, z2, z3, z4, z5⟩ := box6 HR1.out hb3'
  clear hb3 hb3'
  go_wp2_with fail
  refine (HC.out _ HB3.out).mono ?_
  rintro e w4 ⟨rfl, hb4⟩
  have HB4 := Lib.hid (HB3.out.trans (hb4.mono HB3.out.size)); clear hb4
  go_wp2
  go_ret
  exact ⟨rfl, HB4.out⟩

theorem snumber_no (k n a m c b s a2 m2 c2) (h : k ≠ 2 ∧ k ≠ 3) (w : World) : Calls Tryz.prog 76 #[sixV k n a m c b s a2 m2 c2] w fun e w' => e = .returned (.bool false) ∧ Below w.heap.size w w' := by
  have := snumber_any k n a m c b s a2 m2 c2 w
  rwa [decide_eq_false (by omega)] at this

theorem SEq_none (w : World) :
    Calls Tryz.prog 55 #[valSix 0 0 ⟨#[]⟩ (.slice none 0 0), valSix 0 0 ⟨#[]⟩ (.slice none 0 0)] w fun e w' => e = .returned (.bool true) ∧ Below w.heap.size w w' := by
  obtain ⟨w1, hw1⟩ : ∃ w1, w1 = (w.alloc (sixO 0 false none 0 0 0 ⟨#[]⟩ none 0 0)).alloc (sixO 0 false none 0 0 0 ⟨#[]⟩ none 0 0) := ⟨_, rfl⟩
  obtain ⟨r0, r1, hb1, _⟩ := two_new w (sixO 0 false none 0 0 0 ⟨#[]⟩ none 0 0) (sixO 0 false none 0 0 0 ⟨#[]⟩ none 0 0)
  rw [← hw1] at r0 r1 hb1
  have HN1 := Lib.hid (fun W => snumber_no 0 false none 0 0 0 ⟨#[]⟩ none 0 0 ⟨by decide, by decide⟩ W)
  have HW1 := Lib.hid hw1; have HB1 := Lib.hid hb1; have HR0 := Lib.hid r0; have HR1 := Lib.hid r1
  obtain ⟨x0, x1, x2, x3, x4, x5⟩ := box6 r0 (Below.refl _ _)
  clear hw1 r0 r1 hb1
  go_enter Tryz.func55, Tryz.ntmps55
  go_wp2_with fail
  rw [← HW1.out]
  go_wp2_with fail
  refine (HN1.out _).mono ?_
  rintro e w2 ⟨rfl, hb2⟩
  have HB2 := Lib.hid hb2
  obtain ⟨y0, y1, y2, y3, y4, y5⟩ := box6 HR0.out hb2
  obtain ⟨z0, z1, z2, z3, z4, z5⟩ := box6 HR1.out hb2
  clear hb2
  go_wp2
  go_ret
  exact ⟨rfl, HB1.out.trans (HB2.out.mono HB1.out.size)⟩

theorem SEq_bool (b b' : Bool) (w : World) :
    Calls Tryz.prog 55 #[valSix 1 (if b then 1 else 0) ⟨#[]⟩ (.slice none 0 0), valSix 1 (if b' then 1 else 0) ⟨#[]⟩ (.slice none 0 0)] w fun e w' => e = .returned (.bool (b == b')) ∧ Below w.heap.size w w' := by
  obtain ⟨q, hq⟩ : ∃ q : Int, q = if b then 1 else 0 := ⟨_, rfl⟩
  obtain ⟨q', hq'⟩ : ∃ q : Int, q = if b' then 1 else 0 := ⟨_, rfl⟩
  have hr : (q == q') = (b == b') := by rw [hq, hq']; cases b <;> cases b' <;> rfl
  rw [← hq, ← hq', ← hr]
  clear hq hq' hr
  obtain ⟨w1, hw1⟩ : ∃ w1, w1 = (w.alloc (sixO 1 false none 0 0 q ⟨#[]⟩ none 0 0)).alloc (sixO 1 false none 0 0 q' ⟨#[]⟩ none 0 0) := ⟨_, rfl⟩
  obtain ⟨r0, r1, hb1, _⟩ := two_new w (sixO 1 false none 0 0 q ⟨#[]⟩ none 0 0) (sixO 1 false none 0 0 q' ⟨#[]⟩ none 0 0)
  rw [← hw1] at r0 r1 hb1
  have HN1 := Lib.hid (fun W => snumber_no 1 false none 0 0 q ⟨#[]⟩ none 0 0 ⟨by decide, by decide⟩ W)
  have HW1 := Lib.hid hw1; have HB1 := Lib.hid hb1; have HR0 := Lib.hid r0; have HR1 := Lib.hid r1
  obtain ⟨x0, x1, x2, x3, x4, x5⟩ := box6 r0 (Below.refl _ _)
  clear hw1 r0 r1 hb1
  go_enter Tryz.func55, Tryz.ntmps55
  go_wp2_with fail
  rw [← HW1.out]
  go_wp2_with fail
  refine (HN1.out _).mono ?_
  rintro e w2 ⟨rfl, hb2⟩
  have HB2 := Lib.hid hb2
  obtain ⟨y0, y1, y2, y3, y4, y5⟩ := box6 HR0.out hb2
  obtain ⟨z0, z1, z2, z3, z4, z5⟩ := box6 HR1.out hb2
  clear hb2
  go_wp2
  go_ret
  exact ⟨rfl, HB1.out.trans (HB2.out.mono HB1.out.size)⟩

theorem SEq_text (k : Int) (hk : k = 4 ∨ k = 5) (s s' : ByteArray) (w : World) :
    Calls Tryz.prog 55 #[valSix k 0 s (.slice none 0 0), valSix k 0 s' (.slice none 0 0)] w fun e w' => e = .returned (.bool (decide (s = s'))) ∧ Below w.heap.size w w' := by
  have hq : (s == s') = decide (s = s') := bytes_beq s s'
  rw [← hq, beq_toListBytes]
  clear hq
  obtain ⟨w1, hw1⟩ : ∃ w1, w1 = (w.alloc (sixO k false none 0 0 0 s none 0 0)).alloc (sixO k false none 0 0 0 s' none 0 0) := ⟨_, rfl⟩
  obtain ⟨r0, r1, hb1, _⟩ := two_new w (sixO k false none 0 0 0 s none 0 0) (sixO k false none 0 0 0 s' none 0 0)
  rw [← hw1] at r0 r1 hb1
  have HN1 := Lib.hid (fun W => snumber_no k false none 0 0 0 s none 0 0 ⟨by omega, by omega⟩ W)
  have HW1 := Lib.hid hw1; have HB1 := Lib.hid hb1; have HR0 := Lib.hid r0; have HR1 := Lib.hid r1
  obtain ⟨x0, x1, x2, x3, x4, x5⟩ := box6 r0 (Below.refl _ _)
  have e0 : (k == 0) = false := by simp; omega
  have e1 : (k == 1) = false := by simp; omega
  have e8 : (k == 8) = false := by simp; omega
  have e9 : (k == 9) = false := by simp; omega
  clear hw1 r0 r1 hb1 hk
  go_enter Tryz.func55, Tryz.ntmps55
  go_wp2_with fail
  rw [← HW1.out]
  go_wp2_with fail
  refine (HN1.out _).mono ?_
  rintro e w2 ⟨rfl, hb2⟩
  have HB2 := Lib.hid hb2
  obtain ⟨y0, y1, y2, y3, y4, y5⟩ := box6 HR0.out hb2
  obtain ⟨z0, z1, z2, z3, z4, z5⟩ := box6 HR1.out hb2
  clear hb2
  go_wp2
  refine wp_loop_rounds 1 ?_
  rw [rounds_succ]
  go_wp2
  go_ret
  exact ⟨rfl, HB1.out.trans (HB2.out.mono HB1.out.size)⟩

/-- a kid's six cells and what is known of it -/
theorem KidsAt.kid {w : World} {P : Value → Tr → Prop} {g p c n : Nat} {l : List Tr} (hk : ∀ i (h : i < l.length), ∃ u, V6 w g (p + i * 6) u ∧ P u l[i]) (hP : ∀ u T, T ∈ l → P u T → ∃ k n a m c b s a2 m2 c2, u = sixV k n a m c b s a2 m2 c2) (i : Nat) (hi : i < l.length) :
    ∃ k n a m c b s a2 m2 c2, w.cell? ⟨g, p + i * 6, none⟩ = some (.int .i64 k) ∧ w.cell? ⟨g, p + i * 6 + 1, none⟩ = some (.bool n) ∧ w.cell? ⟨g, p + i * 6 + 2, none⟩ = some (.slice a m c) ∧ w.cell? ⟨g, p + i * 6 + 3, none⟩ = some (.int .u64 b) ∧ w.cell? ⟨g, p + i * 6 + 4, none⟩ = some (.string s) ∧ w.cell? ⟨g, p + i * 6 + 5, none⟩ = some (.slice a2 m2 c2) ∧ P (sixV k n a m c b s a2 m2 c2) l[i] := by
  obtain ⟨u, hu, hp⟩ := hk i hi
  obtain ⟨k0, k1, a, m, cc, k3, k4, a2, m2, cc2, e⟩ := hP u l[i] (List.getElem_mem hi) hp
  obtain ⟨x0, x1, x2, x3, x4, x5, e2, y0, y1, y2, y3, y4, y5⟩ := hu
  have e' := e
  rw [e] at e2
  injection e2 with e2
  injection e2 with e2
  injection e2 with q0 e2; injection e2 with q1 e2; injection e2 with q2 e2; injection e2 with q3 e2; injection e2 with q4 e2; injection e2 with q5 e2
  subst q0; subst q1; subst q2; subst q3; subst q4; subst q5
  exact ⟨k0, k1, a, m, cc, k3, k4, a2, m2, cc2, y0, y1, y2, y3, y4, y5, by rw [← e']; exact hp⟩
/-- the cells of a kid, still there -/
def Cells6 (W : World) (g p : Nat) (k : Int) (n : Bool) (a : Option Addr) (m c : Nat) (b : Int) (s : ByteArray) (a2 : Option Addr) (m2 c2 : Nat) : Prop :=
  W.cell? ⟨g, p, none⟩ = some (.int .i64 k) ∧ W.cell? ⟨g, p + 1, none⟩ = some (.bool n) ∧ W.cell? ⟨g, p + 2, none⟩ = some (.slice a m c) ∧ W.cell? ⟨g, p + 3, none⟩ = some (.int .u64 b) ∧ W.cell? ⟨g, p + 4, none⟩ = some (.string s) ∧ W.cell? ⟨g, p + 5, none⟩ = some (.slice a2 m2 c2)
theorem Cells6.below {w W : World} {g p : Nat} {k n a m c b s a2 m2 c2} (h : Cells6 w g p k n a m c b s a2 m2 c2) (hb : Below w.heap.size w W) (hg : g < w.heap.size) : Cells6 W g p k n a m c b s a2 m2 c2 :=
  ⟨(hb.cell (p := ⟨g, p, none⟩) hg).trans h.1, (hb.cell (p := ⟨g, p + 1, none⟩) hg).trans h.2.1, (hb.cell (p := ⟨g, p + 2, none⟩) hg).trans h.2.2.1, (hb.cell (p := ⟨g, p + 3, none⟩) hg).trans h.2.2.2.1, (hb.cell (p := ⟨g, p + 4, none⟩) hg).trans h.2.2.2.2.1, (hb.cell (p := ⟨g, p + 5, none⟩) hg).trans h.2.2.2.2.2⟩

set_option maxRecDepth 100000 in
set_option maxHeartbeats 4000000 in
/-- two lists, two tuples -/
theorem SEq_seq (P Q : Value → Tr → Prop) (f : Tr → Tr → Bool) (kk : Int) (hkk : kk = 6 ∨ kk = 7) (ks ks' : Value) (l l' : List Tr) (hl : l.length ≤ 1000000) (hl' : l'.length ≤ 1000000) (w : World) (hs : KidsAt w P ks l) (ht : KidsAt w Q ks' l')
    (hP6 : ∀ u T, T ∈ l → P u T → ∃ k n a m c b s a2 m2 c2, u = sixV k n a m c b s a2 m2 c2) (hQ6 : ∀ u T, T ∈ l' → Q u T → ∃ k n a m c b s a2 m2 c2, u = sixV k n a m c b s a2 m2 c2)
    (hP : ∀ u v x y W, x ∈ l → y ∈ l' → P u x → Q v y → Below w.heap.size w W → Calls Tryz.prog 55 #[u, v] W fun e w' => e = .returned (.bool (f x y)) ∧ Below W.heap.size W w') :
    Calls Tryz.prog 55 #[valSix kk 0 ⟨#[]⟩ ks, valSix kk 0 ⟨#[]⟩ ks'] w fun e w' => e = .returned (.bool (allTwo f l l')) ∧ Below w.heap.size w w' := by
  obtain ⟨sa, sc, rfl⟩ := hs.shape
  obtain ⟨ta, tc, rfl⟩ := ht.shape
  obtain ⟨w1, hw1⟩ : ∃ w1, w1 = (w.alloc (sixO kk false none 0 0 0 ⟨#[]⟩ sa l.length sc)).alloc (sixO kk false none 0 0 0 ⟨#[]⟩ ta l'.length tc) := ⟨_, rfl⟩
  obtain ⟨r0, r1, hb1, _⟩ := two_new w (sixO kk false none 0 0 0 ⟨#[]⟩ sa l.length sc) (sixO kk false none 0 0 0 ⟨#[]⟩ ta l'.length tc)
  rw [← hw1] at r0 r1 hb1
  have HN1 := Lib.hid (fun W => snumber_no kk false none 0 0 0 ⟨#[]⟩ sa l.length sc ⟨by omega, by omega⟩ W)
  have HW1 := Lib.hid hw1; have HB1 := Lib.hid hb1; have HR0 := Lib.hid r0; have HR1 := Lib.hid r1
  obtain ⟨x0, x1, x2, x3, x4, x5⟩ := box6 r0 (Below.refl _ _)
  have e0 : (kk == 0) = false := by simp; omega
  have e1 : (kk == 1) = false := by simp; omega
  have e8 : (kk == 8) = false := by simp; omega
  have e9 : (kk == 9) = false := by simp; omega
  have hnul : (([] : List UInt8) == []) = true := rfl
  clear hw1 r0 r1 hb1 hkk
  by_cases hn : l.length = l'.length
  · rcases hs with ⟨rfl, _⟩ | ⟨h0, g, p, c, e, hc, hc2, hg, hk⟩
    · have hm0 : l' = [] := List.eq_nil_of_length_eq_zero (by simpa using hn.symm)
      subst hm0
      clear ht hP hP6 hQ6
      simp only [List.length_nil] at HW1 HN1 HR0 HR1 x5
      go_enter Tryz.func55, Tryz.ntmps55
      go_wp2_with fail
      rw [← HW1.out]
      go_wp2_with fail
      refine (HN1.out _).mono ?_
      rintro e w2 ⟨rfl, hb2⟩
      have HB2 := Lib.hid hb2
      obtain ⟨y0, y1, y2, y3, y4, y5⟩ := box6 HR0.out hb2
      obtain ⟨z0, z1, z2, z3, z4, z5⟩ := box6 HR1.out hb2
      clear hb2
      go_wp2
      refine wp_loop_rounds 1 ?_
      rw [rounds_succ]
      go_wp2
      go_ret
      exact ⟨rfl, HB1.out.trans (HB2.out.mono HB1.out.size)⟩
    · rcases ht with ⟨rfl, _⟩ | ⟨h0', g', p', c', e', hd, hd2, hg', hk'⟩
      · simp only [List.length_nil] at hn; omega
      · injection e with q1 _ q3
        injection e' with q1' _ q3'
        subst q1; subst q3; subst q1'; subst q3'
        have HK := Lib.hid (fun i hi => KidsAt.kid (c := sc) (n := 0) hk hP6 i hi)
        have HK' := Lib.hid (fun i hi => KidsAt.kid (c := tc) (n := 0) hk' hQ6 i hi)
        have HPP := Lib.hid (fun u v x y W (hx : x ∈ l) (hy : y ∈ l') (hu : P u x) (hv : Q v y) (hb : Below w1.heap.size w1 W) => hP u v x y W hx hy hu hv (HB1.out.trans (hb.mono HB1.out.size)))
        have HGG := Lib.hid (And.intro hg hg')
        have hg1 : g < w1.heap.size := Nat.lt_of_lt_of_le hg HB1.out.size
        have hg1' : g' < w1.heap.size := Nat.lt_of_lt_of_le hg' HB1.out.size
        have HN := Lib.hid hn
        clear hk hk' hP6 hQ6 hP hg hg'
        rw [← hn] at h0' hd HR1 HW1 ⊢
        obtain ⟨R, hR⟩ : ∃ R, R = allTwo f l l' := ⟨_, rfl⟩
        rw [← hR]
        have HR := Lib.hid hR
        clear hR hn
        obtain ⟨n, hnn⟩ : ∃ n, n = l.length := ⟨_, rfl⟩
        have HNN := Lib.hid hnn
        rw [← hnn] at hl h0 hc h0' hd HR0 HR1 HW1 HN1 x5 ⊢
        clear hnn hl'
        go_enter Tryz.func55, Tryz.ntmps55
        go_wp2_with fail
        rw [← HW1.out]
        go_wp2_with fail
        refine (HN1.out _).mono ?_
        rintro e w2 ⟨rfl, hb2⟩
        have HB2 := Lib.hid hb2
        obtain ⟨y0, y1, y2, y3, y4, y5⟩ := box6 HR0.out hb2
        obtain ⟨z0, z1, z2, z3, z4, z5⟩ := box6 HR1.out hb2
        clear hb2
        go_wp2
        clear y0 y1 y2 y3 y4 y5 z0 z1 z2 z3 z4 z5 x0 x1 x2 x3 x4 x5
        go_loopw [7] (fun i wr => ∃ k : Nat, k ≤ n ∧ i = .int .i64 k ∧ Below w1.heap.size w1 wr ∧ Hid (∀ j (a : j < l.length) (b : j < l'.length), j < k → f l[j] l'[j] = true)) (fun i _ => n - (intOf i).toNat)
        case atStart => exact ⟨0, by omega, rfl, HB2.out, Lib.hid (fun j _ _ h => absurd h (by omega))⟩
        case round =>
          obtain ⟨k, hk, rfl, hb, HA⟩ := hrel
          have HB := Lib.hid hb; clear hb
          obtain ⟨y0, y1, y2, y3, y4, y5⟩ := box6 HR0.out HB.out
          obtain ⟨z0, z1, z2, z3, z4, z5⟩ := box6 HR1.out HB.out
          by_cases he : k = n
          · subst he
            have hRt : R = true := by
              rw [HR.out]
              exact allTwo_all l l' HN.out (fun i a b => HA.out i a b (by have := HNN.out; omega))
            subst hRt
            go_wp2
            go_ret
            exact ⟨by first | rfl | simp, HB1.out.trans (HB.out.mono HB1.out.size)⟩
          · have hlt : (k : Int) < (n : Int) := by omega
            have hkl : k < l.length := by have := HNN.out; omega
            have hkm : k < l'.length := by have := HNN.out; have := HN.out; omega
            obtain ⟨k1, n1, a1, m1, c1, b1, s1, d1, o1, f1, i0, i1, i2, i3, i4, i5, hpu⟩ := HK.out k hkl
            obtain ⟨k2, n2, a2, m2, c2, b2, s2, d2, o2, f2, j0, j1, j2, j3, j4, j5, hpv⟩ := HK'.out k hkm
            have HI := Lib.hid (show ∀ W, Below w1.heap.size w1 W → Cells6 W g (p + k * 6) k1 n1 a1 m1 c1 b1 s1 d1 o1 f1 from fun W hb => (Cells6.below ⟨i0, i1, i2, i3, i4, i5⟩ HB1.out HGG.out.1).below hb hg1)
            have HJ := Lib.hid (show ∀ W, Below w1.heap.size w1 W → Cells6 W g' (p' + k * 6) k2 n2 a2 m2 c2 b2 s2 d2 o2 f2 from fun W hb => (Cells6.below ⟨j0, j1, j2, j3, j4, j5⟩ HB1.out HGG.out.2).below hb hg1')
            have HC := Lib.hid (HPP.out _ _ l[k] l'[k] wr.drew (List.getElem_mem hkl) (List.getElem_mem hkm) hpu hpv HB.out.drew)
            obtain ⟨r, hr⟩ : ∃ r, r = f l[k] l'[k] := ⟨_, rfl⟩
            rw [← hr] at HC
            have HRK := Lib.hid hr
            have HBC := Lib.hid HB.out.drew
            have HZ := Lib.hid (show ∀ W, Below w1.heap.size w1 W → W.cell? ⟨w.heap.size, 5, none⟩ = some (.slice (some ⟨g, p, none⟩) n sc) ∧ W.cell? ⟨w.heap.size + 1, 5, none⟩ = some (.slice (some ⟨g', p', none⟩) n tc) from fun W hb => ⟨(box6 HR0.out hb).2.2.2.2.2, (box6 HR1.out hb).2.2.2.2.2⟩)
            clear hr hpu hpv i0 i1 i2 i3 i4 i5 j0 j1 j2 j3 j4 j5 z0 z1 z2 z3 z4 y0 y1 y2 y3 y4
            cases r
            · have hRf : R = false := by
                rw [HR.out]
                exact allTwo_not l l' k hkl hkm HRK.out.symm
              subst hRf
              go_wp2
              go_region_held3 (fun W => Below w1.heap.size w1 W ∧ (W.cell? ⟨w.heap.size, 5, none⟩ = some (.slice (some ⟨g, p, none⟩) n sc) ∧ W.cell? ⟨w.heap.size + 1, 5, none⟩ = some (.slice (some ⟨g', p', none⟩) n tc)) ∧ (W.cell? ⟨g, p + k * 6, none⟩ = some (.int .i64 k1) ∧ W.cell? ⟨g, p + k * 6 + 1, none⟩ = some (.bool n1) ∧ W.cell? ⟨g, p + k * 6 + 2, none⟩ = some (.slice a1 m1 c1) ∧ W.cell? ⟨g, p + k * 6 + 3, none⟩ = some (.int .u64 b1) ∧ W.cell? ⟨g, p + k * 6 + 4, none⟩ = some (.string s1) ∧ W.cell? ⟨g, p + k * 6 + 5, none⟩ = some (.slice d1 o1 f1)) ∧ (W.cell? ⟨g', p' + k * 6, none⟩ = some (.int .i64 k2) ∧ W.cell? ⟨g', p' + k * 6 + 1, none⟩ = some (.bool n2) ∧ W.cell? ⟨g', p' + k * 6 + 2, none⟩ = some (.slice a2 m2 c2) ∧ W.cell? ⟨g', p' + k * 6 + 3, none⟩ = some (.int .u64 b2) ∧ W.cell? ⟨g', p' + k * 6 + 4, none⟩ = some (.string s2) ∧ W.cell? ⟨g', p' + k * 6 + 5, none⟩ = some (.slice d2 o2 f2))) (first | exact ⟨HBC.out, HZ.out _ HBC.out, HI.out _ HBC.out, HJ.out _ HBC.out⟩) (first | (go_simp; go_at_call 55; refine HC.out.mono ?_; rintro e w5 ⟨rfl, hb5⟩; have HBC := Lib.hid (HBC.out.trans (hb5.mono HBC.out.size)); clear hb5))
              all_goals go_wp2
              all_goals go_ret
              all_goals exact ⟨rfl, HB1.out.trans (HBC.out.mono HB1.out.size)⟩
            · go_wp2
              go_region_held3 (fun W => Below w1.heap.size w1 W ∧ (W.cell? ⟨w.heap.size, 5, none⟩ = some (.slice (some ⟨g, p, none⟩) n sc) ∧ W.cell? ⟨w.heap.size + 1, 5, none⟩ = some (.slice (some ⟨g', p', none⟩) n tc)) ∧ (W.cell? ⟨g, p + k * 6, none⟩ = some (.int .i64 k1) ∧ W.cell? ⟨g, p + k * 6 + 1, none⟩ = some (.bool n1) ∧ W.cell? ⟨g, p + k * 6 + 2, none⟩ = some (.slice a1 m1 c1) ∧ W.cell? ⟨g, p + k * 6 + 3, none⟩ = some (.int .u64 b1) ∧ W.cell? ⟨g, p + k * 6 + 4, none⟩ = some (.string s1) ∧ W.cell? ⟨g, p + k * 6 + 5, none⟩ = some (.slice d1 o1 f1)) ∧ (W.cell? ⟨g', p' + k * 6, none⟩ = some (.int .i64 k2) ∧ W.cell? ⟨g', p' + k * 6 + 1, none⟩ = some (.bool n2) ∧ W.cell? ⟨g', p' + k * 6 + 2, none⟩ = some (.slice a2 m2 c2) ∧ W.cell? ⟨g', p' + k * 6 + 3, none⟩ = some (.int .u64 b2) ∧ W.cell? ⟨g', p' + k * 6 + 4, none⟩ = some (.string s2) ∧ W.cell? ⟨g', p' + k * 6 + 5, none⟩ = some (.slice d2 o2 f2))) (first | exact ⟨HBC.out, HZ.out _ HBC.out, HI.out _ HBC.out, HJ.out _ HBC.out⟩) (first | (go_simp; go_at_call 55; refine HC.out.mono ?_; rintro e w5 ⟨rfl, hb5⟩; have HBC := Lib.hid (HBC.out.trans (hb5.mono HBC.out.size)); clear hb5))
              all_goals go_wp2
              all_goals go_round
              case rel => exact ⟨k + 1, by omega, by go_num, HBC.out, Lib.hid (fun j a b hj => by
                  by_cases e : j = k
                  · subst e; exact HRK.out.symm
                  · exact HA.out j a b (by omega))⟩
              case measure => simp [intOf]; omega
  · have hR : allTwo f l l' = false := by
      cases h : allTwo f l l'
      · rfl
      · exact absurd (allTwo_len l l' h) hn
    rw [hR]
    have hni : ((l.length : Int) != (l'.length : Int)) = true := by simp; omega
    clear hs ht hP hP6 hQ6 hR
    go_enter Tryz.func55, Tryz.ntmps55
    go_wp2_with fail
    rw [← HW1.out]
    go_wp2_with fail
    refine (HN1.out _).mono ?_
    rintro e w2 ⟨rfl, hb2⟩
    have HB2 := Lib.hid hb2
    obtain ⟨y0, y1, y2, y3, y4, y5⟩ := box6 HR0.out hb2
    obtain ⟨z0, z1, z2, z3, z4, z5⟩ := box6 HR1.out hb2
    clear hb2
    go_wp2
    go_ret
    exact ⟨rfl, HB1.out.trans (HB2.out.mono HB1.out.size)⟩
end Go.Proofs.YtpcleebnfgnhdaaGreatDoor

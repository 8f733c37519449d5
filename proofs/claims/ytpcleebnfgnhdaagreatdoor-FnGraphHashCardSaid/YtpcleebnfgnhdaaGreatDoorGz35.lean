import Derived.Test.YtpcleebnfgnhdaaGreatDoorGz34
import Derived.Test.YtpcleebnfgnhdaaGreatDoorGz32
/- Walks: Clean of an integer. -/
set_option linter.unusedVariables false
set_option linter.unusedSimpArgs false
namespace Go.Proofs.YtpcleebnfgnhdaaGreatDoor
open Go.RowKit
open Num

theorem put6_far {w : World} {B B' i : Nat} {x0 x1 x2 x3 x4 x5 : Value} (h : B' ≠ B) :
    ((((((w.setCell ⟨B, 0, none⟩ x0).setCell ⟨B, 1, none⟩ x1).setCell ⟨B, 2, none⟩ x2).setCell ⟨B, 3, none⟩ x3).setCell ⟨B, 4, none⟩ x4).setCell ⟨B, 5, none⟩ x5).cell? ⟨B', i, none⟩ = w.cell? ⟨B', i, none⟩ := by
  have := (put6_chg w B x0 x1 x2 x3 x4 x5)
  by_cases hb : B' < w.heap.size
  · exact World.cell?_of_block (w := w) (a := ⟨B', i, none⟩) (this.block B' hb h)
  · have h1 : w.heap[B']? = none := Array.getElem?_eq_none (by omega)
    have h2 : (put6 w B x0 x1 x2 x3 x4 x5).heap[B']? = none := Array.getElem?_eq_none (by unfold put6; simp [World.setCell]; omega)
    unfold put6 at h2
    simp [World.cell?, h1, h2]

set_option maxRecDepth 100000 in
set_option maxHeartbeats 8000000 in
theorem Clean_int (k n a m c b s a2 m2 c2) (deep V : Nat) (hd : deep ≤ 100) (hk : -9223372036854775808 ≤ k ∧ k ≤ 9223372036854775807) (hq : ckind k deep = 2) (w : World) (hV : BytAt w (.slice a m c) m V) (hmc : m ≤ c) (hm2 : m ≤ 9223372036854775807) :
    Calls Tryz.prog 23 #[sixV k n a m c b s a2 m2 c2, .int .i64 deep] w fun e w' => ∃ s' m' V', e = .returned (valInt (n && decide (0 < V')) s') ∧ m' ≤ 40 ∧ MagB w' (fun b => w.heap.size ≤ b) s' m' V' ∧ Below w.heap.size w w' := by
  obtain ⟨hm, hq0, hq9⟩ := kind_mod k hk
  have hcs := ckind_cases hq (by decide) (by decide)
  clear hq
  obtain ⟨q, hqq⟩ : ∃ q, q = k % 10 := ⟨_, rfl⟩
  rw [← hqq] at hm hq0 hq9 hcs
  obtain ⟨w1, hw1⟩ : ∃ w1, w1 = (w.alloc (sixO k n a m c b s a2 m2 c2)).alloc (sixO 0 false none 0 0 0 ⟨#[]⟩ none 0 0) := ⟨_, rfl⟩
  obtain ⟨r0, r1, hb1, _⟩ := two_new w (sixO k n a m c b s a2 m2 c2) (sixO 0 false none 0 0 0 ⟨#[]⟩ none 0 0)
  rw [← hw1] at r0 r1 hb1
  have HW1 := Lib.hid hw1; have HB1 := Lib.hid hb1; have HR0 := Lib.hid r0; have HR1 := Lib.hid r1
  obtain ⟨x0, x1, x2, x3, x4, x5⟩ := box6 r0 (Below.refl _ _)
  have hmin : min (m : Int) 40 = ((min m 40 : Nat) : Int) := by omega
  have hml : min m 40 ≤ m := by omega
  have hb40 : min m 40 ≤ 40 := by omega
  have hV2 := hV.first (k := min m 40) hml rfl
  obtain ⟨z, hz⟩ : ∃ z, z = min m 40 := ⟨_, rfl⟩
  rw [← hz] at hmin hml hV2 hb40
  have hzi : (z : Int) ≤ (m : Int) := by omega
  have hzc : (z : Int) ≤ (c : Int) := by omega
  obtain ⟨V', hV'⟩ : ∃ V', V' = V / 2 ^ (8 * (m - z)) := ⟨_, rfl⟩
  rw [← hV'] at hV2
  have HOF := Lib.hid (Of_any n (.slice a z c) z V' w1.drew ((show BytAt w1 (.slice a z c) z V' from hV2.below hb1)) (by omega))
  obtain ⟨nb, hnb⟩ : ∃ nb, nb = (n && decide (0 < V')) := ⟨_, rfl⟩
  rw [← hnb] at HOF
  have HNB := Lib.hid hnb
  have HBC := Lib.hid hb1.drew
  have HZ := Lib.hid hb40
  have d1 : w1.drew.cell? ⟨w.heap.size, 1, none⟩ = some (.bool n) := x1
  have d2 : w1.drew.cell? ⟨w.heap.size, 2, none⟩ = some (.slice a m c) := x2
  have hne : w.heap.size ≠ w.heap.size + 1 := by omega
  have HL := Lib.hid (And.intro (Array.getElem?_eq_some_iff.1 r0).1 (Array.getElem?_eq_some_iff.1 r1).1)
  clear hw1 r0 r1 hb1 hqq hk hV hV2 hz hV' hmc hm2 hb40 hnb
  rcases hcs with ⟨hd0, rfl⟩ | ⟨rfl, rfl, _⟩ | ⟨rfl, rfl⟩
  · have hdd : ¬ ((deep : Int) ≤ 0) := by omega
    go_enter Tryz.func23, Tryz.ntmps23
    go_upto_if 18 with fail
    rw [← HW1.out]
    go_wp2
    go_region_held3 (fun W => W.cell? ⟨w.heap.size, 1, none⟩ = some (.bool n) ∧ W.cell? ⟨w.heap.size, 2, none⟩ = some (.slice a m c)) (first | with_reducible exact ⟨d1, d2⟩ | with_reducible exact ⟨y1, y2⟩ | with_reducible exact ⟨u1, u2⟩ | with_reducible exact ⟨(put6_far hne).trans u1, (put6_far hne).trans u2⟩) (first | (go_simp; go_at_call 41; refine HOF.out.mono ?_; rintro e w5 ⟨s5, m5, rfl, hm5, hn5⟩; obtain ⟨a5, c5, rfl⟩ := hn5.1.shape; have HM5 := Lib.hid hm5; have HN5 := Lib.hid hn5; have hb5 := below_undrew hn5.2.2; obtain ⟨y0, y1, y2, y3, y4, y5⟩ := box6 HR0.out hb5; have HB5 := Lib.hid (HB1.out.trans (hb5.mono HB1.out.size)); have HR5 := Lib.hid ((hb5.block _ HL.out.2).trans HR1.out); have HS5 := Lib.hid (Nat.lt_of_lt_of_le HL.out.1 hb5.size); have HS6 := Lib.hid hb5.size; have HO5 := Lib.hid (Nat.le_trans hm5 (Nat.le_trans HZ.out (show 40 ≤ 1099511627776 by decide))); have HIV := Lib.hid (IntVal_any nb (.slice a5 m5 c5) m5 V' w5 hn5.1 HO5.out); clear hm5 hn5 hb5) | (go_simp; go_at_call 40; refine HIV.out.mono ?_; rintro e w6 ⟨s6, rfl, hn6⟩; obtain ⟨a6, c6, rfl⟩ := hn6.1.shape; have HN6 := Lib.hid hn6; have hb6 := hn6.2.2; obtain ⟨u0, u1, u2, u3, u4, u5⟩ := (show Cells6 w6 w.heap.size 0 k n a m c b s a2 m2 c2 from (Cells6.below ⟨y0, y1, y2, y3, y4, y5⟩ hb6 HS5.out)); have HB6 := Lib.hid (HB5.out.trans (hb6.mono HB5.out.size)); have HR6 := Lib.hid ((hb6.block _ (Array.getElem?_eq_some_iff.1 HR5.out).1).trans HR5.out); obtain ⟨v0, v1, v2, v3, v4, v5⟩ := box6 HR6.out (Below.refl _ _); have fv : ∀ i, w6.frozen? ⟨w.heap.size + 1, i, none⟩ = false := six_frozen HR6.out; clear hn6 hb6))
    all_goals go_wp2
    all_goals
      obtain ⟨e0, e1, e2, e3, e4, e5⟩ := box6 (put6_heap HR6.out) (Below.refl _ (put6 w6 (w.heap.size + 1) (.int .i64 2) (.bool nb) (.slice a6 m5 c6) (.int .u64 0) (.string ⟨#[]⟩) (.slice none 0 0)))
      unfold put6 at e0 e1 e2 e3 e4 e5
      have hch := put6_chg w6 (w.heap.size + 1) (.int .i64 2) (.bool nb) (.slice a6 m5 c6) (.int .u64 0) (.string ⟨#[]⟩) (.slice none 0 0)
      have hmag : MagB w6 (fun b => w5.heap.size ≤ b) (.slice a6 m5 c6) m5 V' := ⟨HN6.out.1, HN6.out.2.1⟩
      refine bodyPost_ret (v := sixV 2 nb a6 m5 c6 0 ⟨#[]⟩ none 0 0) (by simp [results, Tryz.results23, go_sem, e0, e1, e2, e3, e4, e5]) rfl ⟨.slice a6 m5 c6, m5, V', by rw [← HNB.out], by have := HM5.out; have := HZ.out; omega, ?_, Chg.below HB6.out HB6.out.size hch (by omega)⟩
      exact hmag.turn (fun b h => by have := HB5.out.size; omega) hch.size (fun b h hl => hch.block b hl (by have := HL.out.2; have := HS6.out; omega))
  all_goals
    go_enter Tryz.func23, Tryz.ntmps23
    go_upto_if 18 with fail
    rw [← HW1.out]
    go_wp2
    go_region_held3 (fun W => W.cell? ⟨w.heap.size, 1, none⟩ = some (.bool n) ∧ W.cell? ⟨w.heap.size, 2, none⟩ = some (.slice a m c)) (first | with_reducible exact ⟨d1, d2⟩ | with_reducible exact ⟨y1, y2⟩ | with_reducible exact ⟨u1, u2⟩ | with_reducible exact ⟨(put6_far hne).trans u1, (put6_far hne).trans u2⟩) (first | (go_simp; go_at_call 41; refine HOF.out.mono ?_; rintro e w5 ⟨s5, m5, rfl, hm5, hn5⟩; obtain ⟨a5, c5, rfl⟩ := hn5.1.shape; have HM5 := Lib.hid hm5; have HN5 := Lib.hid hn5; have hb5 := below_undrew hn5.2.2; obtain ⟨y0, y1, y2, y3, y4, y5⟩ := box6 HR0.out hb5; have HB5 := Lib.hid (HB1.out.trans (hb5.mono HB1.out.size)); have HR5 := Lib.hid ((hb5.block _ HL.out.2).trans HR1.out); have HS5 := Lib.hid (Nat.lt_of_lt_of_le HL.out.1 hb5.size); have HS6 := Lib.hid hb5.size; have HO5 := Lib.hid (Nat.le_trans hm5 (Nat.le_trans HZ.out (show 40 ≤ 1099511627776 by decide))); have HIV := Lib.hid (IntVal_any nb (.slice a5 m5 c5) m5 V' w5 hn5.1 HO5.out); clear hm5 hn5 hb5) | (go_simp; go_at_call 40; refine HIV.out.mono ?_; rintro e w6 ⟨s6, rfl, hn6⟩; obtain ⟨a6, c6, rfl⟩ := hn6.1.shape; have HN6 := Lib.hid hn6; have hb6 := hn6.2.2; obtain ⟨u0, u1, u2, u3, u4, u5⟩ := (show Cells6 w6 w.heap.size 0 k n a m c b s a2 m2 c2 from (Cells6.below ⟨y0, y1, y2, y3, y4, y5⟩ hb6 HS5.out)); have HB6 := Lib.hid (HB5.out.trans (hb6.mono HB5.out.size)); have HR6 := Lib.hid ((hb6.block _ (Array.getElem?_eq_some_iff.1 HR5.out).1).trans HR5.out); obtain ⟨v0, v1, v2, v3, v4, v5⟩ := box6 HR6.out (Below.refl _ _); have fv : ∀ i, w6.frozen? ⟨w.heap.size + 1, i, none⟩ = false := six_frozen HR6.out; clear hn6 hb6))
    all_goals go_wp2
    all_goals
      obtain ⟨e0, e1, e2, e3, e4, e5⟩ := box6 (put6_heap HR6.out) (Below.refl _ (put6 w6 (w.heap.size + 1) (.int .i64 2) (.bool nb) (.slice a6 m5 c6) (.int .u64 0) (.string ⟨#[]⟩) (.slice none 0 0)))
      unfold put6 at e0 e1 e2 e3 e4 e5
      have hch := put6_chg w6 (w.heap.size + 1) (.int .i64 2) (.bool nb) (.slice a6 m5 c6) (.int .u64 0) (.string ⟨#[]⟩) (.slice none 0 0)
      have hmag : MagB w6 (fun b => w5.heap.size ≤ b) (.slice a6 m5 c6) m5 V' := ⟨HN6.out.1, HN6.out.2.1⟩
      refine bodyPost_ret (v := sixV 2 nb a6 m5 c6 0 ⟨#[]⟩ none 0 0) (by simp [results, Tryz.results23, go_sem, e0, e1, e2, e3, e4, e5]) rfl ⟨.slice a6 m5 c6, m5, V', by rw [← HNB.out], by have := HM5.out; have := HZ.out; omega, ?_, Chg.below HB6.out HB6.out.size hch (by omega)⟩
      exact hmag.turn (fun b h => by have := HB5.out.size; omega) hch.size (fun b h hl => hch.block b hl (by have := HL.out.2; have := HS6.out; omega))
end Go.Proofs.YtpcleebnfgnhdaaGreatDoor

/- A value's box that was just made, behind a call. -/
set_option linter.unusedVariables false
set_option linter.unusedSimpArgs false
namespace Go.Proofs.YtpcleebnfgnhdaaGreatDoor
open Go.RowKit
open Num

theorem below_alx {w W : World} (h : Below w.heap.size w W) (O : Obj) : Below w.heap.size w (W.alloc O) := h.alloc h.size O

theorem below_step {w W W2 W3 : World} (h1 : Below w.heap.size w W) (h2 : Below W.heap.size W W2) (h3 : Below W2.heap.size W2 W3) : Below w.heap.size w W3 := (h1.trans (h2.mono h1.size)).trans (h3.mono (Nat.le_trans h1.size h2.size))

abbrev zO : Obj := .cells #[.int .i64 0, .bool false, .slice none 0 0, .int .u64 0, .string ⟨#[]⟩, .slice none 0 0] 32
/-- a value's box that was just made -/
def Zx (w : World) (b : Nat) : Prop := w.heap[b]? = some zO
theorem Zx.lt {w : World} {b : Nat} (h : Zx w b) : b < w.heap.size := (Array.getElem?_eq_some_iff.1 h).1
theorem Zx.new (w : World) : Zx (w.alloc zO) w.heap.size := heap_alloc_new w zO
theorem Zx.al {w : World} {b : Nat} (h : Zx w b) (O : Obj) : Zx (w.alloc O) b := (Below.heap_alloc w O b h.lt).trans h
theorem Zx.new2 (w : World) : Zx ((w.alloc zO).alloc zO) (w.heap.size + 1) := by
  have := Zx.new (w.alloc zO)
  rwa [World.size_alloc] at this
theorem Zx.below {w w' : World} {b : Nat} (h : Zx w b) (hb : Below w.heap.size w w') : Zx w' b := (hb.block b h.lt).trans h
theorem Zx.cells {w : World} {b : Nat} (h : Zx w b) : w.cell? ⟨b, 0, none⟩ = some (.int .i64 0) ∧ w.cell? ⟨b, 1, none⟩ = some (.bool false) ∧ w.cell? ⟨b, 2, none⟩ = some (.slice none 0 0) ∧ w.cell? ⟨b, 3, none⟩ = some (.int .u64 0) ∧ w.cell? ⟨b, 4, none⟩ = some (.string ⟨#[]⟩) ∧ w.cell? ⟨b, 5, none⟩ = some (.slice none 0 0) :=
  box6 h (Below.refl _ _)
theorem Zx.fr {w : World} {b : Nat} (h : Zx w b) (i : Nat) : w.frozen? ⟨b, i, none⟩ = false := by
  unfold Zx at h
  simp [World.frozen?, h]

theorem Zx.put {w : World} {b : Nat} (h : Zx w b) (x0 x1 x2 x3 x4 x5 : Value) : (put6 w b x0 x1 x2 x3 x4 x5).heap[b]? = some (.cells #[x0, x1, x2, x3, x4, x5] 32 (0, 0)) := put6_heap h
theorem below_put6 {w W : World} (h : Below w.heap.size w W) {b : Nat} (hb : w.heap.size ≤ b) (x0 x1 x2 x3 x4 x5 : Value) : Below w.heap.size w (put6 W b x0 x1 x2 x3 x4 x5) := Chg.below h h.size (put6_chg W b x0 x1 x2 x3 x4 x5) hb
/-- one box, two boxes made ahead of a call that follows a draw -/
theorem zx_one {w W : World} (h : Below (w.alloc zO).drew.heap.size (w.alloc zO).drew W) : Zx W w.heap.size := (Zx.new w.drew).below h
theorem zx_two {w W : World} (h : Below ((w.alloc zO).alloc zO).drew.heap.size ((w.alloc zO).alloc zO).drew W) : Zx W w.heap.size ∧ Zx W (w.heap.size + 1) := ⟨((Zx.new w.drew).al _).below h, (Zx.new2 w.drew).below h⟩
theorem zx_one' {w W : World} (h : Below (w.alloc zO).heap.size (w.alloc zO) W) : Zx W w.heap.size := (Zx.new w).below h
theorem zx_two' {w W : World} (h : Below ((w.alloc zO).alloc zO).heap.size ((w.alloc zO).alloc zO) W) : Zx W w.heap.size ∧ Zx W (w.heap.size + 1) := ⟨((Zx.new w).al _).below h, (Zx.new2 w).below h⟩
theorem below_chain6 {w W : World} (h : Below w.heap.size w W) {b : Nat} (hb : w.heap.size ≤ b) (x0 x1 x2 x3 x4 x5 : Value) : Below w.heap.size w ((((((W.setCell ⟨b, 0, none⟩ x0).setCell ⟨b, 1, none⟩ x1).setCell ⟨b, 2, none⟩ x2).setCell ⟨b, 3, none⟩ x3).setCell ⟨b, 4, none⟩ x4).setCell ⟨b, 5, none⟩ x5) := below_put6 h hb x0 x1 x2 x3 x4 x5
theorem chain6_row {w : World} {B T : Nat} {a0 a1 a2 a3 a4 a5 : Value} (x0 x1 x2 x3 x4 x5 : Value) (h : w.heap[B]? = some (.cells #[a0, a1, a2, a3, a4, a5] T (0, 0))) : ((((((w.setCell ⟨B, 0, none⟩ x0).setCell ⟨B, 1, none⟩ x1).setCell ⟨B, 2, none⟩ x2).setCell ⟨B, 3, none⟩ x3).setCell ⟨B, 4, none⟩ x4).setCell ⟨B, 5, none⟩ x5).heap[B]? = some (.cells #[x0, x1, x2, x3, x4, x5] T (0, 0)) := put6_heap h
theorem chain6_far {w : World} {B k : Nat} (x0 x1 x2 x3 x4 x5 : Value) (h : k ≠ B) : ((((((w.setCell ⟨B, 0, none⟩ x0).setCell ⟨B, 1, none⟩ x1).setCell ⟨B, 2, none⟩ x2).setCell ⟨B, 3, none⟩ x3).setCell ⟨B, 4, none⟩ x4).setCell ⟨B, 5, none⟩ x5).heap[k]? = w.heap[k]? :=
  (Below.heap_setCell _ ⟨B, 5, none⟩ x5 k h).trans ((Below.heap_setCell _ ⟨B, 4, none⟩ x4 k h).trans ((Below.heap_setCell _ ⟨B, 3, none⟩ x3 k h).trans ((Below.heap_setCell _ ⟨B, 2, none⟩ x2 k h).trans ((Below.heap_setCell _ ⟨B, 1, none⟩ x1 k h).trans (Below.heap_setCell _ ⟨B, 0, none⟩ x0 k h)))))
theorem size_alloc_drew' (w : World) (O : Obj) : (w.alloc O).drew.heap.size = w.heap.size + 1 := World.size_alloc w O
theorem size_alloc2_drew (w : World) (O O' : Obj) : ((w.alloc O).alloc O').drew.heap.size = w.heap.size + 2 := by
  show ((w.alloc O).alloc O').heap.size = _
  simp
theorem zx_row {w : World} {b : Nat} (h : Zx w b) : w.heap[b]? = some (.cells #[.int .i64 0, .bool false, .slice none 0 0, .int .u64 0, .string ⟨#[]⟩, .slice none 0 0] 32 (0, 0)) := h
theorem chain6_zx {w : World} {B : Nat} (x0 x1 x2 x3 x4 x5 : Value) (h : Zx w B) : ((((((w.setCell ⟨B, 0, none⟩ x0).setCell ⟨B, 1, none⟩ x1).setCell ⟨B, 2, none⟩ x2).setCell ⟨B, 3, none⟩ x3).setCell ⟨B, 4, none⟩ x4).setCell ⟨B, 5, none⟩ x5).heap[B]? = some (.cells #[x0, x1, x2, x3, x4, x5] 32 (0, 0)) := put6_heap h
theorem Zx.chain_far {w : World} {B k : Nat} (x0 x1 x2 x3 x4 x5 : Value) (h : k ≠ B) (hz : Zx w k) : Zx ((((((w.setCell ⟨B, 0, none⟩ x0).setCell ⟨B, 1, none⟩ x1).setCell ⟨B, 2, none⟩ x2).setCell ⟨B, 3, none⟩ x3).setCell ⟨B, 4, none⟩ x4).setCell ⟨B, 5, none⟩ x5) k := (chain6_far x0 x1 x2 x3 x4 x5 h).trans hz
/-- two values that lie in boxes -/
def TwoAt (w1 W : World) (s7 s8 : Value) : Prop :=
  ∃ b1 b2 p0 p1 p2 p3 p4 p5 p6 p7 p8 p9 q0 q1 q2 q3 q4 q5 q6 q7 q8 q9 tA tB, s7 = .pointer (some ⟨b1, 0, none⟩) ∧ s8 = .pointer (some ⟨b2, 0, none⟩) ∧ W.heap[b1]? = some (sixO p0 p1 p2 p3 p4 p5 p6 p7 p8 p9) ∧ W.heap[b2]? = some (sixO q0 q1 q2 q3 q4 q5 q6 q7 q8 q9) ∧
    ValAt W 4 (sixV p0 p1 p2 p3 p4 p5 p6 p7 p8 p9) tA ∧ ValAt W 4 (sixV q0 q1 q2 q3 q4 q5 q6 q7 q8 q9) tB ∧ CleanT 4 tA ∧ CleanT 4 tB ∧ Below w1.heap.size w1 W
end Go.Proofs.YtpcleebnfgnhdaaGreatDoor

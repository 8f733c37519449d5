/- Walk: spec.Int.Floor of two that are not negative, as far as memory goes. Walk: spec.Int.Rsh of one that is not negative, as far as memory goes. Walks: spec.Small of 1, math.Inf, spec.inf. Walk: spec.Int.Nearest, as far as memory goes. -/
import Derived.Test.YtgohhebffcldeaaGreatDoorNearX
import Derived.Deep.Cut
import Derived.Deep.CutRange
import Derived.Deep.RegionHeld3
import Derived.Test.YtgohhebffcldeaaGreatDoorFloX
import Derived.Test.YtgohhebffcldeaaGreatDoorOrdC
import Derived.Test.YtgohhebffcldeaaGreatDoorLsh
import Derived.Test.YtgohhebffcldeaaGreatDoorWholeF
import Derived.Laws.FloatArith
set_option linter.unusedVariables false
set_option linter.unusedSimpArgs false
namespace Go.Proofs.YtgohhebffcldeaaGreatDoor
open Go.RowKit
open Num

set_option maxRecDepth 100000 in
set_option maxHeartbeats 2000000 in
theorem Floor_any (s t : Value) (n m V U : Nat) (w : World) (hs : MagAt w s n V) (ht : MagAt w t m U) (hn : n ≤ 65536) (hm : m ≤ 65536) :
    Calls Tryz.prog 84 #[.agg #[.bool false, s], .agg #[.bool false, t]] w fun e w' => ∃ q k Q r, e = .returned (.tuple #[.agg #[.bool false, q], .agg #[.bool false, r]]) ∧ k ≤ n ∧ NewMag w w' q k Q ∧ ∃ ra rl rc, r = .slice ra rl rc := by
  obtain ⟨a, c, rfl⟩ := hs.shape
  obtain ⟨b, d, rfl⟩ := ht.shape
  obtain ⟨w0, hw0⟩ : ∃ w0, w0 = ((w.alloc (.cells #[.bool false, .slice a n c] 29)).alloc (.cells #[.bool false, .slice b m d] 29)).alloc (.cells #[.bool false, .slice none 0 0] 29) := ⟨_, rfl⟩
  obtain ⟨w1, hw1⟩ : ∃ w1, w1 = w0.alloc (.cells #[.bool false, .slice none 0 0] 29) := ⟨_, rfl⟩
  have hsz0 : w0.heap.size = w.heap.size + 3 := by rw [hw0]; simp
  have hsz : w1.heap.size = w.heap.size + 4 := by rw [hw1]; simp [hsz0]
  have hb1 : Below w.heap.size w w1 := by rw [hw1, hw0]; exact ((((Below.refl _ _).alloc (Nat.le_refl _) _).alloc (by simp) _).alloc (by simp; omega) _).alloc (by simp; omega) _
  have r0 : w1.heap[w.heap.size]? = some (.cells #[.bool false, .slice a n c] 29 (0, 0)) := by rw [hw1, heap_alloc_old _ _ (by omega), hw0]; exact heap3_0 _ _ _ _
  have r1 : w1.heap[w.heap.size + 1]? = some (.cells #[.bool false, .slice b m d] 29 (0, 0)) := by rw [hw1, heap_alloc_old _ _ (by omega), hw0]; exact heap3_1 _ _ _ _
  have r2 : w1.heap[w.heap.size + 2]? = some (.cells #[.bool false, .slice none 0 0] 29 (0, 0)) := by rw [hw1, heap_alloc_old _ _ (by omega), hw0]; exact heap3_2 _ _ _ _
  have r3 : w1.heap[w.heap.size + 3]? = some (.cells #[.bool false, .slice none 0 0] 29 (0, 0)) := by rw [hw1, ← hsz0]; exact heap_alloc_new _ _
  have HP := Lib.hid (fun (W : World) (hb : Below w1.heap.size w1 W) => (show W.cell? ⟨w.heap.size, 0, none⟩ = some (.bool false) ∧ W.cell? ⟨w.heap.size, 1, none⟩ = some (.slice a n c) ∧ W.cell? ⟨w.heap.size + 1, 0, none⟩ = some (.bool false) ∧ W.cell? ⟨w.heap.size + 1, 1, none⟩ = some (.slice b m d) from
    ⟨(cell_of_row W _ 0 _ _ (0, 0) ((hb.block _ (by omega)).trans r0)).trans rfl, (cell_of_row W _ 1 _ _ (0, 0) ((hb.block _ (by omega)).trans r0)).trans rfl, (cell_of_row W _ 0 _ _ (0, 0) ((hb.block _ (by omega)).trans r1)).trans rfl, (cell_of_row W _ 1 _ _ (0, 0) ((hb.block _ (by omega)).trans r1)).trans rfl⟩))
  have HQ2 := Lib.hid (fun (W : World) (hb : Below w1.heap.size w1 W) => (show W.heap[w.heap.size + 2]? = some (.cells #[.bool false, .slice none 0 0] 29 (0, 0)) from (hb.block _ (by omega)).trans r2))
  have HQ3 := Lib.hid (fun (W : World) (hb : Below w1.heap.size w1 W) => (show W.heap[w.heap.size + 3]? = some (.cells #[.bool false, .slice none 0 0] 29 (0, 0)) from (hb.block _ (by omega)).trans r3))
  have HSP := Lib.hid (split_any (.slice a n c) (.slice b m d) n m V U w1 (hs.below hb1) (ht.below hb1) hn hm)
  have hw1' : w1 = (((w.alloc (.cells #[.bool false, .slice a n c] 29)).alloc (.cells #[.bool false, .slice b m d] 29)).alloc (.cells #[.bool false, .slice none 0 0] 29)).alloc (.cells #[.bool false, .slice none 0 0] 29) := by rw [hw1, hw0]
  have HB1 := Lib.hid hb1; have HW1 := Lib.hid hw1'; have HSZ := Lib.hid hsz
  clear hs ht hb1 hw1 hw0 hw1' r0 r1 r2 r3 hsz hsz0
  obtain ⟨x0, x1, y0, y1⟩ := HP.out w1 (Below.refl _ _)
  go_enter Tryz.func84, Tryz.ntmps84
  go_wp2_with fail
  rw [← HW1.out]
  go_wp2_with fail
  refine HSP.out.mono ?_
  rintro e w2 ⟨q, r, k, l, Q, R, rfl, hk, hl, hq, hr, hb2⟩
  obtain ⟨aq, cq, rfl⟩ := hq.shape
  obtain ⟨ar, cr, rfl⟩ := hr.shape
  obtain ⟨x0', x1', y0', y1'⟩ := HP.out w2.drew hb2.drew
  obtain ⟨x0'', x1'', y0'', y1''⟩ := HP.out w2 hb2
  have ho1 := Of_any false (.slice aq k cq) k Q w2.drew (hq.below (Below.refl _ _).drew).byt (by omega)
  have ho2 := fun (W : World) (hb : Below w2.heap.size w2 W) => Of_any false (.slice ar l cr) l R W (hr.below hb).byt (by omega)
  simp only [Bool.false_and] at ho1 ho2
  have HO1 := Lib.hid ho1
  have HO2 := Lib.hid ho2
  clear ho1 ho2
  have HB2 := Lib.hid hb2; have HK := Lib.hid hk
  clear hq hr hb2 hk hl x0 x1 y0 y1
  go_wp2_with fail
  go_region_law (first | (go_simp; go_at_call 6; refine HO3.out.mono ?_; rintro e w4 ⟨s4, m4, rfl, hm4, hn4⟩; obtain ⟨a4, c4, rfl⟩ := hn4.1.shape; have hb4u := HB3.out.trans (hn4.2.2.mono HB3.out.size); have HR2 := Lib.hid (HQ2.out w4 hb4u); have HR3 := Lib.hid (HQ3.out w4 hb4u); have z0 := (cell_of_row w4 _ 0 _ _ (0, 0) HR2.out).trans rfl; have z1 := (cell_of_row w4 _ 1 _ _ (0, 0) HR2.out).trans rfl; have z2 := (cell_of_row w4 _ 0 _ _ (0, 0) HR3.out).trans rfl; have z3 := (cell_of_row w4 _ 1 _ _ (0, 0) HR3.out).trans rfl; have f0 : ∀ i, w4.frozen? ⟨w.heap.size + 2, i, none⟩ = false := (fun i => by simp [World.frozen?, HR2.out]); have f1 : ∀ i, w4.frozen? ⟨w.heap.size + 3, i, none⟩ = false := (fun i => by simp [World.frozen?, HR3.out]); have HB4 := Lib.hid hb4u; have HN4 := Lib.hid hn4; clear hb4u hn4 hm4) | (go_simp; go_at_call 6; refine HO1.out.mono ?_; rintro e w3 ⟨s3, m3, rfl, hm3, hn3⟩; obtain ⟨a3, c3, rfl⟩ := hn3.1.shape; have hb3 := below_undrew hn3.2.2; have hb3u := HB2.out.trans (hb3.mono HB2.out.size); obtain ⟨p0, p1, p2, p3⟩ := HP.out w3 hb3u; have HO3 := Lib.hid (HO2.out w3 hb3); have HB3 := Lib.hid hb3u; have HN3 := Lib.hid hn3; have HM3 := Lib.hid hm3; clear hb3 hb3u hn3 hm3))
  all_goals (
    go_wp2
    have hne : ∀ x, x = 2 ∨ x = 3 → ∀ bb k' c', Value.slice a3 m3 c3 = .slice (some bb) k' c' → 0 < m3 → bb.block ≠ w.heap.size + x := fun x hx bb k' c' e h0 => by
      have h1 := HN3.out.2.1 bb k' c' e h0
      have h2 := HB2.out.size
      have h3 := HSZ.out
      have h4 : w2.drew.heap.size = w2.heap.size := rfl
      omega
    have h2a := set1 (i := 1) (x := .slice a3 m3 c3) (set1 (i := 0) (x := .bool false) HR2.out)
    have h3a := (Below.heap_setCell _ ⟨w.heap.size + 2, 1, none⟩ (.slice a3 m3 c3) (w.heap.size + 3) (by show w.heap.size + 3 ≠ w.heap.size + 2; omega)).trans ((Below.heap_setCell w4 ⟨w.heap.size + 2, 0, none⟩ (.bool false) (w.heap.size + 3) (by show w.heap.size + 3 ≠ w.heap.size + 2; omega)).trans HR3.out)
    have h3b := set1 (i := 1) (x := .slice a4 m4 c4) (set1 (i := 0) (x := .bool false) h3a)
    have e2 := (cell_of_row _ _ 0 _ _ (0, 0) h3b).trans rfl
    have e3 := (cell_of_row _ _ 1 _ _ (0, 0) h3b).trans rfl
    have h2b := (Below.heap_setCell _ ⟨w.heap.size + 3, 1, none⟩ (.slice a4 m4 c4) (w.heap.size + 2) (by show w.heap.size + 2 ≠ w.heap.size + 3; omega)).trans ((Below.heap_setCell _ ⟨w.heap.size + 3, 0, none⟩ (.bool false) (w.heap.size + 2) (by show w.heap.size + 2 ≠ w.heap.size + 3; omega)).trans h2a)
    have e0 := (cell_of_row _ _ 0 _ _ (0, 0) h2b).trans rfl
    have e1 := (cell_of_row _ _ 1 _ _ (0, 0) h2b).trans rfl
    have hbw : Below w.heap.size w w2.drew := (HB1.out.trans (HB2.out.mono HB1.out.size)).drew
    have hfin := (((((HN3.out.on HN4.out.2.2).from hbw).put (by omega) (o := 0) (hne 2 (.inl rfl)) (.bool false)).put (by omega) (o := 1) (hne 2 (.inl rfl)) (.slice a3 m3 c3)).put (by omega) (o := 0) (hne 3 (.inr rfl)) (.bool false)).put (by omega) (o := 1) (hne 3 (.inr rfl)) (.slice a4 m4 c4)
    exact bodyPost_ret (v := .tuple #[.agg #[.bool false, .slice a3 m3 c3], .agg #[.bool false, .slice a4 m4 c4]]) (by simp [results, Tryz.results84, go_sem, e0, e1, e2, e3]) rfl ⟨_, m3, Q, _, rfl, by have h1 := HM3.out; have h2 := HK.out; omega, hfin, _, _, _, rfl⟩)
end Go.Proofs.YtgohhebffcldeaaGreatDoor

set_option linter.unusedVariables false
set_option linter.unusedSimpArgs false
namespace Go.Proofs.YtgohhebffcldeaaGreatDoor
open Go.RowKit
open Num

/-- block b is an integer of the specification that was just laid: 0 -/
def Zr (E : World) (b : Nat) : Prop := E.heap[b]? = some (.cells #[.bool false, .slice none 0 0] 29 (0, 0))
abbrev zrObj : Obj := .cells #[.bool false, .slice none 0 0] 29
theorem Zr.c0 {E : World} {b : Nat} (h : Zr E b) : E.cell? ⟨b, 0, none⟩ = some (.bool false) := (cell_of_row E _ 0 _ _ (0, 0) h).trans rfl
theorem Zr.c1 {E : World} {b : Nat} (h : Zr E b) : E.cell? ⟨b, 1, none⟩ = some (.slice none 0 0) := (cell_of_row E _ 1 _ _ (0, 0) h).trans rfl
theorem Zr.fr {E : World} {b : Nat} (h : Zr E b) : ∀ i, E.frozen? ⟨b, i, none⟩ = false := fun i => by unfold Zr at h; simp [World.frozen?, h]
theorem Zr.lt {E : World} {b : Nat} (h : Zr E b) : b < E.heap.size := (Array.getElem?_eq_some_iff.1 h).1
theorem Zr.below {E E' : World} {b : Nat} (h : Zr E b) (hb : Below E.heap.size E E') : Zr E' b := (hb.block _ h.lt).trans h
theorem Zr.al {E : World} {b : Nat} (h : Zr E b) (O : Obj) : Zr (E.alloc O) b := (heap_alloc_old _ _ h.lt).trans h
theorem Zr.new (E : World) : Zr (E.alloc zrObj) E.heap.size := heap_alloc_new _ _
theorem Zr.new2 (E : World) : Zr ((E.alloc zrObj).alloc zrObj) (E.heap.size + 1) := heap2_1 _ _ _
theorem _root_.Go.RowKit.Below.al {B : Nat} {w W : World} (h : Below B w W) (hB : B ≤ w.heap.size) (O : Obj) : Below B w (W.alloc O) := h.alloc (Nat.le_trans hB h.size) O
theorem MagAt.blk {w : World} {s : Value} {n V : Nat} (h : MagAt w s n V) : ∀ b k c, s = .slice (some b) k c → 0 < n → b.block < w.heap.size := by
  intro b k c e h0
  rcases h.2 with ⟨h, _⟩ | ⟨_, g, p, c', rfl, _, hg, _⟩
  · omega
  · injection e with e; injection e with e; subst e; exact hg

theorem Zr.put {E : World} {b : Nat} (h : Zr E b) {B o : Nat} (hne : b ≠ B) (u : Value) : Zr (E.setCell ⟨B, o, none⟩ u) b := (Below.heap_setCell E ⟨B, o, none⟩ u b hne).trans h
theorem NewMag.al {w w' : World} {s : Value} {m V : Nat} (h : NewMag w w' s m V) (O : Obj) : NewMag w (w'.alloc O) s m V := h.on ((Below.refl _ _).alloc (Nat.le_refl _) _)
/-- the integer that lies in block b of wx is new since w, of n bytes at most -/
def RowI (w wx : World) (b n : Nat) : Prop := ∃ q c m Q, m ≤ n ∧ wx.heap[b]? = some (.cells #[.bool false, .slice q m c] 29 (0, 0)) ∧ NewMag w wx (.slice q m c) m Q ∧ (∀ a k c', Value.slice q m c = .slice (some a) k c' → 0 < m → w.heap.size + 2 ≤ a.block)

set_option maxRecDepth 100000 in
set_option maxHeartbeats 8000000 in
theorem Rsh_any (s : Value) (n V k : Nat) (w : World) (hs : MagAt w s n V) (hn : n ≤ 8192) (hk : k ≤ 8 * n) :
    Calls Tryz.prog 50 #[.agg #[.bool false, s], .int .i64 k] w fun e w' => ∃ q m Q, e = .returned (.agg #[.bool false, q]) ∧ m ≤ n ∧ NewMag w w' q m Q := by
  obtain ⟨a, c, rfl⟩ := hs.shape
  obtain ⟨w1, hw1⟩ : ∃ w1, w1 = (w.alloc (.cells #[.bool false, .slice a n c] 29)).alloc (.cells #[.bool false, .slice none 0 0] 29) := ⟨_, rfl⟩
  have hb1 : Below w.heap.size w w1 := by rw [hw1]; exact ((Below.refl _ _).alloc (Nat.le_refl _) _).alloc (by simp) _
  have r0 : w1.heap[w.heap.size]? = some (.cells #[.bool false, .slice a n c] 29 (0, 0)) := by rw [hw1]; exact heap2_0 _ _ _
  have r1 : Zr w1 (w.heap.size + 1) := by unfold Zr; rw [hw1]; exact heap2_1 _ _ _
  have hsz : w1.heap.size = w.heap.size + 2 := by rw [hw1]; simp
  have HP := Lib.hid (fun (W : World) (hb : Below w1.heap.size w1 W) => (show W.cell? ⟨w.heap.size, 0, none⟩ = some (.bool false) ∧ W.cell? ⟨w.heap.size, 1, none⟩ = some (.slice a n c) from
    ⟨(cell_of_row W _ 0 _ _ (0, 0) ((hb.block _ (by omega)).trans r0)).trans rfl, (cell_of_row W _ 1 _ _ (0, 0) ((hb.block _ (by omega)).trans r0)).trans rfl⟩))
  have HQ := Lib.hid (fun (W : World) (hb : Below w1.heap.size w1 W) => r1.below hb)
  have HPW := Lib.hid (fun (W : World) => Power_any k (by omega) W)
  have HFL := Lib.hid (fun (W : World) (hb : Below w1.heap.size w1 W) (t : Value) (m U : Nat) (ht : MagAt W t m U) (hm : m ≤ 65536) => Floor_any (.slice a n c) t n m V U W ((hs.below hb1).below hb) ht (by omega) hm)
  have hgt : ¬ (8 * (n : Int) < (k : Int)) := by omega
  have HB1 := Lib.hid hb1; have HW1 := Lib.hid hw1; have HSZ := Lib.hid hsz
  have hmb : k / 8 + 1 ≤ 65536 := by omega
  have HMB := Lib.hid hmb
  clear hs hb1 hw1 r0 r1 hsz hmb
  obtain ⟨x0, x1⟩ := HP.out w1 (Below.refl _ _)
  obtain ⟨y0, y1⟩ := HP.out w1.drew (Below.refl _ _).drew
  obtain ⟨y2, y3⟩ := HP.out (w1.alloc zrObj) ((Below.refl _ _).al (Nat.le_refl _) _)
  obtain ⟨y4, y5⟩ := HP.out ((w1.alloc zrObj).alloc zrObj) (((Below.refl _ _).al (Nat.le_refl _) _).al (Nat.le_refl _) _)
  go_enter Tryz.func50, Tryz.ntmps50
  go_wp2_with fail
  rw [← HW1.out]
  go_wp2_with fail
  go_cut [5] from 6 to 24 (fun p wx => ∃ b, p = .pointer (some ⟨b, 0, none⟩) ∧ RowI w wx b n ∧ Zr wx (w.heap.size + 1) ∧ b ≠ w.heap.size + 1)
  case first =>
    go_region_held3 (fun W => Below w1.heap.size w1 W ∧ W.cell? ⟨w.heap.size, 0, none⟩ = some (.bool false) ∧ W.cell? ⟨w.heap.size, 1, none⟩ = some (.slice a n c)) (first | (refine (fun hb => ⟨hb, HP.out _ hb⟩) ?_; repeat (first | exact Below.refl _ _ | exact HB3.out | exact HB3.out.trans (HB4.out.mono HB3.out.size) | refine Below.drew ?_ | refine Below.al ?_ (Nat.le_refl _) _ | refine Below.setCell ?_ (by first | (simp; done) | (dsimp only; have g3 := HB3.out.size; have g4 := HB4.out.size; (try simp only [World.size_alloc]); omega)) _))) (first | (go_simp; go_at_call 54; refine (HPW.out _).mono ?_; rintro e w3 ⟨s3, m3, rfl, hm3, hn3⟩; obtain ⟨a3, c3, rfl⟩ := hn3.1.shape; have HB3 := Lib.hid (hn3.from (w0 := w1) (by repeat (first | exact Below.refl _ _ | refine Below.drew ?_ | refine Below.al ?_ (Nat.le_refl _) _))).2.2; obtain ⟨p0, p1⟩ := HP.out w3 HB3.out; obtain ⟨p2, p3⟩ := HP.out (w3.alloc zrObj) (HB3.out.al (Nat.le_refl _) _);  obtain ⟨p4, p5⟩ := HP.out ((w3.alloc zrObj).alloc zrObj) ((HB3.out.al (Nat.le_refl _) _).al (Nat.le_refl _) _); (first | (have A0 : Zr w3 w1.heap.size := ((Zr.new w1.drew).al _).below hn3.2.2) | (have A0 : Zr w3 w1.heap.size := (Zr.new w1.drew).below hn3.2.2) | skip); (try (have A1 : Zr w3 (w1.heap.size + 1) := (Zr.new2 w1.drew).below hn3.2.2)); (try (have A0g := Nat.ne_of_lt A0.lt; have A0h := Ne.symm A0g)); have HN3 := Lib.hid hn3; have HM3 := Lib.hid hm3; clear hn3 hm3) | (go_simp; go_at_call 84; refine (HFL.out _ (by repeat (first | exact HB3.out | refine Below.al ?_ (Nat.le_refl _) _)) _ _ _ (HN3.out.1.below (by repeat (first | exact Below.refl _ _ | refine Below.al ?_ (Nat.le_refl _) _))) (Nat.le_trans HM3.out HMB.out)).mono ?_; rintro e w4 ⟨q, m, Q, r, rfl, hm4, hn4, ra, rl, rc, rfl⟩; obtain ⟨qa, qc, rfl⟩ := hn4.1.shape; have HB4 := Lib.hid (hn4.from (w0 := w3) (by repeat (first | exact Below.refl _ _ | refine Below.al ?_ (Nat.le_refl _) _))).2.2; have HQB := Lib.hid hn4.2.1; have HQC := Lib.hid hn4.1.blk; (try (have zA0 : Zr w4 (w1.heap.size) := A0.below HB4.out)); (try (have zA1 : Zr w4 (w1.heap.size + 1) := A1.below HB4.out)); (first | (have zB0 : Zr w4 w3.heap.size := ((Zr.new w3).al _).below hn4.2.2) | (have zB0 : Zr w4 w3.heap.size := (Zr.new w3).below hn4.2.2) | skip); (try (have zB1 : Zr w4 (w3.heap.size + 1) := (Zr.new2 w3).below hn4.2.2)); (try (have zA0a := zA0.c0; have zA0b := zA0.c1; have zA0c := zA0.fr; have zA0d := fun O => (zA0.al O).c0; have zA0e := fun O => (zA0.al O).c1; have zA0f := fun O => (zA0.al O).fr; have zA0g := Nat.ne_of_lt zA0.lt; have zA0h := Ne.symm zA0g; replace zA0 := Lib.hid zA0)); (try (have zA1a := zA1.c0; have zA1b := zA1.c1; have zA1c := zA1.fr; have zA1d := fun O => (zA1.al O).c0; have zA1e := fun O => (zA1.al O).c1; have zA1f := fun O => (zA1.al O).fr; have zA1g := Nat.ne_of_lt zA1.lt; have zA1h := Ne.symm zA1g; replace zA1 := Lib.hid zA1)); (try (have zB0a := zB0.c0; have zB0b := zB0.c1; have zB0c := zB0.fr; have zB0d := fun O => (zB0.al O).c0; have zB0e := fun O => (zB0.al O).c1; have zB0f := fun O => (zB0.al O).fr; have zB0g := Nat.ne_of_lt zB0.lt; have zB0h := Ne.symm zB0g; replace zB0 := Lib.hid zB0)); (try (have zB1a := zB1.c0; have zB1b := zB1.c1; have zB1c := zB1.fr; have zB1d := fun O => (zB1.al O).c0; have zB1e := fun O => (zB1.al O).c1; have zB1f := fun O => (zB1.al O).fr; have zB1g := Nat.ne_of_lt zB1.lt; have zB1h := Ne.symm zB1g; replace zB1 := Lib.hid zB1)); have HR := Lib.hid (HQ.out w4 (HB3.out.trans (HB4.out.mono HB3.out.size))); have HN4 := Lib.hid (hn4.from (w0 := w1) (by repeat (first | exact HB3.out | refine Below.al ?_ (Nat.le_refl _) _))); have HM4 := Lib.hid hm4; clear hn4 hm4))
    all_goals (
      go_wp2_with fail
      go_meet
      have g1 := HSZ.out
      have g3 := HB3.out.size
      have g4 := HB4.out.size
      (try have gA := A0.lt)
      (try have gB := zB0.out.lt)
      (try have gA1 := A1.lt)
      (try have gB1 := zB1.out.lt)
      refine ⟨_, rfl, ⟨qa, qc, m, Q, HM4.out, ?_, ?_, ?_⟩, ?_, ?_⟩
      · repeat (first | with_reducible exact heap2_1 _ _ _ | with_reducible exact heap2_0 _ _ _ | with_reducible exact heap_alloc_new _ _ | with_reducible refine set2 (a := .bool false) (b := .slice none 0 0) ?_ | with_reducible refine (Below.heap_setCell _ _ _ _ (by dsimp only; omega)).trans ?_ | with_reducible refine (heap_alloc_old _ _ (by first | omega | (simp; done) | (simp; omega))).trans ?_ | exact zA0.out | exact zA1.out | exact zB0.out | exact zB1.out)
      · repeat (first | with_reducible exact HN4.out.from HB1.out | with_reducible refine NewMag.al ?_ _ | with_reducible refine NewMag.put ?_ (by omega) (fun b' k' c' e h0 => by have h1 := HQB.out b' k' c' e h0; have h2 := HQC.out b' k' c' e h0; (try simp only [World.size_alloc] at h1); omega) _)
      · exact (fun b' k' c' e h0 => by have h1 := HQB.out b' k' c' e h0; have h2 := HQC.out b' k' c' e h0; (try simp only [World.size_alloc] at h1); omega)
      · repeat (first | with_reducible exact HR.out | with_reducible refine Zr.al ?_ _ | with_reducible refine Zr.put ?_ (by omega) _)
      · omega)
  case rest =>
    obtain ⟨b, rfl, ⟨q, c5, m, Q, hm, hr, hn5, hnb⟩, hz, hne⟩ := hcut
    have e0 := (cell_of_row wc _ 0 _ _ (0, 0) hr).trans rfl
    have e1 := (cell_of_row wc _ 1 _ _ (0, 0) hr).trans rfl
    have z0 := hz.c0
    have z1 := hz.c1
    have z2 := hz.fr
    have HM5 := Lib.hid hm; have HN5 := Lib.hid hn5; have HZ := Lib.hid hz; have HNB := Lib.hid hnb
    clear hm hr hn5 hz hnb
    go_wp2
    have hW := set2 (x := .bool false) (y := .slice q m c5) HZ.out
    have f0 := (cell_of_row _ _ 0 _ _ (0, 0) hW).trans rfl
    have f1 := (cell_of_row _ _ 1 _ _ (0, 0) hW).trans rfl
    have hnq : ∀ a k c', Value.slice q m c5 = .slice (some a) k c' → 0 < m → a.block ≠ w.heap.size + 1 := fun a k c' e h0 => by have := HNB.out a k c' e h0; omega
    have hfin := (HN5.out.put (by omega) (o := 0) hnq (.bool false)).put (by omega) (o := 1) hnq (.slice q m c5)
    exact bodyPost_ret (v := .agg #[.bool false, .slice q m c5]) (by simp [results, Tryz.results50, go_sem, f0, f1]) rfl ⟨_, m, Q, rfl, HM5.out, hfin⟩
end Go.Proofs.YtgohhebffcldeaaGreatDoor

set_option linter.unusedVariables false
set_option linter.unusedSimpArgs false
namespace Go.Proofs.YtgohhebffcldeaaGreatDoor
open Go.RowKit
open Num

theorem Small_one (w : World) : Calls Tryz.prog 57 #[.int .i64 1] w fun e w' => ∃ s m, e = .returned (.agg #[.bool false, s]) ∧ m ≤ 8 ∧ NewMag w w' s m 1 := by
  obtain ⟨w1, hw1⟩ : ∃ w1, w1 = w.alloc (.cells #[.bool false, .slice none 0 0] 29) := ⟨_, rfl⟩
  have hb1 : Below w.heap.size w w1 := by rw [hw1]; exact (Below.refl _ _).alloc (Nat.le_refl _) _
  have r1 : w1.heap[w.heap.size]? = some (.cells #[.bool false, .slice none 0 0] 29 (0, 0)) := by rw [hw1]; exact heap_alloc_new _ _
  have hl : w.heap.size < w1.heap.size := by rw [hw1]; simp
  have HBY := Lib.hid (bytesOf_any 1 (by omega) w1)
  have HOF := Lib.hid (fun (W : World) (s : Value) (h : BytAt W s 8 1) => Of_any false s 8 1 W h (by omega))
  simp only [Bool.false_and] at HOF
  have HB1 := Lib.hid hb1; have HW1 := Lib.hid hw1; have HL := Lib.hid hl; have HR1 := Lib.hid r1
  clear hb1 hw1 hl r1
  go_enter Tryz.func57, Tryz.ntmps57
  go_wp2_with fail
  rw [← HW1.out]
  go_wp2_with fail
  refine HBY.out.mono ?_
  rintro e w2 ⟨rfl, hby, hb2⟩
  have HO2 := Lib.hid (HOF.out w2 _ hby)
  have HB2 := Lib.hid hb2
  clear hby hb2
  go_wp2_with fail
  refine HO2.out.mono ?_
  rintro e w3 ⟨s3, m3, rfl, hm3, hn3⟩
  obtain ⟨a3, c3, rfl⟩ := hn3.1.shape
  have hR := (hn3.2.2.block _ (Nat.lt_of_lt_of_le HL.out HB2.out.size)).trans ((HB2.out.block _ HL.out).trans HR1.out)
  have hne : ∀ b k c', Value.slice a3 m3 c3 = .slice (some b) k c' → 0 < m3 → b.block ≠ w.heap.size := fun b k c' e h0 => by
    have h1 := hn3.2.1 b k c' e h0
    have h2 := HB2.out.size
    have h3 := HL.out
    omega
  have HN := Lib.hid (hn3.from (HB1.out.trans (HB2.out.mono HB1.out.size)))
  have HM := Lib.hid hm3; have HNE := Lib.hid hne; have HR := Lib.hid hR
  have z0 := (cell_of_row w3 _ 0 _ _ (0, 0) hR).trans rfl
  have z1 := (cell_of_row w3 _ 1 _ _ (0, 0) hR).trans rfl
  have f0 : ∀ i, w3.frozen? ⟨w.heap.size, i, none⟩ = false := fun i => by simp [World.frozen?, hR]
  clear hn3 hm3 hne hR
  go_wp2
  have hW := set2 (x := .bool false) (y := .slice a3 m3 c3) HR.out
  have e0 := (cell_of_row _ _ 0 _ _ (0, 0) hW).trans rfl
  have e1 := (cell_of_row _ _ 1 _ _ (0, 0) hW).trans rfl
  have hfin := (HN.out.put (Nat.le_refl _) (o := 0) HNE.out (.bool false)).put (Nat.le_refl _) (o := 1) HNE.out (.slice a3 m3 c3)
  exact bodyPost_ret (v := .agg #[.bool false, .slice a3 m3 c3]) (by simp [results, Tryz.results57, go_sem, e0, e1]) rfl ⟨_, m3, rfl, HM.out, hfin⟩

theorem Inf_pos (w : World) : Calls Tryz.prog 94 #[.int .i64 1] w fun e w' => e = .returned (.float .f64 9218868437227405312) ∧ w' = w := by
  obtain ⟨B, hB⟩ : ∃ B : Nat, B = 9218868437227405312 := ⟨_, rfl⟩
  have hfb : ∀ W : World, (callFunc 35 #[.int .u64 9218868437227405312]).run Tryz.prog W = .ok (.value (.float .f64 B)) W := fun W => by
    have h := run_frombits 9218868437227405312 W
    rw [hB]
    exact h
  rw [← hB]
  clear hB
  go_enter Tryz.func94, Tryz.ntmps94
  go_wp2
  go_ret
  exact ⟨rfl, rfl⟩
theorem Inf_neg (w : World) : Calls Tryz.prog 94 #[.int .i64 (-1)] w fun e w' => e = .returned (.float .f64 18442240474082181120) ∧ w' = w := by
  obtain ⟨B, hB⟩ : ∃ B : Nat, B = 18442240474082181120 := ⟨_, rfl⟩
  have hfb : ∀ W : World, (callFunc 35 #[.int .u64 18442240474082181120]).run Tryz.prog W = .ok (.value (.float .f64 B)) W := fun W => by
    have h := run_frombits 18442240474082181120 W
    rw [hB]
    exact h
  rw [← hB]
  clear hB
  go_enter Tryz.func94, Tryz.ntmps94
  go_wp2
  go_ret
  exact ⟨rfl, rfl⟩
theorem inf_any (neg : Bool) (w : World) : Calls Tryz.prog 58 #[.bool neg] w fun e w' => ∃ F, e = .returned (.float .f64 F) ∧ fnum F ∧ w' = w := by
  cases neg
  · go_enter Tryz.func58, Tryz.ntmps58
    go_wp2_with fail
    refine (Inf_pos _).mono ?_
    rintro e w2 ⟨rfl, rfl⟩
    go_wp2
    go_ret
    exact ⟨_, rfl, by unfold fnum fexp ffrac; omega, rfl⟩
  · go_enter Tryz.func58, Tryz.ntmps58
    go_wp2_with fail
    refine (Inf_neg _).mono ?_
    rintro e w2 ⟨rfl, rfl⟩
    go_wp2
    go_ret
    exact ⟨_, rfl, by unfold fnum fexp ffrac; omega, rfl⟩
end Go.Proofs.YtgohhebffcldeaaGreatDoor

set_option linter.unusedVariables false
set_option linter.unusedSimpArgs false
namespace Go.Proofs.YtgohhebffcldeaaGreatDoor
open Go.RowKit
open Num

/-- block b of wx holds an integer of n bytes at most -/
def RowS (wx : World) (b n : Nat) : Prop := ∃ ng q c m Q, m ≤ n ∧ wx.heap[b]? = some (.cells #[.bool ng, .slice q m c] 29 (0, 0)) ∧ MagAt wx (.slice q m c) m Q ∧ (ng = true → 0 < Q)
/-- block b of wx holds an integer that is not negative, of n bytes at most, of none if z; its bytes lie elsewhere -/
def RowK (wx : World) (b n : Nat) (z : Prop) : Prop := ∃ q c m Q, m ≤ n ∧ (z → m = 0) ∧ wx.heap[b]? = some (.cells #[.bool false, .slice q m c] 29 (0, 0)) ∧ MagAt wx (.slice q m c) m Q ∧ (∀ a k c', Value.slice q m c = .slice (some a) k c' → 0 < m → a.block ≠ b)
theorem RowK.below {w w' : World} {b n : Nat} {z : Prop} (h : RowK w b n z) (hb : Below w.heap.size w w') : RowK w' b n z := by
  obtain ⟨q, c, m, Q, h1, h2, h3, h4, h5⟩ := h
  exact ⟨q, c, m, Q, h1, h2, (hb.block _ (Array.getElem?_eq_some_iff.1 h3).1).trans h3, h4.below hb, h5⟩
theorem RowK.wide {w : World} {b n n' : Nat} {z : Prop} (h : RowK w b n z) (hn : n ≤ n') : RowK w b n' z := by
  obtain ⟨q, c, m, Q, h1, h2, h3, h4, h5⟩ := h
  exact ⟨q, c, m, Q, by omega, h2, h3, h4, h5⟩
theorem NewMag.cap {w w' : World} {s : Value} {m V : Nat} (h : NewMag w w' s m V) : ∀ B, B < w.heap.size ∨ w'.heap.size ≤ B → ∀ a k c, s = .slice (some a) k c → 0 < m → a.block ≠ B := by
  intro B hB a k c e h0 hc
  have h1 := h.2.1 a k c e h0
  have h2 := h.1.blk a k c e h0
  omega

theorem NewMag.mag {w w' : World} {s : Value} {m V : Nat} (h : NewMag w w' s m V) : MagAt w' s m V := h.1

set_option maxRecDepth 100000 in
set_option maxHeartbeats 4000000 in
theorem Nearest_any (neg : Bool) (s : Value) (n V : Nat) (w : World) (hs : MagAt w s n V) (hn : n ≤ 1024) (hneg : neg = true → 0 < V) :
    Calls Tryz.prog 20 #[.agg #[.bool neg, s]] w fun e w' => ∃ F, e = .returned (.float .f64 F) ∧ F < 18446744073709551616 ∧ (V = 0 → F = 0) ∧ Below w.heap.size w w' := by
  obtain ⟨a, c, rfl⟩ := hs.shape
  obtain ⟨w1, hw1⟩ : ∃ w1, w1 = w.alloc (.cells #[.bool neg, .slice a n c] 29) := ⟨_, rfl⟩
  have hb1 : Below w.heap.size w w1 := by rw [hw1]; exact (Below.refl _ _).alloc (Nat.le_refl _) _
  have r0 : w1.heap[w.heap.size]? = some (.cells #[.bool neg, .slice a n c] 29 (0, 0)) := by rw [hw1]; exact heap_alloc_new _ _
  have hsz : w1.heap.size = w.heap.size + 1 := by rw [hw1]; simp
  have HX := Lib.hid (fun (W : World) (hb : Below w1.heap.size w1 W) => (show W.cell? ⟨w.heap.size, 0, none⟩ = some (.bool neg) ∧ W.cell? ⟨w.heap.size, 1, none⟩ = some (.slice a n c) from
    ⟨(cell_of_row W _ 0 _ _ (0, 0) ((hb.block _ (by omega)).trans r0)).trans rfl, (cell_of_row W _ 1 _ _ (0, 0) ((hb.block _ (by omega)).trans r0)).trans rfl⟩))
  have HLEN := Lib.hid (fun (W : World) (g : Bool) (t : Value) (m U : Nat) (h : MagAt W t m U) (hm : m ≤ 4096) => Length_any g t m U W h (by omega))
  have HOF := Lib.hid (fun (W : World) (hb : Below w1.heap.size w1 W) => Of_any false (.slice a n c) n V W ((hs.below hb1).below hb).byt (by omega))
  simp only [Bool.false_and] at HOF
  have HZ := Lib.hid (hs.1.zero_iff)
  have HNB := Lib.hid hs.1
  have HS1 := Lib.hid (hs.below hb1)
  have HB1 := Lib.hid hb1; have HW1 := Lib.hid hw1; have HSZ := Lib.hid hsz; have HNEG := Lib.hid hneg
  clear hs hb1 hw1 r0 hsz hneg
  obtain ⟨x0, x1⟩ := HX.out w1 (Below.refl _ _)
  go_enter Tryz.func20, Tryz.ntmps20
  go_wp2_with fail
  rw [← HW1.out]
  go_wp2_with fail
  refine (HLEN.out _ neg (.slice a n c) n V HS1.out (by omega)).mono ?_
  rintro e w2 ⟨N, hN, rfl, hb2⟩
  obtain ⟨P, hP⟩ : ∃ P : Nat, P = N - 53 := ⟨_, rfl⟩
  have hmax : max ((N : Int) - 53) 0 = (P : Int) := by omega
  have HPN := Lib.hid (show P ≤ 8 * n ∧ (V = 0 → P = 0) from ⟨by omega, fun h => by have := HZ.out.2 h; omega⟩)
  obtain ⟨x0', x1'⟩ := HX.out w2 hb2
  have HB2 := Lib.hid hb2
  have HO2 := Lib.hid (HOF.out w2 hb2)
  clear hb2 hP
  go_wp2_with fail
  refine HO2.out.mono ?_
  rintro e w3 ⟨s3, m3, rfl, hm3, hn3⟩
  obtain ⟨a3, c3, rfl⟩ := hn3.1.shape
  obtain rfl : m3 = n := hn3.1.1.uniq HNB.out
  obtain ⟨w4, hw4⟩ : ∃ w4, w4 = w3.alloc (.cells #[.bool false, .slice a3 m3 c3] 29) := ⟨_, rfl⟩
  have hb34 : Below w3.heap.size w3 w4 := by rw [hw4]; exact (Below.refl _ _).alloc (Nat.le_refl _) _
  have r5 : w4.heap[w3.heap.size]? = some (.cells #[.bool false, .slice a3 m3 c3] 29 (0, 0)) := by rw [hw4]; exact heap_alloc_new _ _
  have hb14 : Below w1.heap.size w1 w4 := (HB2.out.trans (hn3.2.2.mono HB2.out.size)).trans (hb34.mono (Nat.le_trans HB2.out.size hn3.2.2.size))
  have hs4 : w4.heap.size = w3.heap.size + 1 := by rw [hw4]; simp
  have HM4 := Lib.hid (fun (W : World) (hb : Below w4.heap.size w4 W) => (hn3.1.below hb34).below hb)
  have HRS := Lib.hid (Rsh_any (.slice a3 m3 c3) m3 V P w4 (hn3.1.below hb34) (by omega) (HPN.out.1))
  have HC5 := Lib.hid (fun (W : World) (hb : Below w4.heap.size w4 W) => (show W.cell? ⟨w3.heap.size, 0, none⟩ = some (.bool false) ∧ W.cell? ⟨w3.heap.size, 1, none⟩ = some (.slice a3 m3 c3) from
    ⟨(cell_of_row W _ 0 _ _ (0, 0) ((hb.block _ (by omega)).trans r5)).trans rfl, (cell_of_row W _ 1 _ _ (0, 0) ((hb.block _ (by omega)).trans r5)).trans rfl⟩))
  have HB4 := Lib.hid hb14; have HW4 := Lib.hid hw4; have HS4 := Lib.hid hs4; have HS3 := Lib.hid (Nat.le_trans HB2.out.size hn3.2.2.size)
  clear hn3 hb34 r5 hb14 hs4 hm3 hw4 HO2 HOF
  obtain ⟨x2, x3⟩ := HX.out w4 HB4.out
  obtain ⟨y2, y3⟩ := HC5.out w4 (Below.refl _ _)
  go_wp2_with fail
  rw [← HW4.out]
  refine HRS.out.mono ?_
  rintro e w5 ⟨q5, m5, Q5, rfl, hm5, hn5⟩
  obtain ⟨a5, c5, rfl⟩ := hn5.1.shape
  obtain ⟨w6, hw6⟩ : ∃ w6, w6 = w5.alloc (.cells #[.bool false, .slice a5 m5 c5] 29) := ⟨_, rfl⟩
  have hb56 : Below w5.heap.size w5 w6 := by rw [hw6]; exact (Below.refl _ _).alloc (Nat.le_refl _) _
  have r6 : w6.heap[w5.heap.size]? = some (.cells #[.bool false, .slice a5 m5 c5] 29 (0, 0)) := by rw [hw6]; exact heap_alloc_new _ _
  have hb46 : Below w4.heap.size w4 w6 := hn5.2.2.trans (hb56.mono hn5.2.2.size)
  have hs6 : w6.heap.size = w5.heap.size + 1 := by rw [hw6]; simp
  have HK6 := Lib.hid (show RowK w6 w5.heap.size 1024 (V = 0) from ⟨a5, c5, m5, Q5, by omega, fun h => by have := HZ.out.2 h; omega, r6, hn5.1.below hb56, hn5.cap _ (.inr (Nat.le_refl _))⟩)
  have HLS := Lib.hid (fun (W : World) (hb : Below w6.heap.size w6 W) => Lsh_any false (.slice a5 m5 c5) m5 Q5 P W ((hn5.1.below hb56).below hb) (by omega) (by have := HPN.out.1; omega))
  simp only [Bool.false_and] at HLS
  have HC6 := Lib.hid (fun (W : World) (hb : Below w6.heap.size w6 W) => (show W.cell? ⟨w5.heap.size, 0, none⟩ = some (.bool false) ∧ W.cell? ⟨w5.heap.size, 1, none⟩ = some (.slice a5 m5 c5) from
    ⟨(cell_of_row W _ 0 _ _ (0, 0) ((hb.block _ (by omega)).trans r6)).trans rfl, (cell_of_row W _ 1 _ _ (0, 0) ((hb.block _ (by omega)).trans r6)).trans rfl⟩))
  have HB46 := Lib.hid hb46
  have HSUB := Lib.hid (fun (W : World) (hb : Below w6.heap.size w6 W) (t : Value) (k U : Nat) (ht : MagAt W t k U) (hk : k ≤ m5 + P / 8 + 1) => Sub_any false false (.slice a3 m3 c3) t m3 k V U W (HM4.out W (HB46.out.trans (hb.mono HB46.out.size))) ht (by omega) (by have := HPN.out.1; omega))
  have HW6 := Lib.hid hw6; have HS6 := Lib.hid hs6; have HM5 := Lib.hid hm5; have HS5 := Lib.hid hn5.2.2.size
  clear hn5 hb56 r6 hb46 hs6 hm5 hw6 HRS
  obtain ⟨x4, x5⟩ := HC5.out w6 HB46.out
  obtain ⟨y4, y5⟩ := HC6.out w6 (Below.refl _ _)
  go_wp2_with fail
  rw [← HW6.out]
  go_cut [7] from 8 to 76 (fun p wx => Below w6.heap.size w6 wx ∧ ∃ b, p = .pointer (some ⟨b, 0, none⟩) ∧ RowS wx b 4096)
  case first =>
    go_region_held3 (fun W => Below w6.heap.size w6 W ∧ (W.cell? ⟨w3.heap.size, 0, none⟩ = some (.bool false) ∧ W.cell? ⟨w3.heap.size, 1, none⟩ = some (.slice a3 m3 c3)) ∧ W.cell? ⟨w5.heap.size, 0, none⟩ = some (.bool false) ∧ W.cell? ⟨w5.heap.size, 1, none⟩ = some (.slice a5 m5 c5)) (first | (refine (fun hb => ⟨hb, HC5.out _ (HB46.out.trans (hb.mono HB46.out.size)), HC6.out _ hb⟩) ?_; repeat (first | with_reducible exact Below.refl _ _ | with_reducible exact HB7.out | with_reducible exact HB8.out | with_reducible refine Below.drew ?_ | with_reducible refine Below.al ?_ (Nat.le_refl _) _ | with_reducible refine Below.setCell ?_ (by first | (simp; done) | (dsimp only; have g3 := HB7.out.size; have g4 := HB8.out.size; (try simp only [World.size_alloc]); omega)) _))) (first | (go_simp; go_at_call 52; refine (HLS.out _ (by repeat (first | with_reducible exact Below.refl _ _ | with_reducible refine Below.drew ?_ | with_reducible refine Below.al ?_ (Nat.le_refl _) _))).mono ?_; rintro e w7 ⟨s7, m7, rfl, hm7, hn7⟩; obtain ⟨a7, c7, rfl⟩ := hn7.1.shape; have HB7 := Lib.hid (hn7.from (w0 := w6) (by repeat (first | with_reducible exact Below.refl _ _ | with_reducible refine Below.drew ?_ | with_reducible refine Below.al ?_ (Nat.le_refl _) _))).2.2; (first | (have A0 : Zr w7 w6.heap.size := (Zr.new w6.drew).below hn7.2.2) | (have A0 : Zr w7 w6.heap.size := (Zr.new w6).below hn7.2.2) | skip); have HN7 := Lib.hid hn7; have HM7 := Lib.hid hm7; clear hn7 hm7) | (go_simp; go_at_call 51; refine (HSUB.out _ (by repeat (first | with_reducible exact Below.refl _ _ | with_reducible exact HB7.out | with_reducible refine Below.drew ?_ | with_reducible refine Below.al ?_ (Nat.le_refl _) _)) _ _ _ (HN7.out.1.below (by repeat (first | with_reducible exact Below.refl _ _ | with_reducible refine Below.drew ?_ | with_reducible refine Below.al ?_ (Nat.le_refl _) _))) HM7.out).mono ?_; rintro e w8 ⟨ng, s8, l8, W8, rfl, hl8, hg8, hn8⟩; obtain ⟨a8, c8, rfl⟩ := hn8.1.shape; have HB78 := Lib.hid (hn8.from (w0 := w7) (by repeat (first | with_reducible exact Below.refl _ _ | with_reducible refine Below.drew ?_ | with_reducible refine Below.al ?_ (Nat.le_refl _) _))).2.2; have HB8 := Lib.hid (HB7.out.trans (HB78.out.mono HB7.out.size)); (try (have zA0 : Zr w8 (w6.heap.size) := A0.below HB78.out)); (first | (have zB0 : Zr w8 w7.heap.size := (Zr.new w7).below hn8.2.2) | skip); (try (have zA0a := zA0.c0; have zA0b := zA0.c1; have zA0c := zA0.fr; replace zA0 := Lib.hid zA0)); (try (have zB0a := zB0.c0; have zB0b := zB0.c1; have zB0c := zB0.fr; replace zB0 := Lib.hid zB0)); have HQB := Lib.hid hn8.2.1; have HQC := Lib.hid hn8.1.blk; have HN8 := Lib.hid (hn8.from (w0 := w6) (by repeat (first | with_reducible exact Below.refl _ _ | with_reducible exact HB7.out | with_reducible refine Below.drew ?_ | with_reducible refine Below.al ?_ (Nat.le_refl _) _))); have HL8 := Lib.hid hl8; have HG8 := Lib.hid hg8; clear hn8 hl8 hg8))
    all_goals (
      go_wp2_with fail
      go_meet
      have g7 := HB7.out.size
      have g78 := HB78.out.size
      (try have gA := A0.lt)
      (try have gB := zB0.out.lt)
      refine ⟨?_, _, rfl, ng, a8, c8, l8, W8, ?_, ?_, ?_, HG8.out⟩
      · repeat (first | with_reducible exact HB8.out | with_reducible refine Below.al ?_ (Nat.le_refl _) _ | with_reducible refine Below.setCell ?_ (by dsimp only; omega) _)
      · have h1 := HL8.out
        have h2 := HM7.out
        have h3 := HM5.out
        have h4 := HPN.out.1
        omega
      · repeat (first | with_reducible exact heap_alloc_new _ _ | with_reducible refine set2 (a := .bool false) (b := .slice none 0 0) ?_ | exact zA0.out | exact zB0.out)
      · refine NewMag.mag (w := w6) ?_
        repeat (first | with_reducible exact HN8.out | with_reducible refine NewMag.al ?_ _ | with_reducible refine NewMag.put ?_ (by omega) (fun b' k' c' e h0 => by have h1 := HQB.out b' k' c' e h0; (try simp only [World.size_alloc] at h1); omega) _))
  case rest =>
    obtain ⟨hbc, b7, rfl, ng7, q7, c7, m7, W7, hm7, hr7, hg7, hng7⟩ := hcut
    have hb6s := HB46.out.size
    have hbs := HS3.out
    have HBc := Lib.hid (HB4.out.trans ((HB46.out.trans (hbc.mono HB46.out.size)).mono HB4.out.size))
    have HKc := Lib.hid (HK6.out.below hbc)
    have HC7 := Lib.hid (fun (W : World) (hb : Below wc.heap.size wc W) => (show W.cell? ⟨b7, 0, none⟩ = some (.bool ng7) ∧ W.cell? ⟨b7, 1, none⟩ = some (.slice q7 m7 c7) from
      ⟨(cell_of_row W _ 0 _ _ (0, 0) ((hb.block _ (Array.getElem?_eq_some_iff.1 hr7).1).trans hr7)).trans rfl, (cell_of_row W _ 1 _ _ (0, 0) ((hb.block _ (Array.getElem?_eq_some_iff.1 hr7).1).trans hr7)).trans rfl⟩))
    have HPW := Lib.hid (fun (k : Nat) (hk : k ≤ 8192) (W : World) => Power_any k (by omega) W)
    have HCM := Lib.hid (fun (W : World) (hb : Below wc.heap.size wc W) (t : Value) (k U : Nat) (ht : MagAt W t k U) (hk : k ≤ 1025) => (SpecCmp_any ng7 false (.slice q7 m7 c7) t m7 k W7 U W (hg7.below hb) ht (by omega) (by omega) hng7 (fun h => by cases h)).mono (R' := fun e w' => ∃ cc : Int, e = .returned (.int .i64 cc) ∧ Below W.heap.size W w') (fun e w' h => ⟨_, h⟩))
    clear hbc hm7 hr7 hg7 hng7
    clear HSUB HLS HC5 HC6 HM4 HW6 HW4 HK6
    go_upto_if 27 with fail
    go_cut [4] from 8 to 76 (fun p wx => p = .int .i64 P ∧ Below w1.heap.size w1 wx ∧ RowK wx w5.heap.size 2048 (V = 0))
    case first =>
      by_cases hP0 : P = 0
      · subst hP0
        go_wp2_with fail
        go_meet
        exact ⟨rfl, HBc.out, HKc.out.wide (by omega)⟩
      · obtain ⟨p, rfl⟩ : ∃ p, P = p + 1 := ⟨P - 1, by omega⟩
        have hp3 : p ≤ 8192 := by have := HPN.out.1; omega
        have hp4 : p / 8 + 1 ≤ 1025 := by omega
        have hwr : IntKind.i64.wrap (p : Int) = (p : Int) := by simp only [IntKind.wrap_i64]; omega
        obtain ⟨z0, z1⟩ := HC7.out wc (Below.refl _ _)
        go_wp2_with fail
        go_region_held3 (fun W => Below wc.heap.size wc W ∧ W.cell? ⟨b7, 0, none⟩ = some (.bool ng7) ∧ W.cell? ⟨b7, 1, none⟩ = some (.slice q7 m7 c7)) (first | (refine (fun hb => ⟨hb, HC7.out _ hb⟩) ?_; repeat (first | with_reducible exact Below.refl _ _ | with_reducible exact HB9.out | with_reducible exact HB10.out | with_reducible refine Below.drew ?_))) (first | (go_simp; go_at_call 54; refine (HPW.out p hp3 _).mono ?_; rintro e w9 ⟨s9, m9, rfl, hm9, hn9⟩; obtain ⟨a9, c9, rfl⟩ := hn9.1.shape; have HB9 := Lib.hid (hn9.from (w0 := wc) (by repeat (first | with_reducible exact Below.refl _ _ | with_reducible refine Below.drew ?_ | with_reducible refine below_drewN ?_ | with_reducible refine Below.al ?_ (Nat.le_refl _) _))).2.2; have HN9 := Lib.hid hn9; have HM9 := Lib.hid hm9; clear hn9 hm9) | (go_simp; go_at_call 53; refine (HCM.out _ HB9.out _ _ _ HN9.out.1 (Nat.le_trans HM9.out hp4)).mono ?_; rintro e w10 ⟨cc, rfl, hb10⟩; have HB10 := Lib.hid (HB9.out.trans (hb10.mono HB9.out.size)); clear hb10))
        all_goals (
          obtain ⟨wd, hwd⟩ : ∃ wd, wd = w10 := ⟨_, rfl⟩
          have hbd := HBc.out.trans (HB10.out.mono HBc.out.size)
          have HBd := Lib.hid hbd
          have HKd := Lib.hid (HKc.out.below HB10.out)
          obtain ⟨qd, cd, md, Qd, d1, d2, d3, d4, d5⟩ := HKd.out
          have HRo := Lib.hid (fun (W : World) (hb : Below w10.heap.size w10 W) => (hb.block _ (Array.getElem?_eq_some_iff.1 d3).1).trans d3)
          have HC6c := Lib.hid (fun (W : World) (hb : Below w10.heap.size w10 W) => (show W.cell? ⟨w5.heap.size, 0, none⟩ = some (.bool false) ∧ W.cell? ⟨w5.heap.size, 1, none⟩ = some (.slice qd md cd) from
            ⟨(cell_of_row W _ 0 _ _ (0, 0) (HRo.out W hb)).trans rfl, (cell_of_row W _ 1 _ _ (0, 0) (HRo.out W hb)).trans rfl⟩))
          have HF6 := Lib.hid (fun (W : World) (hb : Below w10.heap.size w10 W) (i : Nat) => (show W.frozen? ⟨w5.heap.size, i, none⟩ = false from by simp [World.frozen?, HRo.out W hb]))
          have HBIT := Lib.hid (bit_any (.slice qd md cd) md Qd 0 w10 (by omega) (by omega) d4.byt)
          have HADD := Lib.hid (fun (W : World) (hb : Below w10.heap.size w10 W) (u : Value) (k : Nat) (hu : MagAt W u k 1) (hk : k ≤ 8) => (Add_any false false (.slice qd md cd) u md k Qd 1 W (d4.below hb) hu (by omega) (by omega)).mono (R' := fun e w' => ∃ s' l W1, e = .returned (.agg #[.bool false, s']) ∧ l ≤ 1033 ∧ NewMag W w' s' l W1) (fun e w' h => by
            obtain ⟨ng', s', l, W1, he, hl, hg, hn⟩ := h
            have : ng' = false := by
              cases ng'
              · rfl
              · exact absurd ((hg rfl).2 rfl) (by decide)
            subst this
            exact ⟨s', l, W1, he, by omega, hn⟩))
          have HL6 := Lib.hid (Array.getElem?_eq_some_iff.1 d3).1
          clear d1 d2 d3 d4 d5 hwd hbd
          obtain ⟨u0, u1⟩ := HC6c.out w10 (Below.refl _ _)
          go_upto_region 8 with fail
          go_cut [44] from 33 to 43 (fun p wx => ∃ (tt : Bool) (q : Nat), p = .bool tt ∧ wx = w10.drewN q)
          case first =>
            by_cases hc1 : 0 < cc
            · go_wp2_with fail
              go_meet
              exact ⟨true, 0, by simp, rfl⟩
            · by_cases hc2 : cc = 0
              · subst hc2
                go_wp2_with fail
                refine HBIT.out.mono ?_
                rintro e w11 ⟨bb, hbb, rfl, q, rfl⟩
                have hb01 : bb = 0 ∨ bb = 1 := by omega
                rcases hb01 with rfl | rfl
                · go_wp2_with fail
                  go_meet
                  exact ⟨false, q, by simp, rfl⟩
                · go_wp2_with fail
                  go_meet
                  exact ⟨true, q, by simp, rfl⟩
              · have hc3 : (cc == 0) = false := by simp [hc2]
                go_wp2_with fail
                go_meet
                exact ⟨false, 0, by simp, rfl⟩
          case rest =>
            obtain ⟨tt, q, rfl, rfl⟩ := hcut
            obtain ⟨u2, u3⟩ := HC6c.out (w10.drewN q) (below_drewN (Below.refl _ _))
            cases tt
            · go_wp2_with fail
              go_meet
              exact ⟨by simp, belowN HBd.out _, (HKd.out.below (below_drewN (Below.refl _ _))).wide (by omega)⟩
            · go_wp2_with fail
              obtain ⟨u4, u5⟩ := HC6c.out (w10.drewN q).drew (Below.drew (below_drewN (Below.refl _ _)))
              go_region_law (first | (go_simp; go_at_call 57; refine (Small_one _).mono ?_; rintro e w13 ⟨s13, m13, rfl, hm13, hn13⟩; obtain ⟨a13, c13, rfl⟩ := hn13.1.shape; have HB13 := Lib.hid (hn13.from (w0 := w10) (by repeat (first | with_reducible exact Below.refl _ _ | with_reducible refine Below.drew ?_ | with_reducible refine below_drewN ?_ | with_reducible refine Below.al ?_ (Nat.le_refl _) _))).2.2; obtain ⟨v0, v1⟩ := HC6c.out w13 HB13.out; have HN13 := Lib.hid hn13; have HM13 := Lib.hid hm13; clear hn13 hm13) | (go_simp; go_at_call 56; refine (HADD.out _ HB13.out _ _ HN13.out.1 HM13.out).mono ?_; rintro e w14 ⟨s14, m14, W14, rfl, hm14, hn14⟩; obtain ⟨a14, c14, rfl⟩ := hn14.1.shape; have HB14 := Lib.hid (HB13.out.trans (hn14.2.2.mono HB13.out.size)); obtain ⟨u0, u1⟩ := HC6c.out w14 HB14.out; have u2 := HF6.out w14 HB14.out; have HR14 := Lib.hid (HRo.out w14 HB14.out); have HN14 := Lib.hid hn14; have HM14 := Lib.hid hm14; clear hn14 hm14))
              all_goals (
                go_wp2_with fail
                go_meet
                have g1 := HL6.out
                have g2 := HB13.out.size
                have g3 := HB14.out.size
                have g4 := HBd.out.size
                have g5 := HB4.out.size
                have g6 := HS5.out
                have hne : ∀ B, B = w5.heap.size → ∀ a' k c', Value.slice a14 m14 c14 = .slice (some a') k c' → 0 < m14 → a'.block ≠ B := fun B hB a' k c' e h0 => by
                  have h1 := HN14.out.2.1 a' k c' e h0
                  omega
                have hbx := (HBd.out.trans (HB14.out.mono HBd.out.size))
                refine ⟨by simp, (hbx.setCell (p := ⟨w5.heap.size, 0, none⟩) (by dsimp only; omega) _).setCell (p := ⟨w5.heap.size, 1, none⟩) (by dsimp only; omega) _, a14, c14, m14, W14, Nat.le_trans HM14.out (by omega), ?_, ?_, ?_, hne _ rfl⟩
                · intro hV
                  have := HPN.out.2 hV
                  omega
                · exact set2 HR14.out
                · exact NewMag.mag (((HN14.out.from (w0 := w1) (HBd.out.trans (HB13.out.mono HBd.out.size))).put (by omega) (hne _ rfl) _).put (by omega) (hne _ rfl) _)))

    case rest =>
      obtain ⟨rfl, hbc, q6, c6, m6, Q6, k1, k2, k3, k4, k5⟩ := hcut
      have HB1c := Lib.hid hbc
      have hx := HX.out wc hbc
      have HRo := Lib.hid (fun (W : World) (hb : Below wc.heap.size wc W) => (hb.block _ (Array.getElem?_eq_some_iff.1 k3).1).trans k3)
      have HC6c := Lib.hid (fun (W : World) (hb : Below wc.heap.size wc W) => (show W.cell? ⟨w5.heap.size, 0, none⟩ = some (.bool false) ∧ W.cell? ⟨w5.heap.size, 1, none⟩ = some (.slice q6 m6 c6) from
        ⟨(cell_of_row W _ 0 _ _ (0, 0) (HRo.out W hb)).trans rfl, (cell_of_row W _ 1 _ _ (0, 0) (HRo.out W hb)).trans rfl⟩))
      have HF6 := Lib.hid (fun (W : World) (hb : Below wc.heap.size wc W) (i : Nat) => (show W.frozen? ⟨w5.heap.size, i, none⟩ = false from by simp [World.frozen?, HRo.out W hb]))
      have HLE := Lib.hid (HLEN.out wc false (.slice q6 m6 c6) m6 Q6 k4 (by omega))
      have HL6 := Lib.hid (Array.getElem?_eq_some_iff.1 k3).1
      have HM6 := Lib.hid (show m6 ≤ 2048 ∧ (V = 0 → m6 = 0) from ⟨k1, k2⟩)
      have HK6 := Lib.hid k4; have HN6 := Lib.hid k5
      have hP3 : P ≤ 8192 := by have := HPN.out.1; omega
      clear hbc k1 k2 k3 k4 k5 HPW HCM HC7 HBc HKc
      obtain ⟨u0, u1⟩ := HC6c.out wc (Below.refl _ _)
      go_wp2_with fail
      refine HLE.out.mono ?_
      rintro e w15 ⟨L, hL, rfl, hb15⟩
      have HB15 := Lib.hid hb15
      have HRS := Lib.hid (fun (h : 1 ≤ 8 * m6) => Rsh_any (.slice q6 m6 c6) m6 Q6 1 w15 (HK6.out.below hb15) (by have := HM6.out.1; omega) h)
      have HLL := Lib.hid hL
      obtain ⟨u2, u3⟩ := HC6c.out w15 hb15
      have u4 := HF6.out w15 hb15
      clear hb15 hL
      go_upto_if 50 with fail
      go_cut [4] from 8 to 76 (fun p wx => ∃ P' : Nat, p = .int .i64 P' ∧ P' ≤ 8193 ∧ (V = 0 → P' = 0) ∧ Below w1.heap.size w1 wx ∧ RowK wx w5.heap.size 2048 (V = 0))
      case first =>
        by_cases hL53 : L ≤ 53
        · have hlt : ¬ (53 < (L : Int)) := by omega
          go_wp2_with fail
          go_meet
          exact ⟨P, by simp, by omega, HPN.out.2, HB1c.out.trans (HB15.out.mono HB1c.out.size), q6, c6, m6, Q6, HM6.out.1, HM6.out.2, HRo.out _ HB15.out, HK6.out.below HB15.out, HN6.out⟩
        · have hlt : (53 < (L : Int)) := by omega
          have HR1 := Lib.hid (HRS.out (by have := HLL.out; omega))
          go_wp2_with fail
          refine HR1.out.mono ?_
          rintro e w16 ⟨s16, m16, Q16, rfl, hm16, hn16⟩
          obtain ⟨a16, c16, rfl⟩ := hn16.1.shape
          have hb16 := HB15.out.trans (hn16.2.2.mono HB15.out.size)
          obtain ⟨u5, u6⟩ := HC6c.out w16 hb16
          have u7 := HF6.out w16 hb16
          have HB16 := Lib.hid hb16; have HN16 := Lib.hid hn16; have HM16 := Lib.hid hm16
          clear hb16 hn16 hm16
          go_wp2_with fail
          go_meet
          have g1 := HL6.out
          have g2 := HB15.out.size
          have g3 := HB16.out.size
          have g4 := HB1c.out.size
          have g5 := HB4.out.size
          have g6 := HS5.out
          have g7 := HLL.out
          have g8 := HM6.out.1
          have hne : ∀ B, B = w5.heap.size → ∀ a' k c', Value.slice a16 m16 c16 = .slice (some a') k c' → 0 < m16 → a'.block ≠ B := fun B hB a' k c' e h0 => by
            have h1 := HN16.out.2.1 a' k c' e h0
            omega
          have hbx := (HB1c.out.trans (HB16.out.mono HB1c.out.size))
          refine ⟨P + 1, by simp, by omega, ?_, (hbx.setCell (p := ⟨w5.heap.size, 0, none⟩) (by dsimp only; omega) _).setCell (p := ⟨w5.heap.size, 1, none⟩) (by dsimp only; omega) _, a16, c16, m16, Q16, Nat.le_trans HM16.out (by omega), ?_, ?_, ?_, hne _ rfl⟩
          · intro hV
            have := HM6.out.2 hV
            omega
          · intro hV
            have := HM6.out.2 hV
            omega
          · exact set2 (HRo.out w16 HB16.out)
          · exact NewMag.mag (((HN16.out.from (w0 := w1) (HB1c.out.trans (HB15.out.mono HB1c.out.size))).put (by omega) (hne _ rfl) _).put (by omega) (hne _ rfl) _)
      case rest =>
        obtain ⟨R, rfl, hR, hRV, hbc, q7, c7, m7, Q7, k1, k2, k3, k4, k5⟩ := hcut
        obtain ⟨x6, x7⟩ := HX.out wc hbc
        have u0 := (cell_of_row wc _ 0 _ _ (0, 0) k3).trans rfl
        have u1 := (cell_of_row wc _ 1 _ _ (0, 0) k3).trans rfl
        have HLE2 := Lib.hid (HLEN.out wc false (.slice q7 m7 c7) m7 Q7 k4 (by omega))
        have HLOW := Lib.hid (fun (W : World) (hb : Below wc.heap.size wc W) => low_any false (.slice q7 m7 c7) m7 Q7 W (k4.below hb) (by omega))
        have HX2 := Lib.hid (fun (W : World) (hb : Below wc.heap.size wc W) => HX.out W (hbc.trans (hb.mono hbc.size)))
        have HRo2 := Lib.hid (fun (W : World) (hb : Below wc.heap.size wc W) => (show W.cell? ⟨w5.heap.size, 0, none⟩ = some (.bool false) ∧ W.cell? ⟨w5.heap.size, 1, none⟩ = some (.slice q7 m7 c7) from
          ⟨(cell_of_row W _ 0 _ _ (0, 0) ((hb.block _ (Array.getElem?_eq_some_iff.1 k3).1).trans k3)).trans rfl, (cell_of_row W _ 1 _ _ (0, 0) ((hb.block _ (Array.getElem?_eq_some_iff.1 k3).1).trans k3)).trans rfl⟩))
        have HBF := Lib.hid (HB1.out.trans (hbc.mono HB1.out.size))
        have HZ2 := Lib.hid (show V = 0 → R = 0 ∧ m7 = 0 from fun h => ⟨hRV h, k2 h⟩)
        have hm7 : 8 * m7 ≤ 16384 := by omega
        clear hbc k1 k2 k3 k4 k5 hRV HRo HC6c HF6 HLE HL6 HM6 HK6 HN6 HRS HLL HB15
        go_wp2_with fail
        refine HLE2.out.mono ?_
        rintro e w17 ⟨L2, hL2, rfl, hb17⟩
        have HB17 := Lib.hid hb17
        obtain ⟨x8, x9⟩ := HX2.out w17 hb17
        obtain ⟨u2, u3⟩ := HRo2.out w17 hb17
        have HLW := Lib.hid (HLOW.out w17 hb17)
        have HL2 := Lib.hid hL2
        have hL3 : L2 ≤ 16384 := by omega
        clear hb17 hL2
        by_cases hbig : 1024 < L2 + R
        · have hbi : 1024 < (L2 : Int) + (R : Int) := by omega
          go_wp2_with fail
          refine (inf_any neg _).mono ?_
          rintro e w18 ⟨F, rfl, hF, rfl⟩
          have HFN := Lib.hid hF
          clear hF
          go_wp2
          go_ret
          refine ⟨F, rfl, HFN.out.1, fun h => ?_, HBF.out.trans (HB17.out.mono HBF.out.size)⟩
          have h1 := HZ2.out h
          have h2 := HL2.out
          omega
        · have hbi : ¬ (1024 < (L2 : Int) + (R : Int)) := by omega
          go_wp2_with fail
          refine HLW.out.mono ?_
          rintro e w18 ⟨U, hU, hU0, rfl, hb18⟩
          obtain ⟨x10, x11⟩ := HX2.out w18 (HB17.out.trans (hb18.mono HB17.out.size))
          obtain ⟨B0, hB0⟩ : ∃ B0, B0 = Ieee.double.nearest false U 0 := ⟨_, rfl⟩
          have hfo : floatOfInt .f64 (U : Int) = B0 := by
            rw [hB0]
            show Ieee.double.nearest (decide ((U : Int) < 0)) (U : Int).natAbs 0 = _
            rw [decide_eq_false (by omega), Int.natAbs_natCast]
          have HB0 := Lib.hid (show fnum B0 ∧ (V = 0 → B0 = 0) from ⟨by rw [hB0]; exact nearest_num _ _ _, fun h => by rw [hB0, hU0 (HZ2.out h).2]; exact nearest_zero⟩)
          have HB18 := Lib.hid (HB17.out.trans (hb18.mono HB17.out.size))
          have hu : ∀ (X : Nat) (W : World), (Go.Op.unary .neg (.float .f64 X)).run Tryz.prog W = .ok (.float .f64 (Go.Op.negFloat .f64 X)) W := fun _ _ => rfl
          clear hb18 hU0 hB0
          go_wp2_with fail
          go_loopw [4, 9] (fun r f wr => ∃ k B : Nat, r = .int .i64 k ∧ f = .float .f64 B ∧ w18 = wr ∧ k ≤ 8193 ∧ Hid (fnum B ∧ (V = 0 → k = 0 ∧ B = 0))) (fun r _ _ => (intOf r).toNat)
          case atStart => exact ⟨R, B0, rfl, by rw [← hfo], rfl, hR, Lib.hid ⟨HB0.out.1, fun h => ⟨(HZ2.out h).1, HB0.out.2 h⟩⟩⟩
          case round =>
            obtain ⟨k, B, rfl, rfl, rfl, hk, HBB⟩ := hrel
            by_cases hk0 : k = 0
            · subst hk0
              have HBw := Lib.hid (HBF.out.trans (HB18.out.mono HBF.out.size))
              cases neg
              · go_wp2
                go_ret
                exact ⟨B, rfl, HBB.out.1.1, fun h => (HBB.out.2 h).2, HBw.out⟩
              · go_wp2
                go_ret
                exact ⟨_, rfl, (flip_facts B HBB.out.1.1).1, fun h => by have := HNEG.out (by trivial); omega, HBw.out⟩
            · obtain ⟨j, rfl⟩ : ∃ j, k = j + 1 := ⟨k - 1, by omega⟩
              obtain ⟨B2, hB2, hB3⟩ := mul_two B HBB.out.1
              have hml : ∀ W : World, (binOp .mul 31 (.float .f64 B) (.float .f64 4611686018427387904)).run Tryz.prog W = .ok (.float .f64 B2) W := fun W => run_float_arith W .mul 31 .f64 _ _ _ hB2
              have hwj : IntKind.i64.wrap (j : Int) = (j : Int) := by simp only [IntKind.wrap_i64]; omega
              have HB3 := Lib.hid (show fnum B2 ∧ (V = 0 → j = 0 ∧ B2 = 0) from ⟨hB3, fun h => by have := (HBB.out.2 h).1; omega⟩)
              clear hB2 hB3 HBB
              go_wp2
              go_roundw
              case rel => exact ⟨j, B2, by go_num, by go_num, by trivial, by omega, HB3⟩
              case measure => simp [intOf]
end Go.Proofs.YtgohhebffcldeaaGreatDoor

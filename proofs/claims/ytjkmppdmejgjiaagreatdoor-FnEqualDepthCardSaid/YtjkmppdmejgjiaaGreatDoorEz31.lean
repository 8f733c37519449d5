import Derived.Test.YtjkmppdmejgjiaaGreatDoorEz4
import Derived.Test.YtjkmppdmejgjiaaGreatDoorEz1
import Derived.Test.YtjkmppdmejgjiaaGreatDoorEz30
/- Walk: spec.IntVal; the bytes of a slice that came in. -/
set_option linter.unusedVariables false
set_option linter.unusedSimpArgs false
namespace Go.Proofs.YtjkmppdmejgjiaaGreatDoor
open Go.RowKit
open Num

theorem IntVal_any (neg : Bool) (s : Value) (n V : Nat) (w : World) (h : MagAt w s n V) (hn : n ≤ 1099511627776) :
    Calls Tryz.prog 16 #[.agg #[.bool neg, s]] w fun e w' => ∃ s', e = .returned (valInt neg s') ∧ NewMag w w' s' n V := by
  obtain ⟨sa, sc, rfl⟩ := h.shape
  have hb0 : Below w.heap.size w (((w.alloc (.cells #[.bool neg, .slice sa n sc] 47)).alloc (.cells #[.int .i64 0, .bool false, .slice none 0 0, .int .u64 0, .string ⟨#[]⟩, .slice none 0 0] 26)).alloc (.cells #[] 5)) := (((Below.refl _ _).alloc (Nat.le_refl _) _).alloc (by simp) _).alloc (by simp; omega) _
  have HM := Lib.hid h
  have HSRC := Lib.hid (show 0 < n → ∃ ad, sa = some ad ∧ ∀ j, j < n → (((w.alloc (.cells #[.bool neg, .slice sa n sc] 47)).alloc (.cells #[.int .i64 0, .bool false, .slice none 0 0, .int .u64 0, .string ⟨#[]⟩, .slice none 0 0] 26)).alloc (.cells #[] 5)).cell? (ad.add j) = some (.int .u8 (dg V (n - 1 - j))) from fun h0 => by
    rcases h.2 with ⟨h2, _⟩ | ⟨_, g, p, c, e, hnc, hg, hc⟩
    · omega
    · injection e with e _ _
      subst e
      exact ⟨_, rfl, fun j hj => by rw [add_at, hb0.cell (p := ⟨g, p + j, none⟩) hg]; exact hc j hj⟩)
  have HB := Lib.hid hb0
  have HQ0 := Lib.hid (heap3_1 w (.cells #[.bool neg, .slice sa n sc] 47) (.cells #[.int .i64 0, .bool false, .slice none 0 0, .int .u64 0, .string ⟨#[]⟩, .slice none 0 0] 26) (.cells #[] 5))
  have HQ1 := Lib.hid (heap3_0 w (.cells #[.bool neg, .slice sa n sc] 47) (.cells #[.int .i64 0, .bool false, .slice none 0 0, .int .u64 0, .string ⟨#[]⟩, .slice none 0 0] 26) (.cells #[] 5))
  clear h hb0
  go_enter Tryz.func16, Tryz.ntmps16
  go_wp2_with fail
  go_region_law (refine step_append_fresh rfl (.tmp 5) (.tmp 7) 22 rfl 5 (.int .u8 0) bytesUnder u8Info rfl ⟨w.heap.size + 2, 0, none⟩ (by simp [Act.eval, Act.put]) sa n sc (by simp [Act.eval, Act.put]) (fun j => .int .u8 (dg V (n - 1 - j))) (by omega) HSRC.out ?_; intro v' w' hfr; obtain ⟨a', c', rfl⟩ := hfr.out.shape; have q0 : Hid (w'.heap[w.heap.size + 1]? = some (.cells #[.int .i64 0, .bool false, .slice none 0 0, .int .u64 0, .string ⟨#[]⟩, .slice none 0 0] 26 (0, 0))) := (Lib.hid ((hfr.out.1.block _ (by simp <;> omega)).trans HQ0.out)); have f0 : ∀ i, w'.frozen? ⟨w.heap.size + 1, i, none⟩ = false := (fun i => by simp [World.frozen?, q0.out]); have c0 := (cell_of_row w' _ 0 _ _ (0, 0) q0.out).trans rfl; have c1 := (cell_of_row w' _ 1 _ _ (0, 0) q0.out).trans rfl; have c2 := (cell_of_row w' _ 2 _ _ (0, 0) q0.out).trans rfl; have c3 := (cell_of_row w' _ 3 _ _ (0, 0) q0.out).trans rfl; have c4 := (cell_of_row w' _ 4 _ _ (0, 0) q0.out).trans rfl; have c5 := (cell_of_row w' _ 5 _ _ (0, 0) q0.out).trans rfl; have p0 : Hid (w'.heap[w.heap.size]? = some (.cells #[.bool neg, .slice sa n sc] 47 (0, 0))) := (Lib.hid ((hfr.out.1.block _ (by simp <;> omega)).trans HQ1.out)); have d0 := (cell_of_row w' _ 0 _ _ (0, 0) p0.out).trans rfl; have d1 := (cell_of_row w' _ 1 _ _ (0, 0) p0.out).trans rfl)
  all_goals (
    go_wp2
    have hW := set1 (i := 5) (x := .slice none 0 0) (set1 (i := 4) (x := .string ⟨#[]⟩) (set1 (i := 3) (x := .int .u64 0) (set1 (i := 2) (x := .slice a' n c') (set1 (i := 1) (x := .bool neg) (set1 (i := 0) (x := .int .i64 2) q0.out)))))
    have e0 := (cell_of_row _ _ 0 _ _ (0, 0) hW).trans rfl
    have e1 := (cell_of_row _ _ 1 _ _ (0, 0) hW).trans rfl
    have e2 := (cell_of_row _ _ 2 _ _ (0, 0) hW).trans rfl
    have e3 := (cell_of_row _ _ 3 _ _ (0, 0) hW).trans rfl
    have e4 := (cell_of_row _ _ 4 _ _ (0, 0) hW).trans rfl
    have e5 := (cell_of_row _ _ 5 _ _ (0, 0) hW).trans rfl
    have hne : ∀ a k c, Value.slice a' n c' = .slice (some a) k c → 0 < n → a.block ≠ w.heap.size + 1 := fun a k c h h0 => by
      have := hfr.out.new a k c h h0; simp at this; omega
    refine bodyPost_ret (v := valInt neg (.slice a' n c')) (by simp [results, Tryz.results16, go_sem, e0, e1, e2, e3, e4, e5]) rfl ⟨_, rfl, ?_⟩
    exact ((((((hfr.out.mag (w0 := w) ⟨HB.out.os, HB.out.tape, HB.out.output, HB.out.size, HB.out.block⟩ HM.out.1 (fun i hi => rfl)).put (by omega) hne _).put (by omega) hne _).put (by omega) hne _).put (by omega) hne _).put (by omega) hne _).put (by omega) hne _)

/-- the bytes of a slice of integers that came in -/
theorem bytAt_of {w : World} {x : Addr} {len cap : Nat} {zs : List Int} (hl : len ≤ cap) (hz : zs.length = cap) (hc : ∀ i, i < zs.length → w.cell? (x.add i) = some (.int .u8 (zs.getD i 0))) (hw : ∀ n ∈ zs, (Lit.int .u8 n).wf = true) :
    ∃ V, BytAt w (.slice (some x) len cap) len V := by
  have hb : ∀ n ∈ zs, 0 ≤ n ∧ n ≤ 255 := fun n hn => by
    have := hw n hn
    simp [Lit.wf] at this
    exact this
  refine ⟨be ((zs.take len).map Int.toNat), ?_⟩
  have hll : ((zs.take len).map Int.toNat).length = len := by simp; omega
  have hlt : ∀ y ∈ (zs.take len).map Int.toNat, y < 256 := fun y hy => by
    obtain ⟨n, hn, rfl⟩ := List.mem_map.1 hy
    have := hb n (List.mem_of_mem_take hn)
    omega
  refine ⟨?_, ?_⟩
  · have := be_lt _ hlt
    rwa [hll] at this
  · by_cases h0 : len = 0
    · exact .inl ⟨h0, some x, cap, by rw [h0]⟩
    · have hc0 := hc 0 (by omega)
      have hsp : x.spot = none ∧ x.block < w.heap.size := by
        have e : x.add 0 = x := by simp [Addr.add]
        rw [e] at hc0
        unfold World.cell? at hc0
        split at hc0
        · rename_i h
          split at hc0
          · simp at hc0
          · rename_i hs
            exact ⟨by simpa using hs, (Array.getElem?_eq_some_iff.1 h).1⟩
        · simp at hc0
      obtain ⟨g, p, sp⟩ := x
      obtain ⟨rfl, hg⟩ : sp = none ∧ g < w.heap.size := hsp
      refine .inr ⟨by omega, g, p, cap, rfl, hl, hg, fun i hi => ?_⟩
      have hci := hc i (by omega)
      rw [add_at] at hci
      rw [hci]
      have hd := be_dg _ hlt i (by omega)
      rw [hll] at hd
      rw [hd]
      have hzi : zs[i]? = some zs[i] := List.getElem?_eq_getElem (by omega)
      have h2 := hb zs[i] (List.getElem_mem _)
      have e1 : zs.getD i 0 = zs[i] := by simp [List.getD, hzi]
      have e2 : ((zs.take len).map Int.toNat).getD i 0 = zs[i].toNat := by simp [List.getD, List.getElem?_take, hi, hzi]
      rw [e1, e2]
      congr 2
      omega

end Go.Proofs.YtjkmppdmejgjiaaGreatDoor

/- Walks: any value of the specification is made clean: its kind; scalars. -/
set_option linter.unusedVariables false
set_option linter.unusedSimpArgs false
namespace Go.Proofs.YtjkmppdmejgjiaaGreatDoor
open Go.RowKit
open Num

/-- the kind that Clean makes of a number, with so many levels left -/
def ckind (k : Int) (deep : Nat) : Int := if deep = 0 ∧ 6 ≤ k % 10 then k % 10 - 6 else k % 10

theorem ckind_cases {k : Int} {deep : Nat} {v : Int} (h : ckind k deep = v) (h0 : 0 ≤ v) (h9 : v ≤ 9) : (0 < deep ∧ k % 10 = v) ∨ (deep = 0 ∧ k % 10 = v ∧ v < 6) ∨ (deep = 0 ∧ k % 10 = v + 6) := by
  unfold ckind at h
  split at h <;> omega
theorem kind_mod (k : Int) (hk : -9223372036854775808 ≤ k ∧ k ≤ 9223372036854775807) : (wrap64 (k.tmod 10 + 10)).tmod 10 = k % 10 ∧ 0 ≤ k % 10 ∧ k % 10 ≤ 9 := by
  have h1 : -9 ≤ k.tmod 10 ∧ k.tmod 10 ≤ 9 ∧ (k.tmod 10 + 10) % 10 = k % 10 := by
    have h0 := @Int.tmod_eq_emod k 10
    split at h0
    · omega
    · rw [show ((10 : Int).natAbs : Int) = 10 by decide] at h0
      omega
  have h2 : wrap64 (k.tmod 10 + 10) = k.tmod 10 + 10 := by unfold wrap64; omega
  rw [h2]
  have h3 := Int.tmod_eq_emod_of_nonneg (show 0 ≤ k.tmod 10 + 10 by omega) (b := 10)
  omega

/-- what Clean leaves -/
def CleanIs (deep : Nat) (w : World) (e : Ending) (w' : World) : Prop :=
  ∃ x T, e = .returned x ∧ ValB w' (fun b => w.heap.size ≤ b) (deep + 1) x T ∧ CleanT (deep + 1) T ∧ Below w.heap.size w w'

set_option maxRecDepth 100000 in
set_option maxHeartbeats 4000000 in
theorem Clean_none (k n a m c b s a2 m2 c2) (deep : Nat) (hd : deep ≤ 100) (hk : -9223372036854775808 ≤ k ∧ k ≤ 9223372036854775807) (hq : ckind k deep = 0) (w : World) :
    Calls Tryz.prog 6 #[sixV k n a m c b s a2 m2 c2, .int .i64 deep] w fun e w' => e = .returned (valSix 0 0 ⟨#[]⟩ (.slice none 0 0)) ∧ Below w.heap.size w w' := by
  obtain ⟨hm, hq0, hq9⟩ := kind_mod k hk
  have hcs := ckind_cases hq (by decide) (by decide)
  clear hq
  obtain ⟨q, hqq⟩ : ∃ q, q = k % 10 := ⟨_, rfl⟩
  rw [← hqq] at hm hq0 hq9 hcs
  obtain ⟨w1, hw1⟩ : ∃ w1, w1 = (w.alloc (sixO k n a m c b s a2 m2 c2)).alloc (sixO 0 false none 0 0 0 ⟨#[]⟩ none 0 0) := ⟨_, rfl⟩
  obtain ⟨r0, r1, hb1, _⟩ := two_new w (sixO k n a m c b s a2 m2 c2) (sixO 0 false none 0 0 0 ⟨#[]⟩ none 0 0)
  rw [← hw1] at r0 r1 hb1
  have HW1 := Lib.hid hw1; have HB1 := Lib.hid hb1; have HR0 := Lib.hid r0; have HR1 := Lib.hid r1
  obtain ⟨x0, x1, x2, x3, x4, x5⟩ := box6 r0 (Below.refl _ _)
  obtain ⟨z0, z1, z2, z3, z4, z5⟩ := box6 r1 (Below.refl _ _)
  have fz : ∀ i, w1.frozen? ⟨w.heap.size + 1, i, none⟩ = false := six_frozen r1
  clear hw1 r0 r1 hb1 hqq hk
  rcases hcs with ⟨hd0, rfl⟩ | ⟨rfl, rfl, _⟩ | ⟨rfl, rfl⟩
  · have hdd : ¬ ((deep : Int) ≤ 0) := by omega
    go_enter Tryz.func6, Tryz.ntmps6
    go_upto_if 18 with fail
    rw [← HW1.out]
    go_wp2
    obtain ⟨e0, e1, e2, e3, e4, e5⟩ := box6 (put6_heap HR1.out) (Below.refl _ (put6 w1 (w.heap.size + 1) (.int .i64 0) (.bool false) (.slice none 0 0) (.int .u64 0) (.string ⟨#[]⟩) (.slice none 0 0)))
    unfold put6 at e0 e1 e2 e3 e4 e5
    exact bodyPost_ret (v := sixV 0 false none 0 0 0 ⟨#[]⟩ none 0 0) (by simp [results, Tryz.results6, go_sem, e0, e1, e2, e3, e4, e5]) rfl ⟨rfl, Chg.below HB1.out HB1.out.size (put6_chg _ _ _ _ _ _ _ _) (by omega)⟩
  all_goals
    go_enter Tryz.func6, Tryz.ntmps6
    go_upto_if 18 with fail
    rw [← HW1.out]
    go_wp2
    obtain ⟨e0, e1, e2, e3, e4, e5⟩ := box6 (put6_heap HR1.out) (Below.refl _ (put6 w1 (w.heap.size + 1) (.int .i64 0) (.bool false) (.slice none 0 0) (.int .u64 0) (.string ⟨#[]⟩) (.slice none 0 0)))
    unfold put6 at e0 e1 e2 e3 e4 e5
    exact bodyPost_ret (v := sixV 0 false none 0 0 0 ⟨#[]⟩ none 0 0) (by simp [results, Tryz.results6, go_sem, e0, e1, e2, e3, e4, e5]) rfl ⟨rfl, Chg.below HB1.out HB1.out.size (put6_chg _ _ _ _ _ _ _ _) (by omega)⟩

theorem BoolVal_any (b : Bool) (w : World) : Calls Tryz.prog 15 #[.bool b] w fun e w' => e = .returned (valSix 1 (if b then 1 else 0) ⟨#[]⟩ (.slice none 0 0)) ∧ Below w.heap.size w w' := by
  cases b
  all_goals
    go_enter Tryz.func15, Tryz.ntmps15
    go_wp2
  · obtain ⟨e0, e1, e2, e3, e4, e5⟩ := box6 (heap_alloc_new w (sixO 1 false none 0 0 0 ⟨#[]⟩ none 0 0)) (Below.refl _ _)
    exact bodyPost_ret (v := sixV 1 false none 0 0 0 ⟨#[]⟩ none 0 0) (by simp [results, Tryz.results15, go_sem, e0, e1, e2, e3, e4, e5]) rfl ⟨rfl, (Below.refl _ _).alloc (Nat.le_refl _) _⟩
  · obtain ⟨e0, e1, e2, e3, e4, e5⟩ := box6 (heap_alloc_new w (sixO 1 false none 0 0 1 ⟨#[]⟩ none 0 0)) (Below.refl _ _)
    exact bodyPost_ret (v := sixV 1 false none 0 0 1 ⟨#[]⟩ none 0 0) (by simp [results, Tryz.results15, go_sem, e0, e1, e2, e3, e4, e5]) rfl ⟨rfl, (Below.refl _ _).alloc (Nat.le_refl _) _⟩

set_option maxRecDepth 100000 in
set_option maxHeartbeats 4000000 in
theorem Clean_bool (k n a m c b s a2 m2 c2) (deep : Nat) (hd : deep ≤ 100) (hk : -9223372036854775808 ≤ k ∧ k ≤ 9223372036854775807) (hq : ckind k deep = 1) (w : World) :
    Calls Tryz.prog 6 #[sixV k n a m c b s a2 m2 c2, .int .i64 deep] w fun e w' => e = .returned (valSix 1 (if (bits .and .u64 b 1 == 1) then 1 else 0) ⟨#[]⟩ (.slice none 0 0)) ∧ Below w.heap.size w w' := by
  obtain ⟨hm, hq0, hq9⟩ := kind_mod k hk
  have hcs := ckind_cases hq (by decide) (by decide)
  clear hq
  obtain ⟨q, hqq⟩ : ∃ q, q = k % 10 := ⟨_, rfl⟩
  rw [← hqq] at hm hq0 hq9 hcs
  obtain ⟨w1, hw1⟩ : ∃ w1, w1 = (w.alloc (sixO k n a m c b s a2 m2 c2)).alloc (sixO 0 false none 0 0 0 ⟨#[]⟩ none 0 0) := ⟨_, rfl⟩
  obtain ⟨r0, r1, hb1, _⟩ := two_new w (sixO k n a m c b s a2 m2 c2) (sixO 0 false none 0 0 0 ⟨#[]⟩ none 0 0)
  rw [← hw1] at r0 r1 hb1
  have HW1 := Lib.hid hw1; have HB1 := Lib.hid hb1; have HR0 := Lib.hid r0; have HR1 := Lib.hid r1
  obtain ⟨x0, x1, x2, x3, x4, x5⟩ := box6 r0 (Below.refl _ _)
  obtain ⟨z0, z1, z2, z3, z4, z5⟩ := box6 r1 (Below.refl _ _)
  have fz : ∀ i, w1.frozen? ⟨w.heap.size + 1, i, none⟩ = false := six_frozen r1
  clear hw1 r0 r1 hb1 hqq hk
  have HBV := Lib.hid (fun W : World => BoolVal_any (bits .and .u64 b 1 == 1) W)
  obtain ⟨tv, htv⟩ : ∃ tv : Int, tv = (if (bits .and .u64 b 1 == 1) then 1 else 0) := ⟨_, rfl⟩
  rw [← htv] at HBV ⊢
  clear htv
  rcases hcs with ⟨hd0, rfl⟩ | ⟨rfl, rfl, _⟩ | ⟨rfl, rfl⟩
  · have hdd : ¬ ((deep : Int) ≤ 0) := by omega
    go_enter Tryz.func6, Tryz.ntmps6
    go_upto_if 18 with fail
    rw [← HW1.out]
    go_wp2_with fail
    refine (HBV.out _).mono ?_
    rintro e w2 ⟨rfl, hb2⟩
    obtain ⟨y0, y1, y2, y3, y4, y5⟩ := box6 HR1.out hb2
    have HR2 := Lib.hid ((hb2.block _ (Array.getElem?_eq_some_iff.1 HR1.out).1).trans HR1.out)
    have fy : ∀ i, w2.frozen? ⟨w.heap.size + 1, i, none⟩ = false := six_frozen HR2.out
    have HB2 := Lib.hid (HB1.out.trans (hb2.mono HB1.out.size))
    clear hb2 fz
    go_wp2
    obtain ⟨e0, e1, e2, e3, e4, e5⟩ := box6 (put6_heap HR2.out) (Below.refl _ (put6 w2 (w.heap.size + 1) (.int .i64 1) (.bool false) (.slice none 0 0) (.int .u64 tv) (.string ⟨#[]⟩) (.slice none 0 0)))
    unfold put6 at e0 e1 e2 e3 e4 e5
    exact bodyPost_ret (v := sixV 1 false none 0 0 tv ⟨#[]⟩ none 0 0) (by simp [results, Tryz.results6, go_sem, e0, e1, e2, e3, e4, e5]) rfl ⟨rfl, Chg.below HB2.out HB2.out.size (put6_chg _ _ _ _ _ _ _ _) (by omega)⟩
  all_goals
    go_enter Tryz.func6, Tryz.ntmps6
    go_upto_if 18 with fail
    rw [← HW1.out]
    go_wp2_with fail
    refine (HBV.out _).mono ?_
    rintro e w2 ⟨rfl, hb2⟩
    obtain ⟨y0, y1, y2, y3, y4, y5⟩ := box6 HR1.out hb2
    have HR2 := Lib.hid ((hb2.block _ (Array.getElem?_eq_some_iff.1 HR1.out).1).trans HR1.out)
    have fy : ∀ i, w2.frozen? ⟨w.heap.size + 1, i, none⟩ = false := six_frozen HR2.out
    have HB2 := Lib.hid (HB1.out.trans (hb2.mono HB1.out.size))
    clear hb2 fz
    go_wp2
    obtain ⟨e0, e1, e2, e3, e4, e5⟩ := box6 (put6_heap HR2.out) (Below.refl _ (put6 w2 (w.heap.size + 1) (.int .i64 1) (.bool false) (.slice none 0 0) (.int .u64 tv) (.string ⟨#[]⟩) (.slice none 0 0)))
    unfold put6 at e0 e1 e2 e3 e4 e5
    exact bodyPost_ret (v := sixV 1 false none 0 0 tv ⟨#[]⟩ none 0 0) (by simp [results, Tryz.results6, go_sem, e0, e1, e2, e3, e4, e5]) rfl ⟨rfl, Chg.below HB2.out HB2.out.size (put6_chg _ _ _ _ _ _ _ _) (by omega)⟩

set_option maxRecDepth 100000 in
set_option maxHeartbeats 4000000 in
theorem Clean_flt (k n a m c b s a2 m2 c2) (deep : Nat) (hd : deep ≤ 100) (hk : -9223372036854775808 ≤ k ∧ k ≤ 9223372036854775807) (hq : ckind k deep = 3) (w : World) :
    Calls Tryz.prog 6 #[sixV k n a m c b s a2 m2 c2, .int .i64 deep] w fun e w' => e = .returned (valSix 3 b ⟨#[]⟩ (.slice none 0 0)) ∧ Below w.heap.size w w' := by
  obtain ⟨hm, hq0, hq9⟩ := kind_mod k hk
  have hcs := ckind_cases hq (by decide) (by decide)
  clear hq
  obtain ⟨q, hqq⟩ : ∃ q, q = k % 10 := ⟨_, rfl⟩
  rw [← hqq] at hm hq0 hq9 hcs
  obtain ⟨w1, hw1⟩ : ∃ w1, w1 = (w.alloc (sixO k n a m c b s a2 m2 c2)).alloc (sixO 0 false none 0 0 0 ⟨#[]⟩ none 0 0) := ⟨_, rfl⟩
  obtain ⟨r0, r1, hb1, _⟩ := two_new w (sixO k n a m c b s a2 m2 c2) (sixO 0 false none 0 0 0 ⟨#[]⟩ none 0 0)
  rw [← hw1] at r0 r1 hb1
  have HW1 := Lib.hid hw1; have HB1 := Lib.hid hb1; have HR0 := Lib.hid r0; have HR1 := Lib.hid r1
  obtain ⟨x0, x1, x2, x3, x4, x5⟩ := box6 r0 (Below.refl _ _)
  obtain ⟨z0, z1, z2, z3, z4, z5⟩ := box6 r1 (Below.refl _ _)
  have fz : ∀ i, w1.frozen? ⟨w.heap.size + 1, i, none⟩ = false := six_frozen r1
  clear hw1 r0 r1 hb1 hqq hk
  rcases hcs with ⟨hd0, rfl⟩ | ⟨rfl, rfl, _⟩ | ⟨rfl, rfl⟩
  · have hdd : ¬ ((deep : Int) ≤ 0) := by omega
    go_enter Tryz.func6, Tryz.ntmps6
    go_upto_if 18 with fail
    rw [← HW1.out]
    go_wp2
    obtain ⟨e0, e1, e2, e3, e4, e5⟩ := box6 (put6_heap HR1.out) (Below.refl _ (put6 w1 (w.heap.size + 1) (.int .i64 3) (.bool false) (.slice none 0 0) (.int .u64 b) (.string ⟨#[]⟩) (.slice none 0 0)))
    unfold put6 at e0 e1 e2 e3 e4 e5
    exact bodyPost_ret (v := sixV 3 false none 0 0 b ⟨#[]⟩ none 0 0) (by simp [results, Tryz.results6, go_sem, e0, e1, e2, e3, e4, e5]) rfl ⟨rfl, Chg.below HB1.out HB1.out.size (put6_chg _ _ _ _ _ _ _ _) (by omega)⟩
  all_goals
    go_enter Tryz.func6, Tryz.ntmps6
    go_upto_if 18 with fail
    rw [← HW1.out]
    go_wp2
    obtain ⟨e0, e1, e2, e3, e4, e5⟩ := box6 (put6_heap HR1.out) (Below.refl _ (put6 w1 (w.heap.size + 1) (.int .i64 3) (.bool false) (.slice none 0 0) (.int .u64 b) (.string ⟨#[]⟩) (.slice none 0 0)))
    unfold put6 at e0 e1 e2 e3 e4 e5
    exact bodyPost_ret (v := sixV 3 false none 0 0 b ⟨#[]⟩ none 0 0) (by simp [results, Tryz.results6, go_sem, e0, e1, e2, e3, e4, e5]) rfl ⟨rfl, Chg.below HB1.out HB1.out.size (put6_chg _ _ _ _ _ _ _ _) (by omega)⟩

set_option maxRecDepth 100000 in
set_option maxHeartbeats 4000000 in
theorem Clean_str (k n a m c b s a2 m2 c2) (deep : Nat) (hd : deep ≤ 100) (hk : -9223372036854775808 ≤ k ∧ k ≤ 9223372036854775807) (hq : ckind k deep = 4) (hs : s.size ≤ 9223372036854775807) (w : World) :
    Calls Tryz.prog 6 #[sixV k n a m c b s a2 m2 c2, .int .i64 deep] w fun e w' => e = .returned (valSix 4 0 (s.extract 0 (min s.size 60)) (.slice none 0 0)) ∧ Below w.heap.size w w' := by
  obtain ⟨hm, hq0, hq9⟩ := kind_mod k hk
  have hcs := ckind_cases hq (by decide) (by decide)
  clear hq
  obtain ⟨q, hqq⟩ : ∃ q, q = k % 10 := ⟨_, rfl⟩
  rw [← hqq] at hm hq0 hq9 hcs
  obtain ⟨w1, hw1⟩ : ∃ w1, w1 = (w.alloc (sixO k n a m c b s a2 m2 c2)).alloc (sixO 0 false none 0 0 0 ⟨#[]⟩ none 0 0) := ⟨_, rfl⟩
  obtain ⟨r0, r1, hb1, _⟩ := two_new w (sixO k n a m c b s a2 m2 c2) (sixO 0 false none 0 0 0 ⟨#[]⟩ none 0 0)
  rw [← hw1] at r0 r1 hb1
  have HW1 := Lib.hid hw1; have HB1 := Lib.hid hb1; have HR0 := Lib.hid r0; have HR1 := Lib.hid r1
  obtain ⟨x0, x1, x2, x3, x4, x5⟩ := box6 r0 (Below.refl _ _)
  obtain ⟨z0, z1, z2, z3, z4, z5⟩ := box6 r1 (Below.refl _ _)
  have fz : ∀ i, w1.frozen? ⟨w.heap.size + 1, i, none⟩ = false := six_frozen r1
  clear hw1 r0 r1 hb1 hqq hk
  have hmin : min (s.size : Int) 60 = ((min s.size 60 : Nat) : Int) := by omega
  have hml : min s.size 60 ≤ s.size := by omega
  obtain ⟨z, hz⟩ : ∃ z, z = min s.size 60 := ⟨_, rfl⟩
  rw [← hz] at hmin hml ⊢
  have hzi : (z : Int) ≤ (s.size : Int) := by omega
  clear hz
  rcases hcs with ⟨hd0, rfl⟩ | ⟨rfl, rfl, _⟩ | ⟨rfl, h6⟩
  · have hdd : ¬ ((deep : Int) ≤ 0) := by omega
    go_enter Tryz.func6, Tryz.ntmps6
    go_upto_if 18 with fail
    rw [← HW1.out]
    go_wp2
    obtain ⟨e0, e1, e2, e3, e4, e5⟩ := box6 (put6_heap HR1.out) (Below.refl _ (put6 w1 (w.heap.size + 1) (.int .i64 4) (.bool false) (.slice none 0 0) (.int .u64 0) (.string (s.extract 0 z)) (.slice none 0 0)))
    unfold put6 at e0 e1 e2 e3 e4 e5
    exact bodyPost_ret (v := sixV 4 false none 0 0 0 (s.extract 0 z) none 0 0) (by simp [results, Tryz.results6, go_sem, e0, e1, e2, e3, e4, e5]) rfl ⟨rfl, Chg.below HB1.out HB1.out.size (put6_chg _ _ _ _ _ _ _ _) (by omega)⟩
  · skip
    go_enter Tryz.func6, Tryz.ntmps6
    go_upto_if 18 with fail
    rw [← HW1.out]
    go_wp2
    obtain ⟨e0, e1, e2, e3, e4, e5⟩ := box6 (put6_heap HR1.out) (Below.refl _ (put6 w1 (w.heap.size + 1) (.int .i64 4) (.bool false) (.slice none 0 0) (.int .u64 0) (.string (s.extract 0 z)) (.slice none 0 0)))
    unfold put6 at e0 e1 e2 e3 e4 e5
    exact bodyPost_ret (v := sixV 4 false none 0 0 0 (s.extract 0 z) none 0 0) (by simp [results, Tryz.results6, go_sem, e0, e1, e2, e3, e4, e5]) rfl ⟨rfl, Chg.below HB1.out HB1.out.size (put6_chg _ _ _ _ _ _ _ _) (by omega)⟩
  · omega

set_option maxRecDepth 100000 in
set_option maxHeartbeats 4000000 in
theorem Clean_byt (k n a m c b s a2 m2 c2) (deep : Nat) (hd : deep ≤ 100) (hk : -9223372036854775808 ≤ k ∧ k ≤ 9223372036854775807) (hq : ckind k deep = 5) (hs : s.size ≤ 9223372036854775807) (w : World) :
    Calls Tryz.prog 6 #[sixV k n a m c b s a2 m2 c2, .int .i64 deep] w fun e w' => e = .returned (valSix 5 0 (s.extract 0 (min s.size 60)) (.slice none 0 0)) ∧ Below w.heap.size w w' := by
  obtain ⟨hm, hq0, hq9⟩ := kind_mod k hk
  have hcs := ckind_cases hq (by decide) (by decide)
  clear hq
  obtain ⟨q, hqq⟩ : ∃ q, q = k % 10 := ⟨_, rfl⟩
  rw [← hqq] at hm hq0 hq9 hcs
  obtain ⟨w1, hw1⟩ : ∃ w1, w1 = (w.alloc (sixO k n a m c b s a2 m2 c2)).alloc (sixO 0 false none 0 0 0 ⟨#[]⟩ none 0 0) := ⟨_, rfl⟩
  obtain ⟨r0, r1, hb1, _⟩ := two_new w (sixO k n a m c b s a2 m2 c2) (sixO 0 false none 0 0 0 ⟨#[]⟩ none 0 0)
  rw [← hw1] at r0 r1 hb1
  have HW1 := Lib.hid hw1; have HB1 := Lib.hid hb1; have HR0 := Lib.hid r0; have HR1 := Lib.hid r1
  obtain ⟨x0, x1, x2, x3, x4, x5⟩ := box6 r0 (Below.refl _ _)
  obtain ⟨z0, z1, z2, z3, z4, z5⟩ := box6 r1 (Below.refl _ _)
  have fz : ∀ i, w1.frozen? ⟨w.heap.size + 1, i, none⟩ = false := six_frozen r1
  clear hw1 r0 r1 hb1 hqq hk
  have hmin : min (s.size : Int) 60 = ((min s.size 60 : Nat) : Int) := by omega
  have hml : min s.size 60 ≤ s.size := by omega
  obtain ⟨z, hz⟩ : ∃ z, z = min s.size 60 := ⟨_, rfl⟩
  rw [← hz] at hmin hml ⊢
  have hzi : (z : Int) ≤ (s.size : Int) := by omega
  clear hz
  rcases hcs with ⟨hd0, rfl⟩ | ⟨rfl, rfl, _⟩ | ⟨rfl, h6⟩
  · have hdd : ¬ ((deep : Int) ≤ 0) := by omega
    go_enter Tryz.func6, Tryz.ntmps6
    go_upto_if 18 with fail
    rw [← HW1.out]
    go_wp2
    obtain ⟨e0, e1, e2, e3, e4, e5⟩ := box6 (put6_heap HR1.out) (Below.refl _ (put6 w1 (w.heap.size + 1) (.int .i64 5) (.bool false) (.slice none 0 0) (.int .u64 0) (.string (s.extract 0 z)) (.slice none 0 0)))
    unfold put6 at e0 e1 e2 e3 e4 e5
    exact bodyPost_ret (v := sixV 5 false none 0 0 0 (s.extract 0 z) none 0 0) (by simp [results, Tryz.results6, go_sem, e0, e1, e2, e3, e4, e5]) rfl ⟨rfl, Chg.below HB1.out HB1.out.size (put6_chg _ _ _ _ _ _ _ _) (by omega)⟩
  · skip
    go_enter Tryz.func6, Tryz.ntmps6
    go_upto_if 18 with fail
    rw [← HW1.out]
    go_wp2
    obtain ⟨e0, e1, e2, e3, e4, e5⟩ := box6 (put6_heap HR1.out) (Below.refl _ (put6 w1 (w.heap.size + 1) (.int .i64 5) (.bool false) (.slice none 0 0) (.int .u64 0) (.string (s.extract 0 z)) (.slice none 0 0)))
    unfold put6 at e0 e1 e2 e3 e4 e5
    exact bodyPost_ret (v := sixV 5 false none 0 0 0 (s.extract 0 z) none 0 0) (by simp [results, Tryz.results6, go_sem, e0, e1, e2, e3, e4, e5]) rfl ⟨rfl, Chg.below HB1.out HB1.out.size (put6_chg _ _ _ _ _ _ _ _) (by omega)⟩
  · omega
end Go.Proofs.YtjkmppdmejgjiaaGreatDoor

/- Walks: Clean of an integer. -/
set_option linter.unusedVariables false
set_option linter.unusedSimpArgs false
namespace Go.Proofs.YtjkmppdmejgjiaaGreatDoor
open Go.RowKit
open Num

theorem put6_far {w : World} {B B' i : Nat} {x0 x1 x2 x3 x4 x5 : Value} (h : B' ≠ B) :
    ((((((w.setCell ⟨B, 0, none⟩ x0).setCell ⟨B, 1, none⟩ x1).setCell ⟨B, 2, none⟩ x2).setCell ⟨B, 3, none⟩ x3).setCell ⟨B, 4, none⟩ x4).setCell ⟨B, 5, none⟩ x5).cell? ⟨B', i, none⟩ = w.cell? ⟨B', i, none⟩ := by
  have := (put6_chg w B x0 x1 x2 x3 x4 x5)
  by_cases hb : B' < w.heap.size
  · exact World.cell?_of_block (w := w) (a := ⟨B', i, none⟩) (this.block B' hb h)
  · have h1 : w.heap[B']? = none := Array.getElem?_eq_none (by omega)
    have h2 : (put6 w B x0 x1 x2 x3 x4 x5).heap[B']? = none := Array.getElem?_eq_none (by unfold put6; simp [World.setCell]; omega)
    unfold put6 at h2
    simp [World.cell?, h1, h2]

set_option maxRecDepth 100000 in
set_option maxHeartbeats 8000000 in
theorem Clean_int (k n a m c b s a2 m2 c2) (deep V : Nat) (hd : deep ≤ 100) (hk : -9223372036854775808 ≤ k ∧ k ≤ 9223372036854775807) (hq : ckind k deep = 2) (w : World) (hV : BytAt w (.slice a m c) m V) (hmc : m ≤ c) (hm2 : m ≤ 9223372036854775807) :
    Calls Tryz.prog 6 #[sixV k n a m c b s a2 m2 c2, .int .i64 deep] w fun e w' => ∃ s' m' V', e = .returned (valInt (n && decide (0 < V')) s') ∧ m' ≤ 40 ∧ MagB w' (fun b => w.heap.size ≤ b) s' m' V' ∧ Below w.heap.size w w' := by
  obtain ⟨hm, hq0, hq9⟩ := kind_mod k hk
  have hcs := ckind_cases hq (by decide) (by decide)
  clear hq
  obtain ⟨q, hqq⟩ : ∃ q, q = k % 10 := ⟨_, rfl⟩
  rw [← hqq] at hm hq0 hq9 hcs
  obtain ⟨w1, hw1⟩ : ∃ w1, w1 = (w.alloc (sixO k n a m c b s a2 m2 c2)).alloc (sixO 0 false none 0 0 0 ⟨#[]⟩ none 0 0) := ⟨_, rfl⟩
  obtain ⟨r0, r1, hb1, _⟩ := two_new w (sixO k n a m c b s a2 m2 c2) (sixO 0 false none 0 0 0 ⟨#[]⟩ none 0 0)
  rw [← hw1] at r0 r1 hb1
  have HW1 := Lib.hid hw1; have HB1 := Lib.hid hb1; have HR0 := Lib.hid r0; have HR1 := Lib.hid r1
  obtain ⟨x0, x1, x2, x3, x4, x5⟩ := box6 r0 (Below.refl _ _)
  have hmin : min (m : Int) 40 = ((min m 40 : Nat) : Int) := by omega
  have hml : min m 40 ≤ m := by omega
  have hb40 : min m 40 ≤ 40 := by omega
  have hV2 := hV.first (k := min m 40) hml rfl
  obtain ⟨z, hz⟩ : ∃ z, z = min m 40 := ⟨_, rfl⟩
  rw [← hz] at hmin hml hV2 hb40
  have hzi : (z : Int) ≤ (m : Int) := by omega
  have hzc : (z : Int) ≤ (c : Int) := by omega
  obtain ⟨V', hV'⟩ : ∃ V', V' = V / 2 ^ (8 * (m - z)) := ⟨_, rfl⟩
  rw [← hV'] at hV2
  have HOF := Lib.hid (Of_any n (.slice a z c) z V' w1.drew ((show BytAt w1 (.slice a z c) z V' from hV2.below hb1)) (by omega))
  obtain ⟨nb, hnb⟩ : ∃ nb, nb = (n && decide (0 < V')) := ⟨_, rfl⟩
  rw [← hnb] at HOF
  have HNB := Lib.hid hnb
  have HBC := Lib.hid hb1.drew
  have HZ := Lib.hid hb40
  have d1 : w1.drew.cell? ⟨w.heap.size, 1, none⟩ = some (.bool n) := x1
  have d2 : w1.drew.cell? ⟨w.heap.size, 2, none⟩ = some (.slice a m c) := x2
  have hne : w.heap.size ≠ w.heap.size + 1 := by omega
  have HL := Lib.hid (And.intro (Array.getElem?_eq_some_iff.1 r0).1 (Array.getElem?_eq_some_iff.1 r1).1)
  clear hw1 r0 r1 hb1 hqq hk hV hV2 hz hV' hmc hm2 hb40 hnb
  rcases hcs with ⟨hd0, rfl⟩ | ⟨rfl, rfl, _⟩ | ⟨rfl, rfl⟩
  · have hdd : ¬ ((deep : Int) ≤ 0) := by omega
    go_enter Tryz.func6, Tryz.ntmps6
    go_upto_if 18 with fail
    rw [← HW1.out]
    go_wp2
    go_region_held3 (fun W => W.cell? ⟨w.heap.size, 1, none⟩ = some (.bool n) ∧ W.cell? ⟨w.heap.size, 2, none⟩ = some (.slice a m c)) (first | with_reducible exact ⟨d1, d2⟩ | with_reducible exact ⟨y1, y2⟩ | with_reducible exact ⟨u1, u2⟩ | with_reducible exact ⟨(put6_far hne).trans u1, (put6_far hne).trans u2⟩) (first | (go_simp; go_at_call 17; refine HOF.out.mono ?_; rintro e w5 ⟨s5, m5, rfl, hm5, hn5⟩; obtain ⟨a5, c5, rfl⟩ := hn5.1.shape; have HM5 := Lib.hid hm5; have HN5 := Lib.hid hn5; have hb5 := below_undrew hn5.2.2; obtain ⟨y0, y1, y2, y3, y4, y5⟩ := box6 HR0.out hb5; have HB5 := Lib.hid (HB1.out.trans (hb5.mono HB1.out.size)); have HR5 := Lib.hid ((hb5.block _ HL.out.2).trans HR1.out); have HS5 := Lib.hid (Nat.lt_of_lt_of_le HL.out.1 hb5.size); have HS6 := Lib.hid hb5.size; have HO5 := Lib.hid (Nat.le_trans hm5 (Nat.le_trans HZ.out (show 40 ≤ 1099511627776 by decide))); have HIV := Lib.hid (IntVal_any nb (.slice a5 m5 c5) m5 V' w5 hn5.1 HO5.out); clear hm5 hn5 hb5) | (go_simp; go_at_call 16; refine HIV.out.mono ?_; rintro e w6 ⟨s6, rfl, hn6⟩; obtain ⟨a6, c6, rfl⟩ := hn6.1.shape; have HN6 := Lib.hid hn6; have hb6 := hn6.2.2; obtain ⟨u0, u1, u2, u3, u4, u5⟩ := (show Cells6 w6 w.heap.size 0 k n a m c b s a2 m2 c2 from (Cells6.below ⟨y0, y1, y2, y3, y4, y5⟩ hb6 HS5.out)); have HB6 := Lib.hid (HB5.out.trans (hb6.mono HB5.out.size)); have HR6 := Lib.hid ((hb6.block _ (Array.getElem?_eq_some_iff.1 HR5.out).1).trans HR5.out); obtain ⟨v0, v1, v2, v3, v4, v5⟩ := box6 HR6.out (Below.refl _ _); have fv : ∀ i, w6.frozen? ⟨w.heap.size + 1, i, none⟩ = false := six_frozen HR6.out; clear hn6 hb6))
    all_goals go_wp2
    all_goals
      obtain ⟨e0, e1, e2, e3, e4, e5⟩ := box6 (put6_heap HR6.out) (Below.refl _ (put6 w6 (w.heap.size + 1) (.int .i64 2) (.bool nb) (.slice a6 m5 c6) (.int .u64 0) (.string ⟨#[]⟩) (.slice none 0 0)))
      unfold put6 at e0 e1 e2 e3 e4 e5
      have hch := put6_chg w6 (w.heap.size + 1) (.int .i64 2) (.bool nb) (.slice a6 m5 c6) (.int .u64 0) (.string ⟨#[]⟩) (.slice none 0 0)
      have hmag : MagB w6 (fun b => w5.heap.size ≤ b) (.slice a6 m5 c6) m5 V' := ⟨HN6.out.1, HN6.out.2.1⟩
      refine bodyPost_ret (v := sixV 2 nb a6 m5 c6 0 ⟨#[]⟩ none 0 0) (by simp [results, Tryz.results6, go_sem, e0, e1, e2, e3, e4, e5]) rfl ⟨.slice a6 m5 c6, m5, V', by rw [← HNB.out], by have := HM5.out; have := HZ.out; omega, ?_, Chg.below HB6.out HB6.out.size hch (by omega)⟩
      exact hmag.turn (fun b h => by have := HB5.out.size; omega) hch.size (fun b h hl => hch.block b hl (by have := HL.out.2; have := HS6.out; omega))
  all_goals
    go_enter Tryz.func6, Tryz.ntmps6
    go_upto_if 18 with fail
    rw [← HW1.out]
    go_wp2
    go_region_held3 (fun W => W.cell? ⟨w.heap.size, 1, none⟩ = some (.bool n) ∧ W.cell? ⟨w.heap.size, 2, none⟩ = some (.slice a m c)) (first | with_reducible exact ⟨d1, d2⟩ | with_reducible exact ⟨y1, y2⟩ | with_reducible exact ⟨u1, u2⟩ | with_reducible exact ⟨(put6_far hne).trans u1, (put6_far hne).trans u2⟩) (first | (go_simp; go_at_call 17; refine HOF.out.mono ?_; rintro e w5 ⟨s5, m5, rfl, hm5, hn5⟩; obtain ⟨a5, c5, rfl⟩ := hn5.1.shape; have HM5 := Lib.hid hm5; have HN5 := Lib.hid hn5; have hb5 := below_undrew hn5.2.2; obtain ⟨y0, y1, y2, y3, y4, y5⟩ := box6 HR0.out hb5; have HB5 := Lib.hid (HB1.out.trans (hb5.mono HB1.out.size)); have HR5 := Lib.hid ((hb5.block _ HL.out.2).trans HR1.out); have HS5 := Lib.hid (Nat.lt_of_lt_of_le HL.out.1 hb5.size); have HS6 := Lib.hid hb5.size; have HO5 := Lib.hid (Nat.le_trans hm5 (Nat.le_trans HZ.out (show 40 ≤ 1099511627776 by decide))); have HIV := Lib.hid (IntVal_any nb (.slice a5 m5 c5) m5 V' w5 hn5.1 HO5.out); clear hm5 hn5 hb5) | (go_simp; go_at_call 16; refine HIV.out.mono ?_; rintro e w6 ⟨s6, rfl, hn6⟩; obtain ⟨a6, c6, rfl⟩ := hn6.1.shape; have HN6 := Lib.hid hn6; have hb6 := hn6.2.2; obtain ⟨u0, u1, u2, u3, u4, u5⟩ := (show Cells6 w6 w.heap.size 0 k n a m c b s a2 m2 c2 from (Cells6.below ⟨y0, y1, y2, y3, y4, y5⟩ hb6 HS5.out)); have HB6 := Lib.hid (HB5.out.trans (hb6.mono HB5.out.size)); have HR6 := Lib.hid ((hb6.block _ (Array.getElem?_eq_some_iff.1 HR5.out).1).trans HR5.out); obtain ⟨v0, v1, v2, v3, v4, v5⟩ := box6 HR6.out (Below.refl _ _); have fv : ∀ i, w6.frozen? ⟨w.heap.size + 1, i, none⟩ = false := six_frozen HR6.out; clear hn6 hb6))
    all_goals go_wp2
    all_goals
      obtain ⟨e0, e1, e2, e3, e4, e5⟩ := box6 (put6_heap HR6.out) (Below.refl _ (put6 w6 (w.heap.size + 1) (.int .i64 2) (.bool nb) (.slice a6 m5 c6) (.int .u64 0) (.string ⟨#[]⟩) (.slice none 0 0)))
      unfold put6 at e0 e1 e2 e3 e4 e5
      have hch := put6_chg w6 (w.heap.size + 1) (.int .i64 2) (.bool nb) (.slice a6 m5 c6) (.int .u64 0) (.string ⟨#[]⟩) (.slice none 0 0)
      have hmag : MagB w6 (fun b => w5.heap.size ≤ b) (.slice a6 m5 c6) m5 V' := ⟨HN6.out.1, HN6.out.2.1⟩
      refine bodyPost_ret (v := sixV 2 nb a6 m5 c6 0 ⟨#[]⟩ none 0 0) (by simp [results, Tryz.results6, go_sem, e0, e1, e2, e3, e4, e5]) rfl ⟨.slice a6 m5 c6, m5, V', by rw [← HNB.out], by have := HM5.out; have := HZ.out; omega, ?_, Chg.below HB6.out HB6.out.size hch (by omega)⟩
      exact hmag.turn (fun b h => by have := HB5.out.size; omega) hch.size (fun b h hl => hch.block b hl (by have := HL.out.2; have := HS6.out; omega))
end Go.Proofs.YtjkmppdmejgjiaaGreatDoor

/- Walks: Clean of lists and tuples. -/
set_option linter.unusedVariables false
set_option linter.unusedSimpArgs false
namespace Go.Proofs.YtjkmppdmejgjiaaGreatDoor
open Go.RowKit
open Num

/-- any value of the specification in memory, of so many levels at most -/
def RawAt (w : World) : Nat → Value → Prop
  | 0, _ => False
  | f + 1, v => ∃ k n a m c b s a2 m2 c2, v = sixV k n a m c b s a2 m2 c2 ∧ (-9223372036854775808 ≤ k ∧ k ≤ 9223372036854775807) ∧ (0 ≤ b ∧ b < 18446744073709551616) ∧ s.size ≤ 9223372036854775807 ∧ m ≤ 9223372036854775807 ∧ m2 ≤ 9223372036854775807 ∧ m ≤ c ∧ m2 ≤ c2 ∧
    (∃ V, BytAt w (.slice a m c) m V) ∧ (m2 = 0 ∨ ∃ g p, a2 = some ⟨g, p, none⟩ ∧ g < w.heap.size ∧ ∀ i, i < m2 → ∃ u, V6 w g (p + i * 6) u ∧ RawAt w f u)
theorem RawAt.below {w w' : World} (hb : Below w.heap.size w w') : ∀ {f : Nat} {v : Value}, RawAt w f v → RawAt w' f v
  | 0, _, h => h
  | f + 1, v, h => by
    obtain ⟨k, n, a, m, c, b, s, a2, m2, c2, e, h1, h2, h3, h4, h5, h6, h7, ⟨V, hV⟩, hk⟩ := h
    refine ⟨k, n, a, m, c, b, s, a2, m2, c2, e, h1, h2, h3, h4, h5, h6, h7, ⟨V, hV.below hb⟩, ?_⟩
    rcases hk with hk | ⟨g, p, e2, hg, hk⟩
    · exact .inl hk
    · exact .inr ⟨g, p, e2, Nat.lt_of_lt_of_le hg hb.size, fun i hi => by
        obtain ⟨u, hu, hr⟩ := hk i hi
        exact ⟨u, hu.below hg hb, RawAt.below hb hr⟩⟩
/-- a kid of any value, its six cells -/
theorem raw_kid {w : World} {f g p m2 : Nat} (hk : ∀ i, i < m2 → ∃ u, V6 w g (p + i * 6) u ∧ RawAt w f u) (i : Nat) (hi : i < m2) :
    ∃ k n a m c b s a2 m2 c2, Cells6 w g (p + i * 6) k n a m c b s a2 m2 c2 ∧ RawAt w f (sixV k n a m c b s a2 m2 c2) := by
  obtain ⟨u, hu, hr⟩ := hk i hi
  cases f with
  | zero => exact hr.elim
  | succ f =>
    have hr' := hr
    obtain ⟨k, n, a, m, c, b, s, a2, m2, c2, e, _⟩ := hr
    obtain ⟨x0, x1, x2, x3, x4, x5, e2, y0, y1, y2, y3, y4, y5⟩ := hu
    rw [e] at e2
    injection e2 with e2
    injection e2 with e2
    injection e2 with q0 e2; injection e2 with q1 e2; injection e2 with q2 e2; injection e2 with q3 e2; injection e2 with q4 e2; injection e2 with q5 e2
    subst q0; subst q1; subst q2; subst q3; subst q4; subst q5
    exact ⟨k, n, a, m, c, b, s, a2, m2, c2, ⟨y0, y1, y2, y3, y4, y5⟩, by rw [← e]; exact hr'⟩

set_option maxRecDepth 100000 in
set_option maxHeartbeats 8000000 in
theorem Clean_seq (k n a m c b s a2 m2 c2) (deep f : Nat) (hd : deep ≤ 100) (kd : Int) (hkd : kd = 6 ∨ kd = 7) (hk : -9223372036854775808 ≤ k ∧ k ≤ 9223372036854775807) (hq : k % 10 = kd) (hm2 : m2 ≤ 9223372036854775807) (w : World)
    (hkids : m2 = 0 ∨ ∃ g p, a2 = some ⟨g, p, none⟩ ∧ g < w.heap.size ∧ ∀ i, i < m2 → ∃ u, V6 w g (p + i * 6) u ∧ RawAt w f u)
    (hE : ∀ u W, RawAt W f u → Below w.heap.size w W → Calls Tryz.prog 6 #[u, .int .i64 deep] W (CleanIs deep W)) :
    Calls Tryz.prog 6 #[sixV k n a m c b s a2 m2 c2, .int .i64 ((deep : Int) + 1)] w fun e w' => ∃ ks ts, e = .returned (valSix kd 0 ⟨#[]⟩ ks) ∧ ts.length ≤ 8 ∧ (∀ t ∈ ts, CleanT (deep + 1) t) ∧ KidsB w' (fun b => w.heap.size ≤ b) (ValB w' (fun b => w.heap.size ≤ b) (deep + 1)) ks ts ∧ Below w.heap.size w w' := by
  obtain ⟨hm, hq0, hq9⟩ := kind_mod k hk
  rw [hq] at hm hq0 hq9
  obtain ⟨w3, hw3⟩ : ∃ w3, w3 = ((w.alloc (sixO k n a m c b s a2 m2 c2)).alloc (sixO 0 false none 0 0 0 ⟨#[]⟩ none 0 0)).alloc (sixO kd false none 0 0 0 ⟨#[]⟩ none 0 0) := ⟨_, rfl⟩
  have HU3 := Lib.hid (NewUp.begin w (fun _ => False) (deep + 1) kd (sixO k n a m c b s a2 m2 c2) w3 hw3)
  have HW3 := Lib.hid hw3
  have hdd : ¬ ((deep : Int) + 1 ≤ 0) := by omega
  have hde : IntKind.i64.wrap ((deep : Int) + 1 - 1) = (deep : Int) := by simp only [IntKind.wrap_i64]; omega
  have hde2 : wrap64 ((deep : Int) + 1 - 1) = (deep : Int) := by unfold wrap64; omega
  have hde3 : IntKind.i64.wrap (deep : Int) = (deep : Int) := by simp only [IntKind.wrap_i64]; omega
  have hde4 : wrap64 (deep : Int) = (deep : Int) := by unfold wrap64; omega
  have e1 : (kd == 1) = false := by simp; omega
  have e2 : (kd == 2) = false := by simp; omega
  have e3 : (kd == 3) = false := by simp; omega
  have e4 : (kd == 4) = false := by simp; omega
  have e5 : (kd == 5) = false := by simp; omega
  have HKD := Lib.hid hkd
  clear hw3 hk hq hkd
  go_enter Tryz.func6, Tryz.ntmps6
  go_upto_if 59 with fail
  go_cut [59] from 60 to 61 (fun x W => x = .bool true ∧ (w.alloc (sixO k n a m c b s a2 m2 c2)).alloc (sixO 0 false none 0 0 0 ⟨#[]⟩ none 0 0) = W)
  case first =>
    rcases HKD.out with h | h
    · have h6 : (kd == 6) = true := by simp [h]
      clear h
      go_wp2
      go_meet
      case rel => exact ⟨by first | rfl | (rw [h6]), rfl⟩
    · have h6 : (kd == 6) = false := by simp; omega
      have h7 : (kd == 7) = true := by simp [h]
      clear h
      go_wp2
      go_meet
      case rel => exact ⟨by first | rfl | (rw [h7]), rfl⟩
  case rest =>
    obtain ⟨rfl, rfl⟩ := hcut
    go_wp2
    rw [← HW3.out]
    clear hm hq0 hq9 hdd e1 e2 e3 e4 e5
    go_loopw [7] (fun i wr => ∃ j : Nat, j ≤ 8 ∧ j ≤ m2 ∧ i = .int .i64 j ∧ ∃ ts, NewUp w (fun _ => False) (deep + 1) kd (sixO k n a m c b s a2 m2 c2) ts wr ∧ ts.length = j ∧ ∀ t ∈ ts, CleanT (deep + 1) t) (fun i _ => 8 - (intOf i).toNat)
    case atStart => exact ⟨0, by omega, by omega, rfl, [], HU3.out, rfl, fun t h => by cases h⟩
    case round =>
      obtain ⟨j, hj8, hjm, rfl, ts, hu, htl, htc⟩ := hrel
      clear HU3
      obtain ⟨ks, es, r2, hown, hes, r0, r1, hb⟩ := hu
      obtain ⟨x0, x1, x2, x3, x4, x5⟩ := box6 r0 (Below.refl _ _)
      by_cases he : j < m2 ∧ j < 8
      · obtain ⟨he1, he2⟩ := he
        have hlt : (j : Int) < (m2 : Int) := by omega
        have hlt8 : (j : Int) < 8 := by omega
        rcases hkids with h0 | ⟨g, p, rfl, hg, hkk⟩
        · omega
        · obtain ⟨k1, n1, a1, m1, c1, b1, s1, d1, o1, f1, hcl, hrw⟩ := raw_kid hkk j he1
          obtain ⟨i0, i1, i2, i3, i4, i5⟩ := hcl.below hb hg
          have HC := Lib.hid (hE _ wr.drew (hrw.below hb.drew) hb.drew)
          have HKK := Lib.hid hkk
          have HEE := Lib.hid hE
          have hwr : w.heap.size + 3 ≤ wr.heap.size := by have := (Array.getElem?_eq_some_iff.1 r2).1; omega
          have hesl : es.length ≤ 900 := by have := congrArg List.length hes; simp at this; omega
          have HTS := Lib.hid (And.intro htl htc)
          have HPU := Lib.hid (show ∀ (w5 : World) (y : Value) (t : Tr) (h6 : IsSix y) (h1 : ∀ u ∈ six y, u.oneCell' = true), ValB w5 (fun b => wr.heap.size ≤ b) (deep + 1) y t → Below wr.heap.size wr w5 → PushAt w (fun _ => False) (deep + 1) kd (sixO k n a m c b s (some ⟨g, p, none⟩) m2 c2) ts [(y, t)] ks es (w5.alloc (.cells (six y).toArray 26)) w5.heap.size from fun w5 y t h6 h1 hy hb5 => by
            have hb6 : Below wr.heap.size wr (w5.alloc (.cells (six y).toArray 26)) := hb5.alloc hb5.size _
            exact ⟨(hb6.block _ (by omega)).trans r2, hown.below hb6, hes, (hb6.block _ (by omega)).trans r0, (hb6.block _ (by omega)).trans r1, hb.trans (hb6.mono hb.size), hesl, by simp, by simpa using heap_alloc_new w5 (.cells (six y).toArray 26), by simpa using h1, fun e he => by
              obtain rfl : e = (y, t) := by simpa using he
              exact entAt_of h6 (fun b h => h.elim) hown hwr (hy.sub (fun b h => .inr h)) ((Below.refl _ _).alloc (Nat.le_refl _) _), fun b h => h.elim⟩)
          have HO := Lib.hid (show ∀ W, Below wr.heap.size wr W → W.cell? ⟨w.heap.size + 1 + 1, 5, none⟩ = some ks from fun W hb => (cell_of_row _ _ 5 _ _ (0, 0) ((hb.block _ (by omega)).trans r2)).trans rfl)
          have o5 := HO.out wr (Below.refl _ _)
          obtain ⟨ka, kc, hksh⟩ := hown.shape
          subst hksh
          clear r0 r1 r2 hown hes hb hcl hwr hesl htl htc hrw hkk hE hjm hj8 he1 he2
          go_wp2
          go_region_law (first | (go_simp; go_at_call 6; (with_reducible refine HC.out.mono ?_); rintro e w5 ⟨y, t, rfl, hy, hty, hb5⟩; obtain ⟨y0, y1, y2, y3, y4, y5, y6, y7, y8, y9, hyy⟩ := hy.at_.shape; subst hyy; have HB5 := Lib.hid (below_undrew hb5); have q5 := HO.out w5 HB5.out; have q6 := fun X => HO.out (w5.alloc X) (HB5.out.alloc HB5.out.size X); have HP := Lib.hid (HPU.out w5 _ t ⟨_, _, _, _, _, _, rfl⟩ (fun u hu => by simp [six] at hu; rcases hu with rfl | rfl | rfl | rfl | rfl | rfl <;> rfl) hy HB5.out); have HTY := Lib.hid hty; clear hb5 hy hty) | (refine step_push rfl (.tmp 76) (.tmp 85) rfl rfl rfl HP.out rfl ?_; intro a' n' c' w7 q7 q8 HN7))
          all_goals go_wp2
          all_goals go_round
          all_goals first
            | exact ⟨j + 1, by omega, by omega, by go_num, ts ++ [t], HN7.out, by simp [HTS.out.1], fun x hx => by
                rcases List.mem_append.1 hx with h | h
                · exact HTS.out.2 x h
                · obtain rfl : x = t := by simpa using h
                  exact HTY.out⟩
            | (simp [intOf]; omega)
      · obtain ⟨ka, kc, rfl⟩ := hown.shape
        obtain ⟨y0, y1, y2, y3, y4, y5⟩ := box6 r2 (Below.refl _ _)
        obtain ⟨z0, z1, z2, z3, z4, z5⟩ := box6 r1 (Below.refl _ _)
        have fz : ∀ i, wr.frozen? ⟨w.heap.size + 1, i, none⟩ = false := six_frozen r1
        have HR1 := Lib.hid r1; have HB := Lib.hid hb; have HOWN := Lib.hid hown; have HES := Lib.hid hes; have HTS := Lib.hid (And.intro htl htc); have HJ8 := Lib.hid hj8
        clear r0 r1 r2 hb hown hes htl htc hE hkids
        by_cases hm : j < m2
        · have hlt : (j : Int) < (m2 : Int) := by omega
          have hge : ¬ ((j : Int) < 8) := by omega
          have hge2 : decide ((j : Int) < 8) = false := by simp; omega
          clear he hm hj8 hjm
          go_wp2
          obtain ⟨e0, e1, e2, e3, e4, e5⟩ := box6 (put6_heap HR1.out) (Below.refl _ (put6 wr (w.heap.size + 1) (.int .i64 kd) (.bool false) (.slice none 0 0) (.int .u64 0) (.string ⟨#[]⟩) (.slice ka es.length kc)))
          unfold put6 at e0 e1 e2 e3 e4 e5
          have hkids := (HOWN.out.chg (put6_chg wr (w.heap.size + 1) (.int .i64 kd) (.bool false) (.slice none 0 0) (.int .u64 0) (.string ⟨#[]⟩) (.slice ka es.length kc)) (by omega) (fun h => by rcases h with h | h; exact h.elim; omega)).kids (T' := fun b => w.heap.size ≤ b) (fun b h => by rcases h with h | h; exact h.elim; omega) (fun b h => by omega)
          rw [HES.out] at hkids
          exact bodyPost_ret (v := sixV kd false none 0 0 0 ⟨#[]⟩ ka es.length kc) (by simp [results, Tryz.results6, go_sem, e0, e1, e2, e3, e4, e5]) rfl ⟨_, rfl, ts, by rw [HTS.out.1]; exact HJ8.out, HTS.out.2, hkids, Chg.below HB.out HB.out.size (put6_chg _ _ _ _ _ _ _ _) (by omega)⟩
        · have hge : ¬ ((j : Int) < (m2 : Int)) := by omega
          have hge2 : decide ((j : Int) < (m2 : Int)) = false := by simp; omega
          clear he hm hj8 hjm
          go_wp2
          obtain ⟨e0, e1, e2, e3, e4, e5⟩ := box6 (put6_heap HR1.out) (Below.refl _ (put6 wr (w.heap.size + 1) (.int .i64 kd) (.bool false) (.slice none 0 0) (.int .u64 0) (.string ⟨#[]⟩) (.slice ka es.length kc)))
          unfold put6 at e0 e1 e2 e3 e4 e5
          have hkids := (HOWN.out.chg (put6_chg wr (w.heap.size + 1) (.int .i64 kd) (.bool false) (.slice none 0 0) (.int .u64 0) (.string ⟨#[]⟩) (.slice ka es.length kc)) (by omega) (fun h => by rcases h with h | h; exact h.elim; omega)).kids (T' := fun b => w.heap.size ≤ b) (fun b h => by rcases h with h | h; exact h.elim; omega) (fun b h => by omega)
          rw [HES.out] at hkids
          exact bodyPost_ret (v := sixV kd false none 0 0 0 ⟨#[]⟩ ka es.length kc) (by simp [results, Tryz.results6, go_sem, e0, e1, e2, e3, e4, e5]) rfl ⟨_, rfl, ts, by rw [HTS.out.1]; exact HJ8.out, HTS.out.2, hkids, Chg.below HB.out HB.out.size (put6_chg _ _ _ _ _ _ _ _) (by omega)⟩
end Go.Proofs.YtjkmppdmejgjiaaGreatDoor

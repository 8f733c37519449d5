import Derived.Test.YtpcleebnfgnhdaaGreatDoorGz18
/- Walks: Int.Cmp; Int.scaleDenom; Rat.Cmp. Walks: Rat.Cmp; Rat.SetInt, SetInt64; the fractions of an integer and of a float. Walks: the fractions of an integer and of a float. -/
set_option linter.unusedVariables false
set_option linter.unusedSimpArgs false
namespace Go.Proofs.YtpcleebnfgnhdaaGreatDoor
open Go.RowKit
open Num

set_option maxRecDepth 100000 in
/-- Cmp of two Ints -/
theorem Cmp_any (b1 o1 b2 o2 T1 T2 n m X Y : Nat) (xn yn : Bool) (c1 c2 : Array Value) (s t : Value) (w : World)
    (h1 : w.heap[b1]? = some (.cells c1 T1 (0, 0))) (h2 : w.heap[b2]? = some (.cells c2 T2 (0, 0))) (hne : b1 ≠ b2)
    (x0 : c1[o1]? = some (.bool xn)) (x1 : c1[o1 + 1]? = some s) (y0 : c2[o2]? = some (.bool yn)) (y1 : c2[o2 + 1]? = some t)
    (hs : Words w s n X) (ht : Words w t m Y) (hx : xn = true → 0 < X) (hy : yn = true → 0 < Y) :
    Calls Tryz.prog 173 #[.pointer (some ⟨b1, o1, none⟩), .pointer (some ⟨b2, o2, none⟩)] w fun e w' => e = .returned (.int .i64 (icmp (sI xn X) (sI yn Y))) ∧ ∃ k, w' = w.drewN k := by
  obtain ⟨j, hj, hjs⟩ := info_Int
  have hp := run_eql_ptr_other (P := Tryz.prog) w (a := ⟨b1, o1, none⟩) (b := ⟨b2, o2, none⟩) under_pInt hj hjs (by intro e; injection e with e; exact hne e) h1 h2
  have a0 := (cell_of_row w _ _ _ _ (0, 0) h1).trans x0
  have a1 := (cell_of_row w _ _ _ _ (0, 0) h1).trans x1
  have b0 := (cell_of_row w _ _ _ _ (0, 0) h2).trans y0
  have b1' := (cell_of_row w _ _ _ _ (0, 0) h2).trans y1
  have hsg := icmp_signed xn yn X Y hx hy
  have HC := Lib.hid (fun k l => cmp_words (w := (w.drewN k).drewN l) hs ht)
  obtain ⟨cv, hcv⟩ : ∃ cv, cv = sgn3 X Y := ⟨_, rfl⟩
  rw [← hcv] at HC hsg
  have hcb : -1 ≤ cv ∧ cv ≤ 1 := by rw [hcv]; unfold sgn3; split; omega; split <;> omega
  have hc1 := hcb.1
  have hc2 := hcb.2
  obtain ⟨sa, sc, rfl⟩ := hs.shape
  obtain ⟨ta, tc, rfl⟩ := ht.shape
  rw [hsg]
  have HW := Lib.hid (And.intro h1 h2)
  clear h1 h2 hs ht hsg hcv hj hjs x0 x1 y0 y1 hcb
  cases xn <;> cases yn
  all_goals (
    go_enter Tryz.func173, Tryz.ntmps173
    go_wp2_with fail
    go_quiet (fail)
    obtain ⟨w0, hw0⟩ : ∃ w0, w0 = w.drewN nq := ⟨_, rfl⟩
    have HC2 := Lib.hid (fun l => HC.out nq l)
    rw [← hw0] at HC2 ⊢
    have d0 : w0.cell? ⟨b1, o1, none⟩ = w.cell? ⟨b1, o1, none⟩ := by rw [hw0]; rfl
    rw [a0] at d0
    have d4 : w0.cell? ⟨b2, o2, none⟩ = w.cell? ⟨b2, o2, none⟩ := by rw [hw0]; rfl
    rw [b0] at d4
    have d1 : w0.cell? ⟨b1, o1 + 1, none⟩ = some (.slice sa n sc) := by rw [hw0]; exact a1
    have d2 : w0.cell? ⟨b2, o2 + 1, none⟩ = some (.slice ta m tc) := by rw [hw0]; exact b1'
    have HW0 := Lib.hid hw0
    clear HC hw0
    go_wp2_with fail
    try go_quiet ((first | (go_at_call 179; with_reducible exact Calls.quiet_of (HC2.out _))))
    go_wp2
    go_ret
    refine ⟨by first | rfl | (simp; done) | (simp; omega), ?_⟩
    first
      | exact ⟨nq, HW0.out⟩
      | exact ⟨_, by rw [HW0.out, World.drewN_drewN]⟩)

theorem NatNew.words {w w' : World} {s : Value} {n V : Nat} (h : NatNew w w' s n V) (hN : Nw n V) (hn : n ≤ 16777216) : Words w' s n V := by
  refine ⟨hN, hn, ?_⟩
  rcases h with ⟨h1, _, h3⟩ | ⟨h1, _, g, c, f, rfl, _, hnc, _, hr, hf⟩
  · exact .inl ⟨h1, _, _, h3⟩
  · exact .inr ⟨h1, g, 0, c, rfl, hr.lt, fun i hi => by rw [Nat.zero_add, hr.cell (by omega), hf i hi]⟩

theorem scaleDenom_any (zb bx ox Ta n m N F : Nat) (st : Option Addr) (xn : Bool) (ca : Array Value) (sx f : Value) (w : World)
    (hz : w.heap[zb]? = some (.cells #[.bool false, .slice none 0 0] 212 (0, 0))) (hx : w.heap[bx]? = some (.cells ca Ta (0, 0))) (hne : zb ≠ bx)
    (x0 : ca[ox]? = some (.bool xn)) (x1 : ca[ox + 1]? = some sx) (hsx : Words w sx n N) (hf : Words w f m F) (hm0 : 0 < m) (hn : n ≤ 1048576) (hm : m ≤ 1048576) (h39 : n ≤ 39 ∨ m ≤ 39) (hk : KT w) :
    Calls Tryz.prog 172 #[.pointer (some ⟨zb, 0, none⟩), .pointer st, .pointer (some ⟨bx, ox, none⟩), f] w fun e w' => e = .returned (.tuple #[]) ∧ (∃ s l, w'.heap[zb]? = some (.cells #[.bool xn, s] 212 (0, 0)) ∧ Words w' s l (N * F)) ∧ Chg zb w w' := by
  have HM := Lib.hid (mul_any st n m N F sx f w.drew hsx hf hn hm h39 hk)
  obtain ⟨sa, sc, rfl⟩ := hsx.shape
  obtain ⟨ta, tc, rfl⟩ := hf.shape
  have z0 := (cell_of_row w _ 0 _ _ (0, 0) hz).trans rfl
  have z1 := (cell_of_row w _ 1 _ _ (0, 0) hz).trans rfl
  have a0 := (cell_of_row w _ _ _ _ (0, 0) hx).trans x0
  have a1 := (cell_of_row w _ _ _ _ (0, 0) hx).trans x1
  have fz : ∀ i, w.frozen? ⟨zb, i, none⟩ = false := fun i => by simp [World.frozen?, hz]
  have lz := (Array.getElem?_eq_some_iff.1 hz).1
  have lx := (Array.getElem?_eq_some_iff.1 hx).1
  have hm1 : ((m : Int) == 0) = false := by simp; omega
  have HZ := Lib.hid hz; have HX := Lib.hid hx; have X0 := Lib.hid x0
  clear hz hx hsx hf hk x0 x1
  go_enter Tryz.func172, Tryz.ntmps172
  go_wp2_with fail
  go_region_law (first | (go_simp; go_at_call 178; refine HM.out.mono ?_; rintro e w2 ⟨s, l, rfl, hN, hl, hnew, hb⟩; obtain ⟨s2, c2, rfl⟩ := hnew.shape; have q0 : w2.cell? ⟨zb, 0, none⟩ = some (.bool false) := (hb.cell (p := ⟨zb, 0, none⟩) lz).trans z0; have q1 : w2.cell? ⟨zb, 1, none⟩ = some (.slice none 0 0) := (hb.cell (p := ⟨zb, 1, none⟩) lz).trans z1; have q2 : w2.cell? ⟨bx, ox, none⟩ = some (.bool xn) := (hb.cell (p := ⟨bx, ox, none⟩) lx).trans a0; have q3 : w2.cell? ⟨bx, ox + 1, none⟩ = some (.slice sa n sc) := (hb.cell (p := ⟨bx, ox + 1, none⟩) lx).trans a1; have f2 : ∀ i, w2.frozen? ⟨zb, i, none⟩ = false := (fun i => (hb.frozen (p := ⟨zb, i, none⟩) lz).trans (fz i)); have HB := Lib.hid hb; have HNEW := Lib.hid hnew; have HN := Lib.hid hN; clear hb hnew hN))
  all_goals (
    have r2 : (w2.setCell ⟨zb, 1, none⟩ (.slice s2 l c2)).cell? ⟨bx, ox, none⟩ = some (.bool xn) := (World.cell?_of_block (w := w2) (Below.heap_setCell w2 (⟨zb, 1, none⟩ : Addr) _ bx (fun e => hne e.symm))).trans q2
    go_wp2
    go_end0
    have hb := below_undrew HB.out
    have h0 := (hb.block zb lz).trans HZ.out
    refine ⟨rfl, ⟨_, l, set1 (i := 0) (x := .bool xn) (set1 (i := 1) (x := .slice s2 l c2) h0), ?_⟩, ((Chg.of_below hb).set _ _).set _ _⟩
    exact ((HNEW.out.far (p := ⟨zb, 1, none⟩) lz _).far (p := ⟨zb, 0, none⟩) lz _).words HN.out hl)
end Go.Proofs.YtpcleebnfgnhdaaGreatDoor

set_option linter.unusedVariables false
set_option linter.unusedSimpArgs false
namespace Go.Proofs.YtpcleebnfgnhdaaGreatDoor
open Go.RowKit
open Num

set_option maxRecDepth 100000 in
set_option maxHeartbeats 400000 in
theorem RatCmp_any (p q : Nat) (xn yn : Bool) (XN XD YN YD : Nat) (w : World) (hp : RatAt w p xn XN XD) (hq : RatAt w q yn YN YD) (hx : xn = true → 0 < XN) (hy : yn = true → 0 < YN) (hk : KT w) :
    Calls Tryz.prog 165 #[.pointer (some ⟨p, 0, none⟩), .pointer (some ⟨q, 0, none⟩)] w fun e w' => e = .returned (.int .i64 (icmp (sI xn XN * (YD : Int)) (sI yn YN * (XD : Int)))) ∧ Below w.heap.size w w' := by
  obtain ⟨sx, tx, nx, mx, hp1, hp2, hp3, hp4, hp5, hp6⟩ := hp
  obtain ⟨sy, ty, ny, my, hq1, hq2, hq3', hq4, hq5, hq6⟩ := hq
  have lp := (Array.getElem?_eq_some_iff.1 hp1).1
  have lq := (Array.getElem?_eq_some_iff.1 hq1).1
  have hXD := nw_val hp4.1 hp5
  have hYD := nw_val hq4.1 hq5
  obtain ⟨w1, hw1⟩ : ∃ w1, w1 = ((w.alloc (.cells #[.bool false, .slice none 0 0] 212)).alloc (.cells #[.bool false, .slice none 0 0] 212)) := ⟨_, rfl⟩
  have hb1 : Below w.heap.size w w1 := by rw [hw1]; exact ((Below.refl _ _).alloc (Nat.le_refl _) _).alloc (by simp) _
  have hs1 : w1.heap.size = w.heap.size + 2 := by rw [hw1]; simp
  have ha1 : w1.heap[w.heap.size]? = some (.cells #[.bool false, .slice none 0 0] 212 (0, 0)) := by rw [hw1]; exact heap2_0 _ _ _
  have hbb1 : w1.heap[w.heap.size + 1]? = some (.cells #[.bool false, .slice none 0 0] 212 (0, 0)) := by rw [hw1]; exact heap2_1 _ _ _
  obtain ⟨w2, hw2⟩ : ∃ w2, w2 = w1.alloc (.cells #[.pointer none] 318) := ⟨_, rfl⟩
  have hb12 : Below w1.heap.size w1 w2 := by rw [hw2]; exact (Below.refl _ _).alloc (Nat.le_refl _) _
  have hs2 : w2.heap.size = w.heap.size + 3 := by rw [hw2]; simp; omega
  have hst2 : w2.heap[w.heap.size + 2]? = some (.cells #[.pointer none] 318 (0, 0)) := by rw [hw2, ← hs1]; exact heap_alloc_new _ _
  have ha2 := (hb12.block _ (by omega)).trans ha1
  have hbb2 := (hb12.block _ (by omega)).trans hbb1
  have hb2 : Below w.heap.size w w2 := hb1.trans (hb12.mono hb1.size)
  have hp1' := (hb2.block p lp).trans hp1
  have hq1' := (hb2.block q lq).trans hq1
  have py3 := (cell_of_row w2 _ 3 _ _ (0, 0) hq1').trans rfl
  have HGS := Lib.hid (getStack_any w1)
  rw [← hw2] at HGS
  have HSC1 := Lib.hid (scaleDenom_any w.heap.size p 0 307 nx my XN YD (some ⟨w.heap.size + 2, 0, none⟩) xn _ sx ty w2.drew ha2 hp1' (by omega) rfl rfl (hp2.below hb2.drew) (hq4.below hb2.drew) hq5 hp3 (by omega) (.inr hq6) (hk.below hb2.drew))
  have HW1 := Lib.hid hw1; have HS1 := Lib.hid hs1; have HB2 := Lib.hid hb2; have HBB2 := Lib.hid hbb2; have HST2 := Lib.hid hst2; have HP1 := Lib.hid hp1'; have HQ1 := Lib.hid hq1'; have HS2 := Lib.hid hs2; have HK := Lib.hid hk
  have HX := Lib.hid (And.intro hp4 (And.intro hq2 (And.intro hx hy)))
  obtain ⟨ta, tc, rfl⟩ := hq4.shape
  obtain ⟨ua, uc, rfl⟩ := hp4.shape
  clear hp1 hp2 hp4 hq1 hq2 hq4 hw1 hb1 hs1 ha1 hbb1 hw2 hb12 hst2 ha2 hbb2 hp1' hq1' hb2 hk hx hy
  go_enter_defers Tryz.func165, Tryz.ntmps165
  go_wp2_with fail
  rw [← HW1.out]
  refine HGS.out.mono ?_
  rintro e w2' ⟨rfl, hw⟩
  obtain rfl := hw.symm
  rw [HS1.out]
  go_wp2_with fail
  refine wp_region_noPanic ?_
  go_region_law (first | (go_simp; go_at_call 172; refine HSC1.out.mono ?_; rintro e w3 ⟨rfl, ⟨s3, l3, hh3, hw3⟩, hch3⟩; have HH3 := Lib.hid hh3; have HW3 := Lib.hid hw3; have HCH3 := Lib.hid hch3; clear hh3 hw3 hch3))
  all_goals refine NoPanic.normal ?_
  all_goals (
    have hs2 := HS2.out
    have hb23 : Below w.heap.size w w3 := Chg.below HB2.out.drew (by show w.heap.size ≤ w2.heap.size; omega) HCH3.out (Nat.le_refl _)
    have hsz3 : w.heap.size + 3 ≤ w3.heap.size := by have h := HCH3.out.size; have h9 : w2.drew.heap.size = w2.heap.size := rfl; omega
    have hp3 := (HCH3.out.block p (by show p < w2.heap.size; omega) (by omega)).trans HP1.out
    have hq3 := (HCH3.out.block q (by show q < w2.heap.size; omega) (by omega)).trans HQ1.out
    have hbb3 := (HCH3.out.block (w.heap.size + 1) (by show w.heap.size + 1 < w2.heap.size; omega) (by omega)).trans HBB2.out
    have hst3 := (HCH3.out.block (w.heap.size + 2) (by show w.heap.size + 2 < w2.heap.size; omega) (by omega)).trans HST2.out
    have px3 := (cell_of_row w3 _ 3 _ _ (0, 0) hp3).trans rfl
    obtain ⟨hpd, hqn, hx, hy⟩ := HX.out
    have HSC2 := Lib.hid (scaleDenom_any (w.heap.size + 1) q 0 307 ny mx YN XD (some ⟨w.heap.size + 2, 0, none⟩) yn _ sy _ w3.drew hbb3 hq3 (by omega) rfl rfl (hqn.below hb23.drew) (hpd.below hb23.drew) hp5 hq3' (by omega) (.inr hp6) (HK.out.below hb23.drew))
    have HBX := Lib.hid hbb3; have HB23 := Lib.hid hb23; have HST3 := Lib.hid hst3; have HSZ3 := Lib.hid hsz3
    clear hs2 hb23 hsz3 hp3 hq3 hbb3 hst3 hpd hqn hx hy
    go_wp2_with fail
    refine wp_region_noPanic ?_
    go_region_law (first | (go_simp; go_at_call 172; refine HSC2.out.mono ?_; rintro e w4 ⟨rfl, ⟨s4, l4, hh4, hw4⟩, hch4⟩; have HH4 := Lib.hid hh4; have HW4 := Lib.hid hw4; have HCH4 := Lib.hid hch4; clear hh4 hw4 hch4))
    all_goals refine NoPanic.normal ?_
    all_goals (
      have hsz3 := HSZ3.out
      have hb24 : Below w.heap.size w w4 := Chg.below HB23.out.drew (by show w.heap.size ≤ w3.heap.size; omega) HCH4.out (by omega)
      have hh3 := (HCH4.out.block w.heap.size (by show w.heap.size < w3.heap.size; omega) (by omega)).trans HH3.out
      have hst4 := (HCH4.out.block (w.heap.size + 2) (by show w.heap.size + 2 < w3.heap.size; omega) (by omega)).trans HST3.out
      have hw3' : Words w4 s3 l3 (XN * YD) := by
        refine ⟨HW3.out.1, HW3.out.2.1, ?_⟩
        rcases HW3.out.2.2 with h | ⟨h0, g, c0, c, rfl, hg, hc⟩
        · exact .inl h
        · refine .inr ⟨h0, g, c0, c, rfl, Nat.lt_of_lt_of_le hg HCH4.out.size, fun i hi => ?_⟩
          have hgb : g ≠ w.heap.size + 1 := fun e => by
            have k1 := hc i hi
            rw [e] at k1
            have k2 := (cell_of_row w3 (w.heap.size + 1) (c0 + i) _ _ (0, 0) (show w3.heap[w.heap.size + 1]? = _ from HBX.out)).symm.trans k1
            rcases (show c0 + i = 0 ∨ c0 + i = 1 ∨ 2 ≤ c0 + i by omega) with h | h | h
            · rw [h] at k2; simp at k2
            · rw [h] at k2; simp at k2
            · rw [Array.getElem?_eq_none (by simpa using h)] at k2; simp at k2
          exact (HCH4.out.cell (p := ⟨g, c0 + i, none⟩) (show g < w3.heap.size from hg) hgb).trans (hc i hi)
      have hx' : xn = true → 0 < XN * YD := fun h => Nat.mul_pos (HX.out.2.2.1 h) hYD
      have hy' : yn = true → 0 < YN * XD := fun h => Nat.mul_pos (HX.out.2.2.2 h) hXD
      have hcm := Cmp_any w.heap.size 0 (w.heap.size + 1) 0 212 212 l3 l4 (XN * YD) (YN * XD) xn yn _ _ s3 s4 w4 hh3 HH4.out (by omega) rfl rfl rfl rfl hw3' HW4.out hx' hy'
      rw [Num.sI_mul, Num.sI_mul] at hcm
      have HCM := Lib.hid hcm
      have HB24 := Lib.hid hb24; have HST4 := Lib.hid hst4
      clear hb24 hh3 hst4 hw3' hx' hy' hcm hsz3
      go_wp2_with fail
      refine HCM.out.mono ?_
      rintro e w5 ⟨rfl, kk, hw5⟩
      have HW5 := Lib.hid hw5
      clear hw5
      go_wp2
      refine leaves_cons (f := 171) (args := #[.pointer (some ⟨w.heap.size + 2, 0, none⟩)]) (by simp) (by simp [go_sem]) ?_
      refine (free_deferred ⟨w.heap.size + 2, 0, none⟩ .returning _ ?_).mono ?_
      · rw [HW5.out]
        show w4.cell? _ = _
        exact (cell_of_row _ _ 0 _ _ (0, 0) HST4.out).trans rfl
      rintro e u' w'' ⟨rfl, rfl, rfl⟩
      refine ⟨_, results_tmp rfl _ _ _, rfl, ?_⟩
      rw [HW5.out]
      exact below_drewN HB24.out))
end Go.Proofs.YtpcleebnfgnhdaaGreatDoor

set_option linter.unusedVariables false
set_option linter.unusedSimpArgs false
namespace Go.Proofs.YtpcleebnfgnhdaaGreatDoor
open Go.RowKit
open Num

/-- SetInt64 of a small number into a new Int -/
theorem SetInt64_own (b o : Nat) (z : Int) (cz : Array Value) (tz : Nat) (zn : Bool) (w : World) (h1 : -2147483648 ≤ z) (h2 : z ≤ 2147483647)
    (hz : w.heap[b]? = some (.cells cz tz (0, 0))) (z0 : cz[o]? = some (.bool zn)) (z1 : cz[o + 1]? = some (.slice none 0 0)) :
    Calls Tryz.prog 176 #[.pointer (some ⟨b, o, none⟩), .int .i64 z] w fun e w' => e = .returned (.pointer (some ⟨b, o, none⟩)) ∧ (∃ s n, w'.heap[b]? = some (.cells ((cz.setIfInBounds (o + 1) s).setIfInBounds o (.bool (decide (z < 0)))) tz (0, 0)) ∧ Words w' s n z.natAbs ∧ n ≤ 1) ∧ Chg b w w' := by
  have hz0 : w.cell? ⟨b, o, none⟩ = some (.bool zn) := (cell_of_row w b o cz tz (0, 0) hz).trans z0
  have hz1 : w.cell? ⟨b, o + 1, none⟩ = some (.slice none 0 0) := (cell_of_row w b (o + 1) cz tz (0, 0) hz).trans z1
  have hbl := (Array.getElem?_eq_some_iff.1 hz).1
  have hf : ∀ i, w.frozen? ⟨b, i, none⟩ = false := fun i => by simp [World.frozen?, hz]
  have HZ := Lib.hid hz; clear hz
  by_cases h0 : z = 0
  · subst h0
    go_enter Tryz.func176, Tryz.ntmps176
    go_wp2_with fail
    refine (setUint64_zero _).mono ?_
    rintro e w2 ⟨rfl, rfl⟩
    go_wp2
    go_ret
    exact ⟨rfl, ⟨.slice none 0 0, 0, set1 (set1 HZ.out), ⟨⟨by simp, fun h => absurd h (by omega)⟩, by omega, .inl ⟨rfl, none, 0, rfl⟩⟩, by omega⟩, ((Chg.refl _ _).set _ _).set _ _⟩
  · obtain ⟨V, hV⟩ : ∃ V, V = z.natAbs := ⟨_, rfl⟩
    have hV0 : 0 < V := by omega
    have hVl : V ≤ 2147483648 := by omega
    rw [← hV]
    obtain ⟨ng, hng⟩ : ∃ ng, ng = decide (z < 0) := ⟨_, rfl⟩
    rw [← hng]
    have hcase : (z < 0 ∧ ng = true ∧ -z = (V : Int)) ∨ (¬ z < 0 ∧ ng = false ∧ z = (V : Int)) := by
      by_cases h : z < 0
      · left; exact ⟨h, by rw [hng]; simp [h], by omega⟩
      · right; exact ⟨h, by rw [hng]; simp [h], by omega⟩
    clear hV hng
    have HSU := Lib.hid (fun W : World => setUint64_any V W hV0 (by omega))
    have hfin : ∀ w2 : World, ∀ f : Nat → Value, Below w.heap.size w w2 → Row w2 w.heap.size 246 1 f → f 0 = .int .u64 (V : Int) → ∀ bb : Bool, (∃ s n, ((w2.setCell ⟨b, o + 1, none⟩ (.slice (some ⟨w.heap.size, 0, none⟩) 1 1)).setCell ⟨b, o, none⟩ (.bool bb)).heap[b]? = some (.cells ((cz.setIfInBounds (o + 1) s).setIfInBounds o (.bool bb)) tz (0, 0)) ∧ Words ((w2.setCell ⟨b, o + 1, none⟩ (.slice (some ⟨w.heap.size, 0, none⟩) 1 1)).setCell ⟨b, o, none⟩ (.bool bb)) s n V ∧ n ≤ 1) ∧ Chg b w ((w2.setCell ⟨b, o + 1, none⟩ (.slice (some ⟨w.heap.size, 0, none⟩) 1 1)).setCell ⟨b, o, none⟩ (.bool bb)) := by
      intro w2 f hb hr hf0 bb
      refine ⟨⟨_, 1, set1 (set1 ((hb.block b hbl).trans HZ.out)), words_row ((hr.far (by show w.heap.size ≠ b; omega) _).far (by show w.heap.size ≠ b; omega) _) (fun i hi => ?_) (nw_word hV0 (by omega)) (by omega) (by omega) (by omega), by omega⟩, ((Chg.of_below hb).set _ _).set _ _⟩
      obtain rfl : i = 0 := by omega
      rw [hf0]
      have : wd V 0 = V := by unfold wd; simp; omega
      rw [this]
    have HFIN := Lib.hid hfin
    clear hfin
    rcases hcase with ⟨c1, rfl, c2⟩ | ⟨c1, rfl, c2⟩
    all_goals (
      go_enter Tryz.func176, Tryz.ntmps176
      go_wp2_with fail
      refine (HSU.out _).mono ?_
      rintro e w2 ⟨g, c, hg, rfl, rfl, hb2, hsz, f, hr2, hf2⟩
      have q0 : w2.cell? ⟨b, o, none⟩ = some (.bool zn) := (hb2.cell (p := ⟨b, o, none⟩) hbl).trans hz0
      have q1 : w2.cell? ⟨b, o + 1, none⟩ = some (.slice none 0 0) := (hb2.cell (p := ⟨b, o + 1, none⟩) hbl).trans hz1
      have f2 : ∀ i, w2.frozen? ⟨b, i, none⟩ = false := fun i => (hb2.frozen (p := ⟨b, i, none⟩) hbl).trans (hf i)
      have HB2 := Lib.hid hb2; have HR2 := Lib.hid hr2; have HF2 := Lib.hid hf2; have HG := Lib.hid hg
      clear hb2 hr2 hf2 hg hsz
      go_wp2
      go_ret
      obtain rfl : g = w.heap.size := HG.out
      exact ⟨rfl, HFIN.out w2 f HB2.out HR2.out HF2.out _⟩)
theorem below_alloc (w : World) (O : Obj) : Below w.heap.size w (w.alloc O) := (Below.refl _ _).alloc (Nat.le_refl _) _
theorem IntIs.sign {w : World} {base : Nat} {v : Value} {neg : Bool} {V : Nat} (h : IntIs w base v neg V) (hneg : neg = true → 0 < V) : True := trivial
theorem Words.far {w : World} {s : Value} {n V : Nat} (h : Words w s n V) {p : Addr} (hne : ∀ a k c, s = .slice (some a) k c → 0 < n → a.block ≠ p.block) (u : Value) : Words (w.setCell p u) s n V := by
  refine ⟨h.1, h.2.1, ?_⟩
  rcases h.2.2 with h2 | ⟨h0, g, o, c, rfl, hg, hc⟩
  · exact .inl h2
  · have hgp : g ≠ p.block := hne ⟨g, o, none⟩ n c rfl h0
    exact .inr ⟨h0, g, o, c, rfl, by simpa [World.setCell] using hg, fun i hi => (World.cell?_of_block (w := w) (a := ⟨g, o + i, none⟩) (Below.heap_setCell w p u g hgp)).trans (hc i hi)⟩

/-- what is left to do behind z.a's: z.b.abs is set to 1 -/
theorem ratOne_fin {rb n N : Nat} {neg : Bool} {s : Value} {w w1 w2 : World} {f : Nat → Value} (h1 : w1.heap[rb]? = some (.cells #[.bool neg, s, .bool false, .slice none 0 0] 307 (0, 0))) (hw : Words w1 s n N) (hn : n ≤ 1048576)
    (hne : ∀ a k c, s = .slice (some a) k c → 0 < n → a.block ≠ rb) (hc : Chg rb w w1) (hb : Below w1.heap.size w1 w2) (hr : Row w2 w1.heap.size 246 1 f) (hf : f 0 = .int .u64 1) :
    RatAt (w2.setCell ⟨rb, 3, none⟩ (.slice (some ⟨w1.heap.size, 0, none⟩) 1 1)) rb neg N 1 ∧ Chg rb w (w2.setCell ⟨rb, 3, none⟩ (.slice (some ⟨w1.heap.size, 0, none⟩) 1 1)) := by
  have l1 := (Array.getElem?_eq_some_iff.1 h1).1
  refine ⟨⟨s, _, n, 1, set1 (i := 3) (x := .slice (some ⟨w1.heap.size, 0, none⟩) 1 1) ((hb.block rb l1).trans h1), (hw.below hb).far hne _, hn, words_row (hr.far (by show w1.heap.size ≠ rb; omega) _) (fun i hi => ?_) (nw_word (by omega) (by omega)) (by omega) (by omega) (by omega), by omega, by omega⟩, (hc.trans (Chg.of_below hb)).set _ _⟩
  obtain rfl : i = 0 := by omega
  rw [hf]; rfl

theorem RatSetInt64_any (rb : Nat) (z : Int) (w : World) (h1 : -2147483648 ≤ z) (h2 : z ≤ 2147483647) (hz : w.heap[rb]? = some (.cells #[.bool false, .slice none 0 0, .bool false, .slice none 0 0] 307 (0, 0))) :
    Calls Tryz.prog 169 #[.pointer (some ⟨rb, 0, none⟩), .int .i64 z] w fun e w' => e = .returned (.pointer (some ⟨rb, 0, none⟩)) ∧ RatAt w' rb (decide (z < 0)) z.natAbs 1 ∧ Chg rb w w' := by
  have HS := Lib.hid (SetInt64_own rb 0 z _ _ false w h1 h2 hz rfl rfl)
  have lr := (Array.getElem?_eq_some_iff.1 hz).1
  clear hz
  go_enter Tryz.func169, Tryz.ntmps169
  go_wp2_with fail
  refine HS.out.mono ?_
  rintro e w2 ⟨rfl, ⟨s, n, hh, hw, hn⟩, hch⟩
  have hh2 : w2.heap[rb]? = some (.cells #[.bool (decide (z < 0)), s, .bool false, .slice none 0 0] 307 (0, 0)) := hh
  have y3 := (cell_of_row w2 _ 3 _ _ (0, 0) hh2).trans rfl
  have g1 : ∀ i, w2.frozen? ⟨rb, i, none⟩ = false := fun i => by simp [World.frozen?, hh2]
  have l2 := (Array.getElem?_eq_some_iff.1 hh2).1
  have HH := Lib.hid hh2; have HW := Lib.hid hw; have HCH := Lib.hid hch
  clear hh hh2 hw hch
  go_wp2_with fail
  refine (setWord_new 1 _ (by omega)).mono ?_
  rintro e w3 ⟨g, c, hg, rfl, rfl, hb3, _, f, hr3, hf3⟩
  have z3 := (hb3.cell (p := ⟨rb, 3, none⟩) l2).trans y3
  have g3 : ∀ i, w3.frozen? ⟨rb, i, none⟩ = false := fun i => (hb3.frozen (p := ⟨rb, i, none⟩) l2).trans (g1 i)
  have H3 := Lib.hid (And.intro hg (And.intro hb3 (And.intro hr3 hf3)))
  clear hg hb3 hr3 hf3
  go_wp2
  go_ret
  obtain ⟨rfl, hb3, hr3, hf3⟩ := H3.out
  refine ⟨rfl, ratOne_fin HH.out HW.out (by omega) (fun a k c e h0 => ?_) HCH.out hb3 hr3 hf3⟩
  rcases HW.out.2.2 with ⟨h, _⟩ | ⟨_, gg, p, cc, hs, hg, hc⟩
  · omega
  · rw [e] at hs
    injection hs with hs
    injection hs with hs
    subst hs
    intro e2
    have k1 := hc 0 h0
    have e3 : gg = rb := e2
    subst e3
    have k2 := (cell_of_row w2 gg (p + 0) _ _ (0, 0) HH.out).symm.trans k1
    rcases (show p + 0 = 0 ∨ p + 0 = 1 ∨ p + 0 = 2 ∨ p + 0 = 3 ∨ 4 ≤ p + 0 by omega) with h | h | h | h | h
    · rw [h] at k2; simp at k2
    · rw [h] at k2; simp [e] at k2
    · rw [h] at k2; simp at k2
    · rw [h] at k2; simp at k2
    · rw [Array.getElem?_eq_none (by simpa using h)] at k2; simp at k2

theorem RatSetInt_any (rb b g c n V : Nat) (neg : Bool) (f0 : Nat → Value) (w : World) (h0 : 0 < n) (hn : n ≤ 1048576) (hN : Nw n V)
    (hz : w.heap[rb]? = some (.cells #[.bool false, .slice none 0 0, .bool false, .slice none 0 0] 307 (0, 0)))
    (hx : w.heap[b]? = some (.cells #[.bool neg, .slice (some ⟨g, 0, none⟩) n c] 212 (0, 0))) (hne : rb ≠ b) (hnc : n ≤ c) (hr : Row w g 246 c f0) (hf : ∀ i, i < n → f0 i = .int .u64 (wd V i)) :
    Calls Tryz.prog 168 #[.pointer (some ⟨rb, 0, none⟩), .pointer (some ⟨b, 0, none⟩)] w fun e w' => e = .returned (.pointer (some ⟨rb, 0, none⟩)) ∧ RatAt w' rb neg V 1 ∧ Chg rb w w' := by
  have HS := Lib.hid (Int_Set_some rb 0 b 0 g 0 c n V _ _ _ _ false neg w hN.1 h0 (by omega) hr.lt hz hx rfl rfl rfl rfl hne (fun i hi => by rw [Nat.zero_add, hr.cell (by omega), hf i hi]))
  have lr := (Array.getElem?_eq_some_iff.1 hz).1
  have HN := Lib.hid hN
  clear hz hx hr hf hN
  go_enter Tryz.func168, Tryz.ntmps168
  go_wp2_with fail
  refine HS.out.mono ?_
  rintro e w2 ⟨rfl, s, hnew, hch, hh⟩
  have hh2 : w2.heap[rb]? = some (.cells #[.bool neg, s, .bool false, .slice none 0 0] 307 (0, 0)) := hh
  have y3 := (cell_of_row w2 _ 3 _ _ (0, 0) hh2).trans rfl
  have g1 : ∀ i, w2.frozen? ⟨rb, i, none⟩ = false := fun i => by simp [World.frozen?, hh2]
  have l2 := (Array.getElem?_eq_some_iff.1 hh2).1
  have HH := Lib.hid hh2; have HNEW := Lib.hid hnew; have HCH := Lib.hid hch
  clear hh hh2 hnew hch
  go_wp2_with fail
  refine (setWord_new 1 _ (by omega)).mono ?_
  rintro e w3 ⟨g', c', hg, rfl, rfl, hb3, _, f, hr3, hf3⟩
  have z3 := (hb3.cell (p := ⟨rb, 3, none⟩) l2).trans y3
  have g3 : ∀ i, w3.frozen? ⟨rb, i, none⟩ = false := fun i => (hb3.frozen (p := ⟨rb, i, none⟩) l2).trans (g1 i)
  have H3 := Lib.hid (And.intro hg (And.intro hb3 (And.intro hr3 hf3)))
  clear hg hb3 hr3 hf3
  go_wp2
  go_ret
  obtain ⟨rfl, hb3, hr3, hf3⟩ := H3.out
  refine ⟨rfl, ratOne_fin HH.out (HNEW.out.words HN.out (by omega)) hn (fun a k c e h0 => ?_) HCH.out hb3 hr3 hf3⟩
  rcases HNEW.out with ⟨h, _⟩ | ⟨_, _, gg, cc, ff, hs, hg, _⟩
  · omega
  · rw [e] at hs
    injection hs with hs
    injection hs with hs
    subst hs
    show gg ≠ rb
    omega

/-- an integer as a fraction -/
theorem intRational (v : Value) (base : Nat) (neg : Bool) (V : Nat) (w : World) (h : IntIs w base v neg V) (hneg : neg = true → 0 < V) (hn : ∀ n, Nw n V → n ≤ 1048576) :
    Calls Tryz.prog 164 #[v] w fun e w' => ∃ rb, e = .returned (.pointer (some ⟨rb, 0, none⟩)) ∧ w.heap.size ≤ rb ∧ RatAt w' rb neg V 1 ∧ Below w.heap.size w w' := by
  rcases h with ⟨hs, rfl⟩ | ⟨hs, b, s, n, g, c, f, rfl, hbb, hh, h0, hN, hnl, rfl, hg, hnc, hcl, hr, hf⟩
  · obtain ⟨z, hz⟩ : ∃ z : Int, z = (if neg then -(V : Int) else (V : Int)) := ⟨_, rfl⟩
    have hzr : -2147483648 ≤ z ∧ z ≤ 2147483647 ∧ decide (z < 0) = neg ∧ z.natAbs = V := by
      cases neg
      · simp [sm] at hs
        simp at hz
        subst hz
        refine ⟨by omega, by omega, by simp, by omega⟩
      · have hv := hneg rfl
        simp [sm] at hs
        simp at hz
        subst hz
        refine ⟨by omega, by omega, by simp; omega, by omega⟩
    rw [← hz]
    obtain ⟨hz1, hz2, hz3, hz4⟩ := hzr
    have HG := Lib.hid (fun W : World => get_any z none W)
    have HS := Lib.hid (fun W rb h => RatSetInt64_any rb z W hz1 hz2 h)
    rw [hz3, hz4] at HS
    clear hz hz3 hz4 hs
    go_enter Tryz.func164, Tryz.ntmps164
    go_wp2_with fail
    refine (HG.out _).mono ?_
    rintro e w2 ⟨rfl, hb2⟩
    have hb : Below w.heap.size w w2 := ((Below.refl _ _).alloc (Nat.le_refl _) _).trans (hb2.mono (by simp))
    have HB := Lib.hid hb
    clear hb2 hb
    go_wp2_with fail
    refine (HS.out _ w2.heap.size (heap_alloc_new w2 _)).mono ?_
    rintro e w3 ⟨rfl, hra, hch⟩
    have HR := Lib.hid hra; have HCH := Lib.hid hch
    clear hra hch
    go_wp2
    go_ret
    exact ⟨w2.heap.size, rfl, HB.out.size, HR.out, Chg.below (HB.out.alloc HB.out.size _) (by have := HB.out.size; simp; omega) HCH.out HB.out.size⟩
  · have HG := Lib.hid (fun W : World => get_any 0 (some ⟨b, 0, none⟩) W)
    have hbl := (Array.getElem?_eq_some_iff.1 hh).1
    have hgl := hr.lt
    have hn1 := hn n hN
    have HS := Lib.hid (fun (W : World) rb h h2 hne hrr => RatSetInt_any rb b g c n V neg f W h0 hn1 hN h h2 hne hnc hrr hf)
    have HH := Lib.hid hh; have HR := Lib.hid hr
    clear hh hr hf hN hn hs
    go_enter Tryz.func164, Tryz.ntmps164
    go_wp2_with fail
    refine (HG.out _).mono ?_
    rintro e w2 ⟨rfl, hb2⟩
    have hb : Below w.heap.size w w2 := ((Below.refl _ _).alloc (Nat.le_refl _) _).trans (hb2.mono (by simp))
    have HB := Lib.hid hb
    clear hb2 hb
    go_wp2_with fail
    have hb3 := below_alloc w2 (.cells #[.bool false, .slice none 0 0, .bool false, .slice none 0 0] 307)
    have hsz := HB.out.size
    refine (HS.out _ w2.heap.size (heap_alloc_new w2 _) ((hb3.block b (by omega)).trans ((HB.out.block b hbl).trans HH.out)) (by omega) ((HR.out.below HB.out hgl).below hb3 (by omega))).mono ?_
    rintro e w3 ⟨rfl, hra, hch⟩
    have HRA := Lib.hid hra; have HCH := Lib.hid hch
    clear hra hch hb3
    go_wp2
    go_ret
    exact ⟨w2.heap.size, rfl, HB.out.size, HRA.out, Chg.below (HB.out.alloc HB.out.size _) (by have := HB.out.size; simp; omega) HCH.out HB.out.size⟩

/-- a finite float as a fraction -/
theorem floatRational (B : Nat) (hB : B < 18446744073709551616) (hf : fexp B ≠ 2047) (w : World) :
    Calls Tryz.prog 166 #[.float .f64 B] w fun e w' => ∃ rb neg N D, e = .returned (.pointer (some ⟨rb, 0, none⟩)) ∧ w.heap.size ≤ rb ∧ RatAt w' rb neg N D ∧ (neg = true → 0 < N) ∧ (∀ x : Int, icmp (x * (D : Int)) (sI neg N) = fcmp x B) ∧ Below w.heap.size w w' := by
  have HS := Lib.hid (SetFloat64_any w.heap.size B hB hf _ (heap_alloc_new w (.cells #[.bool false, .slice none 0 0, .bool false, .slice none 0 0] 307)))
  have hb0 : Below w.heap.size w (w.alloc (.cells #[.bool false, .slice none 0 0, .bool false, .slice none 0 0] 307)) := (Below.refl _ _).alloc (Nat.le_refl _) _
  have HB0 := Lib.hid hb0
  clear hb0
  go_enter Tryz.func166, Tryz.ntmps166
  go_wp2_with fail
  refine HS.out.mono ?_
  rintro e w2 ⟨rfl, hh, hch⟩
  have HH := Lib.hid hh; have HCH := Lib.hid hch
  clear hh hch
  go_wp2
  go_ret
  obtain ⟨neg, N, D, h1, h2, h3⟩ := HH.out
  exact ⟨w.heap.size, neg, N, D, rfl, Nat.le_refl _, h1, h2, h3, Chg.below HB0.out HB0.out.size HCH.out (Nat.le_refl _)⟩
end Go.Proofs.YtpcleebnfgnhdaaGreatDoor

import Derived.Test.YtpcleebnfgnhdaaGreatDoorGz12
import Derived.Test.YtpcleebnfgnhdaaGreatDoorGz29
import Derived.Test.YtpcleebnfgnhdaaGreatDoorGz5
import Derived.Test.YtpcleebnfgnhdaaGreatDoorGz1
import Derived.ChangeSame
import Derived.ChangeSlices
import Derived.WideShapes
import Derived.KernelRfl
import Derived.OpenShut
import Derived.Deep.Fields23
/- Walks: spec.turn; spec.Hashable. -/
set_option linter.unusedVariables false
set_option linter.unusedSimpArgs false
namespace Go.Proofs.YtpcleebnfgnhdaaGreatDoor
open Go.RowKit
open Num

theorem turn_num (x : Int) (n : Nat) (hn : 0 < n) (hn2 : n ≤ 1000000) : ∃ k : Nat, k < n ∧ (wrap64 (x.tmod n + n)).tmod n = (k : Int) := by
  have h1 : x.tmod n < n := Int.tmod_lt_of_pos x (by omega)
  have h2 : -(n : Int) < x.tmod n := Int.lt_tmod_of_pos x (by omega)
  obtain ⟨y, hy⟩ : ∃ y, y = x.tmod n := ⟨_, rfl⟩
  rw [← hy] at h1 h2 ⊢
  rw [IntWalk.wrap64_in (y + n) (by omega), Int.tmod_eq_emod_of_nonneg (by omega)]
  have h3 : 0 ≤ (y + n) % (n : Int) := Int.emod_nonneg _ (by omega)
  have h4 : (y + n) % (n : Int) < n := Int.emod_lt_of_pos _ (by omega)
  exact ⟨((y + n) % (n : Int)).toNat, by omega, by omega⟩

theorem turn_any (x : Int) (n : Nat) (w : World) (hn : 0 < n) (hn2 : n ≤ 1000000) :
    Calls Tryz.prog 16 #[.int .i64 x, .int .i64 n] w fun e w' => ∃ k : Nat, e = .returned (.int .i64 k) ∧ k < n ∧ w' = w := by
  have h0 : ((n : Int) == 0) = false := by simp; omega
  obtain ⟨k, hk, e⟩ := turn_num x n hn hn2
  go_enter Tryz.func16, Tryz.ntmps16
  go_wp2

  go_ret
  exact ⟨k, by first | rfl | simp [e], hk, rfl⟩

/-- a node of a graph that came in -/
def RawNd (w : World) (v : Value) : Prop := ∃ k n a m c b s a2 m2 c2, v = sixV k n a m c b s a2 m2 c2 ∧ (-9223372036854775808 ≤ k ∧ k ≤ 9223372036854775807) ∧ (0 ≤ b ∧ b < 18446744073709551616) ∧ s.size ≤ 9223372036854775807 ∧ m ≤ 9223372036854775807 ∧ m2 ≤ 9223372036854775807 ∧ m ≤ c ∧ m2 ≤ c2 ∧
  (∃ V, BytAt w (.slice a m c) m V) ∧ (m2 = 0 ∨ ∃ g p, a2 = some ⟨g, p, none⟩ ∧ g < w.heap.size ∧ ∀ i, i < m2 → ∃ z : Int, w.cell? ⟨g, p + i, none⟩ = some (.int .i64 z))
/-- a graph's nodes that came in -/
def RawNds (w : World) (v : Value) : Prop := ∃ a m c, v = .slice a m c ∧ m ≤ 9223372036854775807 ∧ m ≤ c ∧ (m = 0 ∨ ∃ g p, a = some ⟨g, p, none⟩ ∧ g < w.heap.size ∧ ∀ i, i < m → ∃ u, V6 w g (p + i * 6) u ∧ RawNd w u)
theorem RawNd.below {w w' : World} {v : Value} (h : RawNd w v) (hb : Below w.heap.size w w') : RawNd w' v := by
  obtain ⟨k, n, a, m, c, b, s, a2, m2, c2, e, h1, h2, h3, h4, h5, h6, h7, ⟨V, hV⟩, hk⟩ := h
  refine ⟨k, n, a, m, c, b, s, a2, m2, c2, e, h1, h2, h3, h4, h5, h6, h7, ⟨V, hV.below hb⟩, ?_⟩
  rcases hk with hk | ⟨g, p, e2, hg, hk⟩
  · exact .inl hk
  · exact .inr ⟨g, p, e2, Nat.lt_of_lt_of_le hg hb.size, fun i hi => by
      obtain ⟨z, hz⟩ := hk i hi
      exact ⟨z, (hb.cell (p := ⟨g, p + i, none⟩) hg).trans hz⟩⟩
theorem RawNds.below {w w' : World} {v : Value} (h : RawNds w v) (hb : Below w.heap.size w w') : RawNds w' v := by
  obtain ⟨a, m, c, e, h1, h2, hk⟩ := h
  refine ⟨a, m, c, e, h1, h2, ?_⟩
  rcases hk with hk | ⟨g, p, e2, hg, hk⟩
  · exact .inl hk
  · exact .inr ⟨g, p, e2, Nat.lt_of_lt_of_le hg hb.size, fun i hi => by
      obtain ⟨u, hu, hr⟩ := hk i hi
      exact ⟨u, hu.below hg hb, hr.below hb⟩⟩
theorem V6.six {w : World} {g p k n a m c b s a2 m2 c2} (h : V6 w g p (sixV k n a m c b s a2 m2 c2)) : Cells6 w g p k n a m c b s a2 m2 c2 := by
  obtain ⟨c0, c1, c2, c3, c4, c5, e, h0, h1, h2, h3, h4, h5⟩ := h
  injection e with e
  injection e with e
  injection e with q0 e; injection e with q1 e; injection e with q2 e; injection e with q3 e; injection e with q4 e; injection e with q5 e
  subst q0; subst q1; subst q2; subst q3; subst q4; subst q5
  exact ⟨h0, h1, h2, h3, h4, h5⟩

theorem zzFits10_any (k n a m c b s a2 m2 c2) (w : World) :
    Calls Tryz.prog 29 #[sixV k n a m c b s a2 m2 c2] w fun e w' => ∃ r, e = .returned (.bool r) ∧ Below w.heap.size w w' := by
  by_cases h1 : (2147483647 : Int) < (m : Int)
  · go_enter Tryz.func29, Tryz.ntmps29
    go_wp2
    go_ret
    first | exact ⟨_, rfl, below_al0 _ _⟩ | exact ⟨by first | exact .inl rfl | exact .inr rfl, below_al0 _ _⟩
  · by_cases h2 : (2147483647 : Int) < (s.size : Int)
    · go_enter Tryz.func29, Tryz.ntmps29
      go_wp2
      go_ret
      first | exact ⟨_, rfl, below_al0 _ _⟩ | exact ⟨by first | exact .inl rfl | exact .inr rfl, below_al0 _ _⟩
    · by_cases h3 : (2147483647 : Int) < (m2 : Int)
      · go_enter Tryz.func29, Tryz.ntmps29
        go_wp2
        go_ret
        first | exact ⟨_, rfl, below_al0 _ _⟩ | exact ⟨by first | exact .inl rfl | exact .inr rfl, below_al0 _ _⟩
      · go_enter Tryz.func29, Tryz.ntmps29
        go_wp2
        go_ret
        first | exact ⟨_, rfl, below_al0 _ _⟩ | exact ⟨by first | exact .inl rfl | exact .inr rfl, below_al0 _ _⟩

set_option maxRecDepth 100000 in
set_option maxHeartbeats 2000000 in
theorem zzFits9_any (v : Value) (w : World) (h : RawNds w v) :
    Calls Tryz.prog 15 #[v] w fun e w' => ∃ r, e = .returned (.bool r) ∧ Below w.heap.size w w' := by
  obtain ⟨a, m, c, rfl, hm, hmc, hk⟩ := h
  by_cases h1 : (2147483647 : Int) < (m : Int)
  · clear hk
    go_enter Tryz.func15, Tryz.ntmps15
    go_wp2
    go_ret
    first | exact ⟨_, rfl, Below.refl _ _⟩ | exact ⟨by first | exact .inl rfl | exact .inr rfl, Below.refl _ _⟩
  · have HK := Lib.hid hk
    clear hk
    go_enter Tryz.func15, Tryz.ntmps15
    go_wp2
    go_loopw [10] (fun i wr => ∃ k : Nat, k ≤ m ∧ i = .int .i64 k ∧ Below w.heap.size w wr) (fun i _ => m - (intOf i).toNat)
    case atStart => exact ⟨0, by omega, rfl, Below.refl _ _⟩
    case round =>
      obtain ⟨k, hk, rfl, hb⟩ := hrel
      have HB := Lib.hid hb; clear hb
      by_cases he : k < m
      · have hlt : (k : Int) < (m : Int) := by omega
        rcases HK.out with h0 | ⟨g, p, rfl, hg, hkk⟩
        · omega
        · obtain ⟨u, hu, hr⟩ := hkk k he
          obtain ⟨k1, n1, a1, m1, c1, b1, s1, d1, o1, f1, rfl, _⟩ := hr
          obtain ⟨i0, i1, i2, i3, i4, i5⟩ := (hu.six).below HB.out hg
          have HF := Lib.hid (fun W => zzFits10_any k1 n1 a1 m1 c1 b1 s1 d1 o1 f1 W)
          clear hu hkk HK hg
          go_wp2_with fail
          refine (HF.out _).mono ?_
          rintro e w5 ⟨r, rfl, hb5⟩
          have HB5 := Lib.hid ((HB.out.alloc HB.out.size (.cells #[.int .i64 k1, .bool n1, .slice a1 m1 c1, .int .u64 b1, .string s1, .slice d1 o1 f1] 48)).trans (hb5.mono (Nat.le_trans HB.out.size (by simp))))
          clear hb5 i0 i1 i2 i3 i4 i5
          cases r
          · go_wp2
            go_ret
            first | exact ⟨_, rfl, HB5.out⟩ | exact ⟨by first | exact .inl rfl | exact .inr rfl, HB5.out⟩
          · go_wp2
            go_round
            case rel => exact ⟨k + 1, by omega, by go_num, HB5.out⟩
            case measure => simp [intOf]; omega
      · have hge : ¬ ((k : Int) < (m : Int)) := by omega
        go_wp2
        go_ret
        first | exact ⟨_, rfl, HB.out⟩ | exact ⟨by first | exact .inl rfl | exact .inr rfl, HB.out⟩

theorem zzFits8_any (v : Value) (r : Int) (w : World) (h : RawNds w v) :
    Calls Tryz.prog 5 #[.agg #[v, .int .i64 r]] w fun e w' => ∃ r, e = .returned (.bool r) ∧ Below w.heap.size w w' := by
  have hv := h
  obtain ⟨a, m, c, rfl, _⟩ := h
  have HF := Lib.hid (zzFits9_any _ (w.alloc (.cells #[.slice a m c, .int .i64 r] 24)) (hv.below (below_al0 _ _)))
  clear hv
  go_enter Tryz.func5, Tryz.ntmps5
  go_wp2_with fail
  refine HF.out.mono ?_
  rintro e w5 ⟨r, rfl, hb5⟩
  have HB5 := Lib.hid ((below_al0 w _).trans (hb5.mono (by simp)))
  clear hb5
  cases r
  · go_wp2
    go_ret
    first | exact ⟨_, rfl, HB5.out⟩ | exact ⟨by first | exact .inl rfl | exact .inr rfl, HB5.out⟩
  · go_wp2
    go_ret
    first | exact ⟨_, rfl, HB5.out⟩ | exact ⟨by first | exact .inl rfl | exact .inr rfl, HB5.out⟩

set_option maxRecDepth 100000 in
set_option maxHeartbeats 2000000 in
theorem Hashable_tup (d : Nat) (ks : Value) (l : List Tr) (w : World) (hl : l.length ≤ 16) (hk : KidsAt w (ValAt w d) ks l)
    (hH : ∀ u x W, x ∈ l → ValAt w d u x → Below w.heap.size w W → Calls Tryz.prog 10 #[u] W fun e w' => e = .returned (.bool (hashB d x)) ∧ Below W.heap.size W w') :
    Calls Tryz.prog 10 #[valSix 7 0 ⟨#[]⟩ ks] w fun e w' => e = .returned (.bool (hashB (d + 1) (.tup l))) ∧ Below w.heap.size w w' := by
  obtain ⟨sa, sc, rfl⟩ := hk.shape
  obtain ⟨R, hR⟩ : ∃ R, R = hashB (d + 1) (.tup l) := ⟨_, rfl⟩
  rw [← hR]
  have HR := Lib.hid (hR.trans (show hashB (d + 1) (.tup l) = l.all (hashB d) from rfl))
  obtain ⟨n, hnn⟩ : ∃ n, n = l.length := ⟨_, rfl⟩
  have HNN := Lib.hid hnn; have HS := Lib.hid hk; have HH := Lib.hid hH
  obtain ⟨w1, hw1⟩ : ∃ w1, w1 = w.alloc (sixO 7 false none 0 0 0 ⟨#[]⟩ sa l.length sc) := ⟨_, rfl⟩
  have HB1 := Lib.hid (show Below w.heap.size w w1 by rw [hw1]; exact below_al0 _ _)
  have HR0 := Lib.hid (show w1.heap[w.heap.size]? = some (sixO 7 false none 0 0 0 ⟨#[]⟩ sa l.length sc) by rw [hw1]; exact heap_alloc_new _ _)
  have HW1 := Lib.hid hw1
  rw [← hnn] at hl HR0 HW1 ⊢
  obtain ⟨x0, x1, x2, x3, x4, x5⟩ := box6 HR0.out (Below.refl _ _)
  clear hk hH hR hnn hw1
  go_enter Tryz.func10, Tryz.ntmps10
  go_wp2_with fail
  rw [← HW1.out]
  go_wp2
  go_loopw [3] (fun i wr => ∃ k : Nat, k ≤ n ∧ i = .int .i64 k ∧ Below w1.heap.size w1 wr ∧ Hid (∀ j (a : j < l.length), j < k → hashB d l[j] = true)) (fun i _ => n - (intOf i).toNat)
  case atStart => exact ⟨0, by omega, rfl, Below.refl _ _, Lib.hid (fun j _ h => absurd h (by omega))⟩
  case round =>
    obtain ⟨k, hk, rfl, hb, HA⟩ := hrel
    have HB := Lib.hid hb; clear hb
    obtain ⟨y0, y1, y2, y3, y4, y5⟩ := box6 HR0.out HB.out
    clear x0 x1 x2 x3 x4 x5
    by_cases he : k < n
    · have hlt : (k : Int) < (n : Int) := by omega
      have hkl : k < l.length := by have := HNN.out; omega
      rcases HS.out with ⟨h0, _⟩ | ⟨h0, g, p, c, e, hc, hc2, hg, hkk⟩
      · rw [h0] at hkl; simp at hkl
      · injection e with q1 _ q3
        subst q1; subst q3
        have hg1 : g < w1.heap.size := Nat.lt_of_lt_of_le hg HB1.out.size
        obtain ⟨k1, n1, a1, m1, c1, b1, s1, d1, o1, f1, i0, i1, i2, i3, i4, i5, hpu⟩ := KidsAt.kid (c := sc) (n := 0) hkk (fun u T _ h => h.shape) k hkl
        obtain ⟨i0, i1, i2, i3, i4, i5⟩ := (Cells6.below ⟨i0, i1, i2, i3, i4, i5⟩ HB1.out hg).below HB.out hg1
        have HC := Lib.hid (HH.out _ l[k] wr (List.getElem_mem hkl) hpu (HB1.out.trans (HB.out.mono HB1.out.size)))
        obtain ⟨q, hq⟩ : ∃ q, q = hashB d l[k] := ⟨_, rfl⟩
        rw [← hq] at HC
        have HQ := Lib.hid hq
        have HKL := Lib.hid hkl
        clear hq hpu hkk hg hg1 h0
        go_wp2_with fail
        refine HC.out.mono ?_
        rintro e w5 ⟨rfl, hb5⟩
        have HB5 := Lib.hid (HB.out.trans (hb5.mono HB.out.size))
        clear hb5
        cases q
        · obtain rfl : R = false := by
            rw [HR.out]
            cases ha : l.all (hashB d) with
            | false => rfl
            | true =>
              have := (List.all_eq_true.1 ha) _ (List.getElem_mem HKL.out)
              rw [← HQ.out] at this
              cases this
          go_wp2
          go_ret
          exact ⟨rfl, HB1.out.trans (HB5.out.mono HB1.out.size)⟩
        · go_wp2
          go_round
          case rel => exact ⟨k + 1, by omega, by go_num, HB5.out, Lib.hid (fun j a hj => by
              by_cases e : j = k
              · subst e; exact HQ.out.symm
              · exact HA.out j a (by omega))⟩
          case measure => simp [intOf]; omega
    · have hge : ¬ ((k : Int) < (n : Int)) := by omega
      obtain rfl : R = true := by
        rw [HR.out, List.all_eq_true]
        intro x hx
        obtain ⟨i, hi, rfl⟩ := List.getElem_of_mem hx
        exact HA.out i hi (by have := HNN.out; omega)
      go_wp2
      go_ret
      exact ⟨rfl, HB1.out.trans (HB.out.mono HB1.out.size)⟩

/-- spec.Hashable -/
theorem Hashable_any : ∀ (d : Nat) (v : Value) (T : Tr) (w : World), ValAt w d v T → Slim d T → Calls Tryz.prog 10 #[v] w fun e w' => e = .returned (.bool (hashB d T)) ∧ Below w.heap.size w w'
  | 0, _, _, _, h, _ => h.elim
  | d + 1, v, T, w, h, hs => by
    obtain ⟨n, a, m, c, b, s, a2, c2, hv⟩ := h.kind
    by_cases h7 : T.kind = 7
    · cases T <;> first | (exfalso; simp [Tr.kind] at h7; done) | skip
      rename_i l
      obtain ⟨ks, rfl, hk⟩ := h
      clear hv
      have hl : l.length ≤ 16 := hs.1
      have HS := Lib.hid hs.2
      have hHH : ∀ u x W, x ∈ l → ValAt w d u x → Below w.heap.size w W → Calls Tryz.prog 10 #[u] W fun e w' => e = .returned (.bool (hashB d x)) ∧ Below W.heap.size W w' :=
        fun u x W hx hu hb => Hashable_any d u x W (hu.below hb) (HS.out x hx)
      exact Hashable_tup d ks l w hl hk hHH
    · have h7' : (T.kind == 7) = false := by simp [h7]
      have hq : hashB (d + 1) T = decide (T.kind < 6) := by
        cases T <;> first | rfl | (exfalso; exact h7 rfl)
      rw [hq, hv]
      obtain ⟨k, hk⟩ : ∃ k, k = T.kind := ⟨_, rfl⟩
      rw [← hk] at h7' ⊢
      obtain ⟨nk, hnk⟩ : ∃ nk, nk = T.kids.length := ⟨_, rfl⟩
      rw [← hnk]
      clear hq hv hnk hk h7 h hs
      go_enter Tryz.func10, Tryz.ntmps10
      go_wp2
      go_ret
      exact ⟨rfl, below_al0 _ _⟩
end Go.Proofs.YtpcleebnfgnhdaaGreatDoor

/- Walk: spec.IntVal; the bytes of a slice that came in. -/
set_option linter.unusedVariables false
set_option linter.unusedSimpArgs false
namespace Go.Proofs.YtpcleebnfgnhdaaGreatDoor
open Go.RowKit
open Num

theorem IntVal_any (neg : Bool) (s : Value) (n V : Nat) (w : World) (h : MagAt w s n V) (hn : n ≤ 1099511627776) :
    Calls Tryz.prog 40 #[.agg #[.bool neg, s]] w fun e w' => ∃ s', e = .returned (valInt neg s') ∧ NewMag w w' s' n V := by
  obtain ⟨sa, sc, rfl⟩ := h.shape
  have hb0 : Below w.heap.size w (((w.alloc (.cells #[.bool neg, .slice sa n sc] 84)).alloc (.cells #[.int .i64 0, .bool false, .slice none 0 0, .int .u64 0, .string ⟨#[]⟩, .slice none 0 0] 32)).alloc (.cells #[] 5)) := (((Below.refl _ _).alloc (Nat.le_refl _) _).alloc (by simp) _).alloc (by simp; omega) _
  have HM := Lib.hid h
  have HSRC := Lib.hid (show 0 < n → ∃ ad, sa = some ad ∧ ∀ j, j < n → (((w.alloc (.cells #[.bool neg, .slice sa n sc] 84)).alloc (.cells #[.int .i64 0, .bool false, .slice none 0 0, .int .u64 0, .string ⟨#[]⟩, .slice none 0 0] 32)).alloc (.cells #[] 5)).cell? (ad.add j) = some (.int .u8 (dg V (n - 1 - j))) from fun h0 => by
    rcases h.2 with ⟨h2, _⟩ | ⟨_, g, p, c, e, hnc, hg, hc⟩
    · omega
    · injection e with e _ _
      subst e
      exact ⟨_, rfl, fun j hj => by rw [add_at, hb0.cell (p := ⟨g, p + j, none⟩) hg]; exact hc j hj⟩)
  have HB := Lib.hid hb0
  have HQ0 := Lib.hid (heap3_1 w (.cells #[.bool neg, .slice sa n sc] 84) (.cells #[.int .i64 0, .bool false, .slice none 0 0, .int .u64 0, .string ⟨#[]⟩, .slice none 0 0] 32) (.cells #[] 5))
  have HQ1 := Lib.hid (heap3_0 w (.cells #[.bool neg, .slice sa n sc] 84) (.cells #[.int .i64 0, .bool false, .slice none 0 0, .int .u64 0, .string ⟨#[]⟩, .slice none 0 0] 32) (.cells #[] 5))
  clear h hb0
  go_enter Tryz.func40, Tryz.ntmps40
  go_wp2_with fail
  go_region_law (refine step_append_fresh rfl (.tmp 5) (.tmp 7) 28 rfl 5 (.int .u8 0) bytesUnder u8Info rfl ⟨w.heap.size + 2, 0, none⟩ (by simp [Act.eval, Act.put]) sa n sc (by simp [Act.eval, Act.put]) (fun j => .int .u8 (dg V (n - 1 - j))) (by omega) HSRC.out ?_; intro v' w' hfr; obtain ⟨a', c', rfl⟩ := hfr.out.shape; have q0 : Hid (w'.heap[w.heap.size + 1]? = some (.cells #[.int .i64 0, .bool false, .slice none 0 0, .int .u64 0, .string ⟨#[]⟩, .slice none 0 0] 32 (0, 0))) := (Lib.hid ((hfr.out.1.block _ (by simp <;> omega)).trans HQ0.out)); have f0 : ∀ i, w'.frozen? ⟨w.heap.size + 1, i, none⟩ = false := (fun i => by simp [World.frozen?, q0.out]); have c0 := (cell_of_row w' _ 0 _ _ (0, 0) q0.out).trans rfl; have c1 := (cell_of_row w' _ 1 _ _ (0, 0) q0.out).trans rfl; have c2 := (cell_of_row w' _ 2 _ _ (0, 0) q0.out).trans rfl; have c3 := (cell_of_row w' _ 3 _ _ (0, 0) q0.out).trans rfl; have c4 := (cell_of_row w' _ 4 _ _ (0, 0) q0.out).trans rfl; have c5 := (cell_of_row w' _ 5 _ _ (0, 0) q0.out).trans rfl; have p0 : Hid (w'.heap[w.heap.size]? = some (.cells #[.bool neg, .slice sa n sc] 84 (0, 0))) := (Lib.hid ((hfr.out.1.block _ (by simp <;> omega)).trans HQ1.out)); have d0 := (cell_of_row w' _ 0 _ _ (0, 0) p0.out).trans rfl; have d1 := (cell_of_row w' _ 1 _ _ (0, 0) p0.out).trans rfl)
  all_goals (
    go_wp2
    have hW := set1 (i := 5) (x := .slice none 0 0) (set1 (i := 4) (x := .string ⟨#[]⟩) (set1 (i := 3) (x := .int .u64 0) (set1 (i := 2) (x := .slice a' n c') (set1 (i := 1) (x := .bool neg) (set1 (i := 0) (x := .int .i64 2) q0.out)))))
    have e0 := (cell_of_row _ _ 0 _ _ (0, 0) hW).trans rfl
    have e1 := (cell_of_row _ _ 1 _ _ (0, 0) hW).trans rfl
    have e2 := (cell_of_row _ _ 2 _ _ (0, 0) hW).trans rfl
    have e3 := (cell_of_row _ _ 3 _ _ (0, 0) hW).trans rfl
    have e4 := (cell_of_row _ _ 4 _ _ (0, 0) hW).trans rfl
    have e5 := (cell_of_row _ _ 5 _ _ (0, 0) hW).trans rfl
    have hne : ∀ a k c, Value.slice a' n c' = .slice (some a) k c → 0 < n → a.block ≠ w.heap.size + 1 := fun a k c h h0 => by
      have := hfr.out.new a k c h h0; simp at this; omega
    refine bodyPost_ret (v := valInt neg (.slice a' n c')) (by simp [results, Tryz.results40, go_sem, e0, e1, e2, e3, e4, e5]) rfl ⟨_, rfl, ?_⟩
    exact ((((((hfr.out.mag (w0 := w) ⟨HB.out.os, HB.out.tape, HB.out.output, HB.out.size, HB.out.block⟩ HM.out.1 (fun i hi => rfl)).put (by omega) hne _).put (by omega) hne _).put (by omega) hne _).put (by omega) hne _).put (by omega) hne _).put (by omega) hne _)

/-- the bytes of a slice of integers that came in -/
theorem bytAt_of {w : World} {x : Addr} {len cap : Nat} {zs : List Int} (hl : len ≤ cap) (hz : zs.length = cap) (hc : ∀ i, i < zs.length → w.cell? (x.add i) = some (.int .u8 (zs.getD i 0))) (hw : ∀ n ∈ zs, (Lit.int .u8 n).wf = true) :
    ∃ V, BytAt w (.slice (some x) len cap) len V := by
  have hb : ∀ n ∈ zs, 0 ≤ n ∧ n ≤ 255 := fun n hn => by
    have := hw n hn
    simp [Lit.wf] at this
    exact this
  refine ⟨be ((zs.take len).map Int.toNat), ?_⟩
  have hll : ((zs.take len).map Int.toNat).length = len := by simp; omega
  have hlt : ∀ y ∈ (zs.take len).map Int.toNat, y < 256 := fun y hy => by
    obtain ⟨n, hn, rfl⟩ := List.mem_map.1 hy
    have := hb n (List.mem_of_mem_take hn)
    omega
  refine ⟨?_, ?_⟩
  · have := be_lt _ hlt
    rwa [hll] at this
  · by_cases h0 : len = 0
    · exact .inl ⟨h0, some x, cap, by rw [h0]⟩
    · have hc0 := hc 0 (by omega)
      have hsp : x.spot = none ∧ x.block < w.heap.size := by
        have e : x.add 0 = x := by simp [Addr.add]
        rw [e] at hc0
        unfold World.cell? at hc0
        split at hc0
        · rename_i h
          split at hc0
          · simp at hc0
          · rename_i hs
            exact ⟨by simpa using hs, (Array.getElem?_eq_some_iff.1 h).1⟩
        · simp at hc0
      obtain ⟨g, p, sp⟩ := x
      obtain ⟨rfl, hg⟩ : sp = none ∧ g < w.heap.size := hsp
      refine .inr ⟨by omega, g, p, cap, rfl, hl, hg, fun i hi => ?_⟩
      have hci := hc i (by omega)
      rw [add_at] at hci
      rw [hci]
      have hd := be_dg _ hlt i (by omega)
      rw [hll] at hd
      rw [hd]
      have hzi : zs[i]? = some zs[i] := List.getElem?_eq_getElem (by omega)
      have h2 := hb zs[i] (List.getElem_mem _)
      have e1 : zs.getD i 0 = zs[i] := by simp [List.getD, hzi]
      have e2 : ((zs.take len).map Int.toNat).getD i 0 = zs[i].toNat := by simp [List.getD, List.getElem?_take, hi, hzi]
      rw [e1, e2]
      congr 2
      omega

end Go.Proofs.YtpcleebnfgnhdaaGreatDoor

/- A graph that came in: out of the reader's form into what the walk is told. -/
set_option linter.unusedVariables false
namespace Go.Proofs.YtpcleebnfgnhdaaGreatDoor
open Go.RowKit Go.ChangeShapes Go.WideShapes Go.WideElems
open Num

theorem list_sixG {α : Type} {l : List α} (h : l.length = 6) : ∃ a b c d e f, l = [a, b, c, d, e, f] := by
  match l, h with
  | [a, b, c, d, e, f], _ => exact ⟨a, b, c, d, e, f, rfl⟩
theorem list_twoG {α : Type} {l : List α} (h : l.length = 2) : ∃ a b, l = [a, b] := by
  match l, h with
  | [a, b], _ => exact ⟨a, b, rfl⟩
theorem addPlainG (b o i : Nat) : (⟨b, o, none⟩ : Addr).add i = ⟨b, o + i, none⟩ := by
  unfold Addr.add
  split
  · rename_i h; simp_all
  · rfl
theorem cellsNode : Tryz.prog.cellsOf 48 = 6 := by kernel_rfl
theorem cellsGraph : Tryz.prog.cellsOf 24 = 2 := by kernel_rfl
theorem cells3G : Tryz.prog.cellsOf 3 = 1 := by kernel_rfl

theorem rawNd_of {H : Type} {enc : TypeId × Value → H} {W : World} {fuel : Nat} {cs : List Value} {x : DataW H × List MemPlace} (h : DataW.trod enc Tryz.prog W 0 (fun _ => true) true fuel 48 cs = some x) :
    ∃ k n a m c b s a2 m2 c2, cs = [.int .i64 k, .bool n, .slice a m c, .int .u64 b, .string s, .slice a2 m2 c2] ∧ RawNd W (sixV k n a m c b s a2 m2 c2) := by
  obtain ⟨xs, n0, rfl, rfl, hl, hlen, hf⟩ := DataW.trod_struct Tryz.underlying48 h
  rw [cellsNode] at hl
  obtain ⟨c0, c1, c2, c3, c4, c5, rfl⟩ := list_sixG hl
  obtain ⟨x0, x1, x2, x3, x4, x5, rfl⟩ := list_sixG (show xs.length = 6 from hlen)
  have z3 : Tryz.prog.cellsOf 3 = 1 := by kernel_rfl
  have z4 : Tryz.prog.cellsOf 4 = 1 := by kernel_rfl
  have z22 : Tryz.prog.cellsOf 28 = 1 := by kernel_rfl
  have z23 : Tryz.prog.cellsOf 29 = 1 := by kernel_rfl
  have z9 : Tryz.prog.cellsOf 9 = 1 := by kernel_rfl
  have z24 : Tryz.prog.cellsOf 46 = 1 := by kernel_rfl
  have h0 : DataW.trod enc Tryz.prog W 0 (fun _ => true) true n0 3 (List.take (Tryz.prog.cellsOf 3) (List.drop 0 [c0, c1, c2, c3, c4, c5])) = some x0 := hf 0 _ rfl
  rw [z3] at h0
  replace h0 : DataW.trod enc Tryz.prog W 0 (fun _ => true) true n0 3 [c0] = some x0 := h0
  have h1 : DataW.trod enc Tryz.prog W 0 (fun _ => true) true n0 4 (List.take (Tryz.prog.cellsOf 4) (List.drop 1 [c0, c1, c2, c3, c4, c5])) = some x1 := hf 1 _ rfl
  rw [z4] at h1
  replace h1 : DataW.trod enc Tryz.prog W 0 (fun _ => true) true n0 4 [c1] = some x1 := h1
  have h2 : DataW.trod enc Tryz.prog W 0 (fun _ => true) true n0 28 (List.take (Tryz.prog.cellsOf 28) (List.drop 2 [c0, c1, c2, c3, c4, c5])) = some x2 := hf 2 _ rfl
  rw [z22] at h2
  replace h2 : DataW.trod enc Tryz.prog W 0 (fun _ => true) true n0 28 [c2] = some x2 := h2
  have h3 : DataW.trod enc Tryz.prog W 0 (fun _ => true) true n0 29 (List.take (Tryz.prog.cellsOf 29) (List.drop 3 [c0, c1, c2, c3, c4, c5])) = some x3 := hf 3 _ rfl
  rw [z23] at h3
  replace h3 : DataW.trod enc Tryz.prog W 0 (fun _ => true) true n0 29 [c3] = some x3 := h3
  have h4 : DataW.trod enc Tryz.prog W 0 (fun _ => true) true n0 9 (List.take (Tryz.prog.cellsOf 9) (List.drop 4 [c0, c1, c2, c3, c4, c5])) = some x4 := hf 4 _ rfl
  rw [z9] at h4
  replace h4 : DataW.trod enc Tryz.prog W 0 (fun _ => true) true n0 9 [c4] = some x4 := h4
  have h5 : DataW.trod enc Tryz.prog W 0 (fun _ => true) true n0 46 (List.take (Tryz.prog.cellsOf 46) (List.drop 5 [c0, c1, c2, c3, c4, c5])) = some x5 := hf 5 _ rfl
  rw [z24] at h5
  replace h5 : DataW.trod enc Tryz.prog W 0 (fun _ => true) true n0 46 [c5] = some x5 := h5
  obtain ⟨k, e0, _, wk⟩ := DataW.trod_int Tryz.underlying3 h0
  obtain ⟨n, e1, _⟩ := DataW.trod_bool Tryz.underlying4 h1
  obtain ⟨b, e3, _, wb⟩ := DataW.trod_int Tryz.underlying29 h3
  obtain ⟨s, e4, _, ws⟩ := DataW.trod_string Tryz.underlying9 h4
  injection e0 with e0; injection e1 with e1; injection e3 with e3; injection e4 with e4
  subst e0; subst e1; subst e3; subst e4
  have hmax : maxLen = 9223372036854775807 := rfl
  have wk' : (-9223372036854775808 : Int) ≤ k ∧ k ≤ 9223372036854775807 := bounds_i64 wk
  have wb' : (0 : Int) ≤ b ∧ b < 18446744073709551616 := by
    have := bounds_u64 wb
    omega
  obtain ⟨a, m, c, e2, hmc, hmm, hV⟩ : ∃ a m c, c2 = .slice a m c ∧ m ≤ c ∧ m ≤ maxLen ∧ ∃ V, BytAt W (.slice a m c) m V := by
    rcases open_ints Tryz.underlying28 Tryz.underlying5 (by kernel_rfl) h2 with ⟨hcs, _⟩ | ⟨x, l, c, zs, hcs, _, hl, hm, hz, _, hcell, hwz⟩
    · injection hcs with hcs
      exact ⟨none, 0, 0, hcs, Nat.le_refl _, by omega, 0, by simp, .inl ⟨rfl, none, 0, rfl⟩⟩
    · injection hcs with hcs
      exact ⟨some x, l, c, hcs, hl, by omega, bytAt_of hl (by simpa using hz) hcell hwz⟩
  subst e2
  obtain ⟨a2, m2, c2, e5, hmc2, hmm2, hkk⟩ : ∃ a2 m2 c2, c5 = .slice a2 m2 c2 ∧ m2 ≤ c2 ∧ m2 ≤ maxLen ∧ (m2 = 0 ∨ ∃ g p, a2 = some ⟨g, p, none⟩ ∧ g < W.heap.size ∧ ∀ i, i < m2 → ∃ z : Int, W.cell? ⟨g, p + i, none⟩ = some (.int .i64 z)) := by
    rcases open_ints Tryz.underlying46 Tryz.underlying3 (by kernel_rfl) h5 with ⟨hcs, _⟩ | ⟨ad, l, c, zs, hcs, _, hl, hm, hz, _, hcell, hwz⟩
    · injection hcs with hcs
      exact ⟨none, 0, 0, hcs, Nat.le_refl _, by omega, .inl rfl⟩
    · injection hcs with hcs
      refine ⟨some ad, l, c, hcs, hl, by omega, ?_⟩
      by_cases h0 : l = 0
      · exact .inl h0
      · refine .inr ?_
        have hzl : zs.length = c := by simpa using hz
        obtain ⟨g, p, spot⟩ := ad
        have h := hcell 0 (by omega)
        have hs := World.cell?_spot h
        have hspot : spot = none := by simpa [Addr.add] using hs
        subst hspot
        have hg := World.block_lt_of_cell? W _ h
        refine ⟨g, p, rfl, by simpa [Addr.add] using hg, fun i hi => ?_⟩
        have h := hcell i (by omega)
        rw [addPlainG] at h
        exact ⟨_, h⟩
  subst e5
  exact ⟨k, n, a, m, c, b, s, a2, m2, c2, rfl, k, n, a, m, c, b, s, a2, m2, c2, rfl, wk', wb', by omega, by omega, by omega, hmc, hmc2, hV, hkk⟩

theorem rawG_of {H : Type} {enc : TypeId × Value → H} {W : World} (fuel : Nat) (cs : List Value) (x : DataW H × List MemPlace) (h : DataW.trod enc Tryz.prog W 0 (fun _ => true) true fuel 24 cs = some x) :
    ∃ gs root, cs = [gs, .int .i64 root] ∧ RawNds W gs ∧ (-9223372036854775808 ≤ root ∧ root ≤ 9223372036854775807) := by
  obtain ⟨xs, n0, rfl, rfl, hl, hlen, hf⟩ := DataW.trod_struct Tryz.underlying24 h
  rw [cellsGraph] at hl
  obtain ⟨c0, c1, rfl⟩ := list_twoG hl
  obtain ⟨x0, x1, rfl⟩ := list_twoG (show xs.length = 2 from hlen)
  have z3 : Tryz.prog.cellsOf 3 = 1 := by kernel_rfl
  have z22 : Tryz.prog.cellsOf 22 = 1 := by kernel_rfl
  have h0 : DataW.trod enc Tryz.prog W 0 (fun _ => true) true n0 22 (List.take (Tryz.prog.cellsOf 22) (List.drop 0 [c0, c1])) = some x0 := hf 0 _ rfl
  rw [z22] at h0
  replace h0 : DataW.trod enc Tryz.prog W 0 (fun _ => true) true n0 22 [c0] = some x0 := h0
  have h1 : DataW.trod enc Tryz.prog W 0 (fun _ => true) true n0 3 (List.take (Tryz.prog.cellsOf 3) (List.drop 1 [c0, c1])) = some x1 := hf 1 _ rfl
  rw [z3] at h1
  replace h1 : DataW.trod enc Tryz.prog W 0 (fun _ => true) true n0 3 [c1] = some x1 := h1
  obtain ⟨k, e1, _, wk⟩ := DataW.trod_int Tryz.underlying3 h1
  injection e1 with e1
  subst e1
  have hmax : maxLen = 9223372036854775807 := rfl
  refine ⟨c0, k, rfl, ?_, bounds_i64 wk⟩
  rcases DataW.trod_slice Tryz.underlying22 h0 with ⟨hcs, _⟩ | ⟨ad, len, cap, elems, rest, n1, hn, hcs, _, _, hl, hm, hlen, hel, _, _⟩
  · injection hcs with hcs
    exact ⟨none, 0, 0, hcs, by omega, Nat.le_refl _, .inl rfl⟩
  · injection hcs with hcs
    refine ⟨some ad, len, cap, hcs, by omega, hl, ?_⟩
    by_cases h0 : len = 0
    · exact .inl h0
    · refine .inr ?_
      have key : ∀ i, i < len → ∃ cs y, W.cells? 0 (ad.add (i * 6)) 6 = some cs ∧ DataW.trod enc Tryz.prog W 0 (fun _ => true) true n1 48 cs = some y := fun i hi => by
        have := hel i hi
        rw [List.getElem?_eq_getElem (by omega), cellsNode] at this
        cases hc : W.cells? 0 (ad.add (i * 6)) 6 with
        | none => rw [hc] at this; cases this
        | some cs => rw [hc] at this; exact ⟨cs, _, rfl, this⟩
      obtain ⟨g, p, spot⟩ := ad
      have hspot : spot = none ∧ g < W.heap.size := by
        obtain ⟨cs, y, hc, hy⟩ := key 0 (by omega)
        obtain ⟨_, hl6, hcell⟩ := World.cells?_some hc
        have h := hcell 0 (by omega)
        rw [List.getElem?_eq_getElem (by omega)] at h
        have hs := World.cell?_spot h
        refine ⟨by simpa [Addr.add] using hs, ?_⟩
        have := World.block_lt_of_cell? W _ h
        simpa [Addr.add] using this
      obtain ⟨rfl, hg⟩ := hspot
      refine ⟨g, p, rfl, hg, fun i hi => ?_⟩
      obtain ⟨cs, y, hc, hy⟩ := key i hi
      obtain ⟨k', n', a', m', c', b', s', d', o', f', rfl, hr⟩ := rawNd_of hy
      obtain ⟨_, _, hcell⟩ := World.cells?_some hc
      refine ⟨sixV k' n' a' m' c' b' s' d' o' f', ⟨_, _, _, _, _, _, rfl, ?_, ?_, ?_, ?_, ?_, ?_⟩, hr⟩
      · have h := hcell 0 (by omega); rw [addPlainG, addPlainG] at h; exact h
      · have h := hcell 1 (by omega); rw [addPlainG, addPlainG] at h; exact h
      · have h := hcell 2 (by omega); rw [addPlainG, addPlainG] at h; exact h
      · have h := hcell 3 (by omega); rw [addPlainG, addPlainG] at h; exact h
      · have h := hcell 4 (by omega); rw [addPlainG, addPlainG] at h; exact h
      · have h := hcell 5 (by omega); rw [addPlainG, addPlainG] at h; exact h
end Go.Proofs.YtpcleebnfgnhdaaGreatDoor

/- Walks: a hash that fails; a tuple's hash, of any elements. -/
set_option linter.unusedVariables false
set_option linter.unusedSimpArgs false
namespace Go.Proofs.YtpcleebnfgnhdaaGreatDoor
open Go.RowKit
open Num

theorem hash_of_lst (v : Value) (w : World) : (method 527 115 v "Hash").run Tryz.prog w = .ok (343, v) w := by kernel_rfl
theorem hash_of_dic (v : Value) (w : World) : (method 527 122 v "Hash").run Tryz.prog w = .ok (358, v) w := by kernel_rfl
theorem hash_of_set (v : Value) (w : World) : (method 527 124 v "Hash").run Tryz.prog w = .ok (367, v) w := by kernel_rfl
theorem enter_lst (a : Array Value) (w : World) : (callFunc 343 a).run Tryz.prog w = .ok (.enter 343 a) w := by kernel_rfl
theorem enter_dic (a : Array Value) (w : World) : (callFunc 358 a).run Tryz.prog w = .ok (.enter 358 a) w := by kernel_rfl
theorem enter_set (a : Array Value) (w : World) : (callFunc 367 a).run Tryz.prog w = .ok (.enter 367 a) w := by kernel_rfl

/-- a hash that fails -/
def NoHash (w : World) (e : Ending) (w' : World) : Prop := ∃ (h : Int) (t : TypeId) (u : Value), e = .returned (.tuple #[.int .u32 h, .iface t u]) ∧ Below w.heap.size w w'
theorem ListHash_any (b : Nat) (w : World) : Calls Tryz.prog 343 #[.pointer (some ⟨b, 0, none⟩)] w (NoHash w) := by
  go_enter Tryz.func343, Tryz.ntmps343
  go_wp2_with fail
  refine (errorsNew_any _ _).mono ?_
  rintro e w2 ⟨a, rfl, hb⟩
  have HB := Lib.hid hb; clear hb
  go_wp2
  go_ret2
  exact ⟨_, _, _, rfl, HB.out⟩
theorem DictHash_any (b : Nat) (w : World) : Calls Tryz.prog 358 #[.pointer (some ⟨b, 0, none⟩)] w (NoHash w) := by
  go_enter Tryz.func358, Tryz.ntmps358
  go_wp2_with fail
  refine (errorsNew_any _ _).mono ?_
  rintro e w2 ⟨a, rfl, hb⟩
  have HB := Lib.hid hb; clear hb
  go_wp2
  go_ret2
  exact ⟨_, _, _, rfl, HB.out⟩
theorem SetHash_any (b : Nat) (w : World) : Calls Tryz.prog 367 #[.pointer (some ⟨b, 0, none⟩)] w (NoHash w) := by
  go_enter Tryz.func367, Tryz.ntmps367
  go_wp2_with fail
  refine (errorsNew_any _ _).mono ?_
  rintro e w2 ⟨a, rfl, hb⟩
  have HB := Lib.hid hb; clear hb
  go_wp2
  go_ret2
  exact ⟨_, _, _, rfl, HB.out⟩

/-- what a hash answers: a number, or an error -/
def HashEnds (r : Bool) (w : World) (e : Ending) (w' : World) : Prop :=
  ∃ (h : Int) (er : Value), e = .returned (.tuple #[.int .u32 h, er]) ∧ (r = true → er = .nilIface) ∧ (r = false → ∃ t u, er = .iface t u) ∧ Below w.heap.size w w'
/-- a value's Hash, called through the interface, answers a number just if r -/
def HashCan (v : Value) (w : World) (r : Bool) : Prop :=
  ∃ t u f, v = .iface t u ∧ (∀ W : World, (method 527 t u "Hash").run Tryz.prog W = .ok (f, u) W) ∧ (∀ (a : Array Value) (W : World), (callFunc f a).run Tryz.prog W = .ok (.enter f a) W) ∧
    Calls Tryz.prog f #[u] w (HashEnds r w)
theorem NoHash.ends {w w' : World} {e : Ending} (h : NoHash w e w') : HashEnds false w e w' := by
  obtain ⟨h, t, u, rfl, hb⟩ := h
  exact ⟨h, _, rfl, fun h => (by cases h), fun _ => ⟨t, u, rfl⟩, hb⟩
theorem can_lst (b : Nat) (w : World) : HashCan (.iface 115 (.pointer (some ⟨b, 0, none⟩))) w false := ⟨_, _, _, rfl, fun W => hash_of_lst _ W, fun a W => enter_lst a W, (ListHash_any b w).mono fun e w' h => h.ends⟩
theorem can_dic (b : Nat) (w : World) : HashCan (.iface 122 (.pointer (some ⟨b, 0, none⟩))) w false := ⟨_, _, _, rfl, fun W => hash_of_dic _ W, fun a W => enter_dic a W, (DictHash_any b w).mono fun e w' h => h.ends⟩
theorem can_set (b : Nat) (w : World) : HashCan (.iface 124 (.pointer (some ⟨b, 0, none⟩))) w false := ⟨_, _, _, rfl, fun W => hash_of_set _ W, fun a W => enter_set a W, (SetHash_any b w).mono fun e w' h => h.ends⟩
theorem HashIs.can {v : Value} {w : World} {h : Nat} (hh : HashIs v w h) : HashCan v w true := by
  obtain ⟨t, u, f, e, h1, h2, h3⟩ := hh
  exact ⟨t, u, f, e, h1, h2, h3.mono fun e w' ⟨he, hb⟩ => ⟨_, _, he, fun _ => rfl, fun h => (by cases h), hb⟩⟩

set_option maxRecDepth 100000 in
set_option maxHeartbeats 1000000 in
/-- a tuple's hash, of any elements -/
theorem TupHash_any (a : Option Addr) (n c : Nat) (r : Nat → Bool) (w : World) (hn : n ≤ 1000)
    (hk : n = 0 ∨ ∃ g p, a = some ⟨g, p, none⟩ ∧ n ≤ c ∧ c ≤ 9223372036854775807 ∧ g < w.heap.size ∧ ∀ i, i < n → ∃ u, w.cell? ⟨g, p + i, none⟩ = some u ∧ ∀ W, Below w.heap.size w W → HashCan u W (r i)) :
    Calls Tryz.prog 351 #[.slice a n c] w (HashEnds ((List.range n).all r) w) := by
  obtain ⟨R, hR⟩ : ∃ R, R = (List.range n).all r := ⟨_, rfl⟩
  rw [← hR]
  have HR := Lib.hid hR
  have HK := Lib.hid hk
  clear hR hk
  go_enter Tryz.func351, Tryz.ntmps351
  go_wp2
  go_loopw [4, 5, 12] (fun x m i wr => ∃ (X M : Int) (k : Nat), k ≤ n ∧ x = .int .u32 X ∧ m = .int .u32 M ∧ i = .int .i64 k ∧ Below w.heap.size w wr ∧ Hid (∀ j, j < k → r j = true)) (fun _ _ i _ => n - (intOf i).toNat)
  case atStart => exact ⟨_, _, 0, by omega, rfl, rfl, rfl, Below.refl _ _, Lib.hid (fun j h => absurd h (by omega))⟩
  case round =>
    obtain ⟨X, M, k, hk, rfl, rfl, rfl, hb, HA⟩ := hrel
    have HB := Lib.hid hb; clear hb
    by_cases h1 : k = n
    · subst h1
      obtain rfl : R = true := by
        rw [HR.out, List.all_eq_true]
        intro j hj
        exact HA.out j (List.mem_range.1 hj)
      go_wp2
      go_ret2
      exact ⟨_, _, rfl, fun _ => rfl, fun h => (by cases h), HB.out⟩
    · have hkn : k < n := by omega
      have hlt : (k : Int) < (n : Int) := by omega
      rcases HK.out with h0 | ⟨g, p, rfl, hc, hc2, hg, hkk⟩
      · omega
      · obtain ⟨u, hu, hcan⟩ := hkk k hkn
        have hcell := (HB.out.cell (p := ⟨g, p + k, none⟩) hg).trans hu
        obtain ⟨t, u', f, rfl, hm, hen, hcall⟩ := hcan _ HB.out
        have HC := Lib.hid hcall
        obtain ⟨q, hq⟩ : ∃ q, q = r k := ⟨_, rfl⟩
        rw [← hq] at HC
        have HQ := Lib.hid hq; have HKN := Lib.hid hkn
        clear hcall hu hkk hcan hq h1 hg
        go_wp2_with fail
        refine HC.out.mono ?_
        rintro e w3 ⟨h, er, rfl, hy, hno, hb3⟩
        have HB3 := Lib.hid (HB.out.trans (hb3.mono HB.out.size))
        clear hb3
        cases q with
        | false =>
          obtain ⟨te, ue, rfl⟩ := hno rfl
          clear hy hno
          obtain rfl : R = false := by
            rw [HR.out]
            cases ha : (List.range n).all r with
            | false => rfl
            | true =>
              have := (List.all_eq_true.1 ha) k (List.mem_range.2 HKN.out)
              rw [← HQ.out] at this
              cases this
          go_wp2
          go_ret2
          exact ⟨_, _, rfl, fun h => (by cases h), fun _ => ⟨_, _, rfl⟩, HB3.out⟩
        | true =>
          obtain rfl := hy rfl
          clear hy hno
          go_wp2
          go_round
          case rel => exact ⟨_, _, k + 1, by omega, rfl, rfl, by go_num, HB3.out, Lib.hid (fun j hj => by
            by_cases e : j = k
            · subst e; exact HQ.out.symm
            · exact HA.out j (by omega))⟩
          case measure => simp [intOf]; omega
end Go.Proofs.YtpcleebnfgnhdaaGreatDoor

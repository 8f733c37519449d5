import Derived.Test.YtpcleebnfgnhdaaGreatDoorGz37
/- Walks: cleanDict. -/
set_option linter.unusedVariables false
set_option linter.unusedSimpArgs false
namespace Go.Proofs.YtpcleebnfgnhdaaGreatDoor
open Go.RowKit
open Num

theorem keysOf_snoc : ∀ (l : List Tr) (K t : Tr), l.length % 2 = 0 → keysOf (l ++ [K, t]) = keysOf l ++ [K]
  | [], K, t, _ => rfl
  | [a], K, t, h => by simp at h
  | a :: b :: l, K, t, h => by
    have : l.length % 2 = 0 := by simp at h; omega
    simp [keysOf, keysOf_snoc l K t this]
theorem keysOf_mem : ∀ (l : List Tr) (i : Nat) (h : i * 2 < l.length), l.length % 2 = 0 → l[i * 2] ∈ keysOf l
  | [], i, h, _ => absurd h (by simp)
  | [a], i, h, e => by simp at e
  | a :: b :: l, 0, h, e => by simp [keysOf]
  | a :: b :: l, i + 1, h, e => by
    have h2 : i * 2 < l.length := by simp at h; omega
    have := keysOf_mem l i h2 (by simp at e; omega)
    have e2 : (a :: b :: l)[(i + 1) * 2] = l[i * 2] := by simp [show (i + 1) * 2 = i * 2 + 1 + 1 by omega]
    rw [e2, keysOf]
    exact List.mem_cons_of_mem _ this
theorem keysOf_get : ∀ (l : List Tr) (y : Tr), y ∈ keysOf l → ∃ i, ∃ h : i * 2 < l.length, l[i * 2] = y
  | [], y, h => by simp [keysOf] at h
  | [a], y, h => by simp [keysOf] at h
  | a :: b :: l, y, h => by
    rcases List.mem_cons.1 (by simpa [keysOf] using h : y ∈ a :: keysOf l) with h | h
    · exact ⟨0, by simp, by simp [h]⟩
    · obtain ⟨i, hi, e⟩ := keysOf_get l y h
      exact ⟨i + 1, by simp; omega, by simp [show (i + 1) * 2 = i * 2 + 1 + 1 by omega, e]⟩
/-- what may stand in a dict -/
def DictOk (d : Nat) (ts : List Tr) : Prop := ts.length % 2 = 0 ∧ (∀ t ∈ ts, CleanT d t) ∧ (∀ k ∈ keysOf ts, KeyT d k ∧ Slim d k) ∧ Apart d (keysOf ts)

theorem DictOk.snoc {d : Nat} {ts : List Tr} {K t : Tr} (h : DictOk d ts) (hK : KeyT d K ∧ Slim d K ∧ CleanT d K) (ht : CleanT d t) (hn : ∀ i (h : i * 2 < ts.length), eqv d ts[i * 2] K = false) : DictOk d (ts ++ [K, t]) := by
  refine ⟨by have := h.1; simp; omega, fun x hx => ?_, fun x hx => ?_, ?_⟩
  · rcases List.mem_append.1 hx with h2 | h2
    · exact h.2.1 x h2
    · rcases List.mem_cons.1 h2 with rfl | h2
      · exact hK.2.2
      · obtain rfl : x = t := by simpa using h2
        exact ht
  · rw [keysOf_snoc _ _ _ h.1] at hx
    rcases List.mem_append.1 hx with h2 | h2
    · exact h.2.2.1 x h2
    · obtain rfl : x = K := by simpa using h2
      exact ⟨hK.1, hK.2.1⟩
  · rw [keysOf_snoc _ _ _ h.1]
    exact Apart.snoc h.2.2.2 (fun y hy => by
      obtain ⟨i, hi, rfl⟩ := keysOf_get _ _ hy
      exact hn i hi)

set_option maxRecDepth 100000 in
set_option maxHeartbeats 8000000 in
theorem cleanDict_any (k n a m c b s a2 m2 c2) (deep f : Nat) (hd : deep ≤ 100) (hm2 : m2 ≤ 9223372036854775807) (w : World)
    (hkids : m2 = 0 ∨ ∃ g p, a2 = some ⟨g, p, none⟩ ∧ g < w.heap.size ∧ ∀ i, i < m2 → ∃ u, V6 w g (p + i * 6) u ∧ RawAt w f u)
    (hE : ∀ u W, RawAt W f u → Below w.heap.size w W → Calls Tryz.prog 23 #[u, .int .i64 deep] W (CleanIs deep W)) :
    Calls Tryz.prog 42 #[sixV k n a m c b s a2 m2 c2, .int .i64 ((deep : Int) + 1)] w fun e w' => ∃ ks, e = .returned (valSix 8 0 ⟨#[]⟩ ks) ∧ ∃ ts, ts.length ≤ 16 ∧ DictOk (deep + 1) ts ∧ KidsB w' (fun b => w.heap.size ≤ b) (ValB w' (fun b => w.heap.size ≤ b) (deep + 1)) ks ts ∧ Below w.heap.size w w' := by
  obtain ⟨w3, hw3⟩ : ∃ w3, w3 = ((w.alloc (sixO k n a m c b s a2 m2 c2)).alloc (sixO 0 false none 0 0 0 ⟨#[]⟩ none 0 0)).alloc (sixO 8 false none 0 0 0 ⟨#[]⟩ none 0 0) := ⟨_, rfl⟩
  have HU3 := Lib.hid (NewUp.begin w (fun _ => False) (deep + 1) 8 (sixO k n a m c b s a2 m2 c2) w3 hw3)
  have HW3 := Lib.hid hw3
  have hde : IntKind.i64.wrap ((deep : Int) + 1 - 1) = (deep : Int) := by simp only [IntKind.wrap_i64]; omega
  have hde2 : wrap64 ((deep : Int) + 1 - 1) = (deep : Int) := by unfold wrap64; omega
  have hde3 : IntKind.i64.wrap (deep : Int) = (deep : Int) := by simp only [IntKind.wrap_i64]; omega
  have hde4 : wrap64 (deep : Int) = (deep : Int) := by unfold wrap64; omega
  clear hw3
  go_enter Tryz.func42, Tryz.ntmps42
  go_wp2
  rw [← HW3.out]
  go_loopw [6] (fun i wr => ∃ j : Nat, j ≤ 16 ∧ j % 2 = 0 ∧ i = .int .i64 j ∧ ∃ ts, NewUp w (fun _ => False) (deep + 1) 8 (sixO k n a m c b s a2 m2 c2) ts wr ∧ ts.length ≤ j ∧ DictOk (deep + 1) ts) (fun i _ => 16 - (intOf i).toNat)
  case atStart => exact ⟨0, by omega, rfl, rfl, [], HU3.out, by simp, rfl, fun t h => (by cases h), fun t h => (by cases h), trivial⟩
  case round =>
    obtain ⟨j, hj8, hjm, rfl, ts, hu, htl, htc⟩ := hrel
    clear HU3
    obtain ⟨ks, es, r2, hown, hes, r0, r1, hb⟩ := hu
    obtain ⟨x0, x1, x2, x3, x4, x5⟩ := box6 r0 (Below.refl _ _)
    by_cases he : j + 1 < m2 ∧ j < 16
    · obtain ⟨he1, he2⟩ := he
      have hlt8 : (j : Int) < 16 := by omega
      rcases hkids with h0 | ⟨g, p, rfl, hg, hkk⟩
      · omega
      · obtain ⟨k1, n1, a1, m1, c1, b1, s1, d1, o1, f1, hcl, hrw⟩ := raw_kid hkk j (by omega)
        obtain ⟨i0, i1, i2, i3, i4, i5⟩ := hcl.below hb hg
        obtain ⟨q, hq⟩ : ∃ q, q = j + 1 := ⟨_, rfl⟩
        obtain ⟨k3, n3, a3, m3, c3, b3, s3, d3, o3, f3, hcl2, hrw2⟩ := raw_kid hkk q (by omega)
        have hlt : (q : Int) < (m2 : Int) := by omega
        have hj1 : IntKind.i64.wrap ((j : Int) + 1) = (q : Int) := by simp only [IntKind.wrap_i64]; omega
        have hj2 : wrap64 ((j : Int) + 1) = (q : Int) := by unfold wrap64; omega
        have hq0 : (j : Int) < (m2 : Int) := by omega
        have hj3 : IntKind.i64.wrap ((j : Int) + 2) = (j : Int) + 2 := by simp only [IntKind.wrap_i64]; omega
        have hj4 : wrap64 ((j : Int) + 2) = (j : Int) + 2 := by unfold wrap64; omega
        have HE2 := Lib.hid (show ∀ W, Below wr.heap.size wr W → Calls Tryz.prog 23 #[sixV k3 n3 a3 m3 c3 b3 s3 d3 o3 f3, .int .i64 deep] W (CleanIs deep W) from fun W hbw => hE _ W (hrw2.below (hb.trans (hbw.mono hb.size))) (hb.trans (hbw.mono hb.size)))
        have HCL2 := Lib.hid (show ∀ W, Below wr.heap.size wr W → Cells6 W g (p + q * 6) k3 n3 a3 m3 c3 b3 s3 d3 o3 f3 from fun W hbw => hcl2.below (hb.trans (hbw.mono hb.size)) hg)
        have HV := Lib.hid (show ∀ W, Below wr.heap.size wr W → W.cell? ⟨w.heap.size, 5, none⟩ = some (.slice (some ⟨g, p, none⟩) m2 c2) from fun W hb => (cell_of_row _ _ 5 _ _ (0, 0) ((hb.block _ (by have := (Array.getElem?_eq_some_iff.1 r2).1; omega)).trans r0)).trans rfl)
        have HC := Lib.hid (hE _ wr (hrw.below hb) hb)
        have hwr : w.heap.size + 3 ≤ wr.heap.size := by have := (Array.getElem?_eq_some_iff.1 r2).1; omega
        have hesl : es.length ≤ 900 := by have := congrArg List.length hes; simp at this; omega
        have HTS := Lib.hid (And.intro htl htc)
        have HPU := Lib.hid (show ∀ (w6 w8 w10 : World) (y z : Value) (K t : Tr) (h6 : IsSix y) (h7 : IsSix z) (h1 : ∀ u ∈ six y, u.oneCell' = true) (h2 : ∀ u ∈ six z, u.oneCell' = true), ValB w6 (fun b => wr.heap.size ≤ b) (deep + 1) y K → Below wr.heap.size wr w6 → Below w6.heap.size w6 w8 → ValB w10 (fun b => w8.heap.size ≤ b) (deep + 1) z t → Below w8.heap.size w8 w10 → PushAt w (fun _ => False) (deep + 1) 8 (sixO k n a m c b s (some ⟨g, p, none⟩) m2 c2) ts [(y, K), (z, t)] ks es (w10.alloc (.cells (six y ++ six z).toArray 32)) w10.heap.size from fun w6 w8 w10 y z K t h6 h7 h1 h2 hy hb6 hb8 hz hb10 => by
          have hs8 := Nat.le_trans hb6.size hb8.size
          have hb9 : Below wr.heap.size wr w10 := (hb6.trans (hb8.mono hb6.size)).trans (hb10.mono hs8)
          have hb7 : Below wr.heap.size wr (w10.alloc (.cells (six y ++ six z).toArray 32)) := hb9.alloc hb9.size _
          refine ⟨(hb7.block _ (by omega)).trans r2, hown.below hb7, hes, (hb7.block _ (by omega)).trans r0, (hb7.block _ (by omega)).trans r1, hb.trans (hb7.mono hb.size), hesl, by simp, by simpa using heap_alloc_new w10 (.cells (six y ++ six z).toArray 32), ?_, ?_, fun b h => h.elim⟩
          · intro u hu
            simp only [List.flatMap_cons, List.flatMap_nil, List.append_nil, List.mem_append] at hu
            exact hu.elim (h1 u) (h2 u)
          · intro e he
            rcases List.mem_cons.1 he with rfl | he
            · exact entAt_of h6 (fun b h => h.elim) hown hwr (hy.sub (fun b h => .inr h)) ((hb8.trans (hb10.mono hb8.size)).alloc (Nat.le_trans hb8.size hb10.size) _)
            · obtain rfl : e = (z, t) := by simpa using he
              exact entAt_of h7 (fun b h => h.elim) hown hwr (hz.sub (fun b h => .inr (Nat.le_trans hs8 h))) ((Below.refl _ _).alloc (Nat.le_refl _) _))
        have HO := Lib.hid (show ∀ W, Below wr.heap.size wr W → W.cell? ⟨w.heap.size + 1 + 1, 5, none⟩ = some ks from fun W hb => (cell_of_row _ _ 5 _ _ (0, 0) ((hb.block _ (by omega)).trans r2)).trans rfl)
        have HFI := Lib.hid (show ∀ (W : World) (key : Value) (K : Tr), Below wr.heap.size wr W → ValAt W (deep + 1) key K → KeyT (deep + 1) K → Slim (deep + 1) K → _ from fun W key K hbw hk kk sk => Find_own (deep + 1) 2 (.inr rfl) _ _ W ks key es ts K hes (by omega) (hown.below hbw) hk kk sk (fun i h => htc.2.2.1 _ (keysOf_mem ts i h htc.1)))
        have HNU := Lib.hid (show ∀ W, Below wr.heap.size wr W → NewUp w (fun _ => False) (deep + 1) 8 (sixO k n a m c b s (some ⟨g, p, none⟩) m2 c2) ts W from fun W hbw => ⟨ks, es, (hbw.block _ (by omega)).trans r2, hown.below hbw, hes, (hbw.block _ (by omega)).trans r0, (hbw.block _ (by omega)).trans r1, hb.trans (hbw.mono hb.size)⟩)
        obtain ⟨ka, kc, hksh⟩ := hown.shape
        subst hksh
        have HJ2 := Lib.hid (show j + 2 ≤ 16 ∧ (j + 2) % 2 = 0 by omega)
        have HJ3 := Lib.hid (show Value.int .i64 ((j : Int) + 2) = .int .i64 ((j + 2 : Nat) : Int) from rfl)
        have HM := Lib.hid (show 16 - (intOf (Value.int .i64 ((j : Int) + 2))).toNat < 16 - (intOf (Value.int .i64 (j : Int))).toNat by simp [intOf]; omega)
        clear r0 r1 r2 hown hes hb hcl hwr hesl htl htc hrw hkk hE hjm hj8 he1 he2 hrw2 hcl2 hq
        go_wp2_with fail
        refine HC.out.mono ?_
        rintro e w5 ⟨y, t, rfl, hy, hty, hb5⟩
        obtain ⟨y0, y1, y2, y3, y4, y5, y6, y7, y8, y9, hyy⟩ := hy.at_.shape
        subst hyy
        have HK := Lib.hid (Key_any (deep + 1) _ _ t w5 hy hty)
        have HTK := Lib.hid (keyT_ok (deep + 1) t hty)
        have HB5 := Lib.hid hb5
        clear hy hb5 hty
        go_wp2_with fail
        refine HK.out.mono ?_
        rintro e w6 ⟨z, rfl, hz, hb6⟩
        have hz' : ValB w6 (fun b => wr.heap.size ≤ b) (deep + 1) z (keyT (deep + 1) t) := hz.sub (fun b h => by rcases h with h | h; exact h; exact Nat.le_trans HB5.out.size h)
        obtain ⟨z0, z1, z2, z3, z4, z5, z6, z7, z8, z9, hzz⟩ := hz'.at_.shape
        subst hzz
        have hb16 : Below wr.heap.size wr w6 := HB5.out.trans (hb6.mono HB5.out.size)
        have hb7 : Below w6.heap.size w6 (w6.alloc (sixO z0 z1 z2 z3 z4 z5 z6 z7 z8 z9)) := (Below.refl _ _).alloc (Nat.le_refl _) _
        have HF := Lib.hid (HFI.out (w6.alloc (sixO z0 z1 z2 z3 z4 z5 z6 z7 z8 z9)) _ (keyT (deep + 1) t) (hb16.alloc hb16.size _) (hz'.at_.below hb7) HTK.out.1 HTK.out.2.1)
        have q5 := HO.out (w6.alloc (sixO z0 z1 z2 z3 z4 z5 z6 z7 z8 z9)) (hb16.alloc hb16.size _)
        have HZ := Lib.hid hz'; have HB16 := Lib.hid hb16
        clear hz hz' hb6 hb16 hb7
        go_wp2_with fail
        refine HF.out.mono ?_
        rintro e w8 ⟨r, rfl, hr, hb8⟩
        have hb68 : Below w6.heap.size w6 w8 := ((Below.refl _ _).alloc (Nat.le_refl _) _).trans (hb8.mono (by simp))
        obtain ⟨v0, v1, v2, v3, v4, v5⟩ := box6 (heap_alloc_new w6 (sixO z0 z1 z2 z3 z4 z5 z6 z7 z8 z9)) hb8
        have q8 := HO.out w8 (HB16.out.trans (hb68.mono HB16.out.size))
        have HN8 := Lib.hid (HNU.out w8 (HB16.out.trans (hb68.mono HB16.out.size)))
        have HB68 := Lib.hid hb68
        rcases hr.neg with ⟨rfl, hn⟩ | hr0
        · have HDK := Lib.hid (fun t' (h : CleanT (deep + 1) t') => DictOk.snoc HTS.out.2 HTK.out h hn)
          have HL := Lib.hid (show ∀ t' : Tr, (ts ++ [keyT (deep + 1) t, t']).length ≤ j + 2 from fun t' => by have := HTS.out.1; simp; omega)
          have HB8 := Lib.hid (HB16.out.trans (hb68.mono HB16.out.size))
          have HC2 := Lib.hid (HE2.out w8.drew HB8.out.drew)
          obtain ⟨j0, j1, j2, j3, j4, j5⟩ := HCL2.out w8 HB8.out
          have q9 := HV.out w8 HB8.out
          have HX := Lib.hid (fun W (h : Below w8.heap.size w8 W) => box6 (heap_alloc_new w6 (sixO z0 z1 z2 z3 z4 z5 z6 z7 z8 z9)) (hb8.trans (h.mono hb8.size)))
          clear hr hn hb8 hb68
          go_wp2_with fail
          go_region_law (first | (go_simp; go_at_call 23; (with_reducible refine HC2.out.mono ?_); rintro e w10 ⟨y', t', rfl, hy, hty, hb10⟩; obtain ⟨a0, a1, a2, a3, a4, a5, a6, a7, a8, a9, hyy⟩ := hy.at_.shape; subst hyy; have HB10 := Lib.hid (below_undrew hb10); have q10 := HO.out w10 (HB8.out.trans (HB10.out.mono HB8.out.size)); have q11 := fun X => HO.out (w10.alloc X) ((HB8.out.trans (HB10.out.mono HB8.out.size)).alloc (Nat.le_trans HB8.out.size HB10.out.size) X); obtain ⟨v0', v1', v2', v3', v4', v5'⟩ := HX.out w10 HB10.out; have HP := Lib.hid (HPU.out w6 w8 w10 _ _ (keyT (deep + 1) t) t' ⟨_, _, _, _, _, _, rfl⟩ ⟨_, _, _, _, _, _, rfl⟩ (fun u hu => by simp [six] at hu; rcases hu with rfl | rfl | rfl | rfl | rfl | rfl <;> rfl) (fun u hu => by simp [six] at hu; rcases hu with rfl | rfl | rfl | rfl | rfl | rfl <;> rfl) HZ.out HB16.out HB68.out hy HB10.out); have HTY := Lib.hid hty; clear hb10 hy hty) | (refine step_push rfl (.tmp 36) (.tmp 47) rfl rfl rfl HP.out rfl ?_; intro a' n' c' w11 q12 q13 HN9))
          all_goals go_wp2
          all_goals go_round
          all_goals first
            | with_reducible exact HM.out
            | exact ⟨j + 2, HJ2.out.1, HJ2.out.2, HJ3.out, _, HN9.out, HL.out t', HDK.out t' HTY.out⟩
        · have hn0 : ¬ (r < 0) := by omega
          have hn1 : decide (r < 0) = false := by simp; omega
          clear hr hb8 hb68 hr0
          go_wp2
          go_round
          all_goals first
            | with_reducible exact HM.out
            | exact ⟨j + 2, HJ2.out.1, HJ2.out.2, HJ3.out, ts, HN8.out, Nat.le_trans HTS.out.1 (Nat.le_add_right _ _), HTS.out.2⟩
    · obtain ⟨ka, kc, rfl⟩ := hown.shape
      obtain ⟨y0, y1, y2, y3, y4, y5⟩ := box6 r2 (Below.refl _ _)
      obtain ⟨z0, z1, z2, z3, z4, z5⟩ := box6 r1 (Below.refl _ _)
      have fz : ∀ i, wr.frozen? ⟨w.heap.size + 1, i, none⟩ = false := six_frozen r1
      have HR1 := Lib.hid r1; have HB := Lib.hid hb; have HOWN := Lib.hid hown; have HES := Lib.hid hes; have HTS := Lib.hid (And.intro htl htc); have HJ8 := Lib.hid hj8
      clear r0 r1 r2 hb hown hes htl htc hE hkids
      obtain ⟨q, hq⟩ : ∃ q, q = j + 1 := ⟨_, rfl⟩
      have hj1 : IntKind.i64.wrap ((j : Int) + 1) = (q : Int) := by simp only [IntKind.wrap_i64]; omega
      have hj2 : wrap64 ((j : Int) + 1) = (q : Int) := by unfold wrap64; omega
      by_cases hm : q < m2
      · have hlt : (q : Int) < (m2 : Int) := by omega
        have hge : ¬ ((j : Int) < 16) := by omega
        have hge2 : decide ((j : Int) < 16) = false := by simp; omega
        clear he hm hj8 hjm hq
        go_wp2
        obtain ⟨e0, e1, e2, e3, e4, e5⟩ := box6 (put6_heap HR1.out) (Below.refl _ (put6 wr (w.heap.size + 1) (.int .i64 8) (.bool false) (.slice none 0 0) (.int .u64 0) (.string ⟨#[]⟩) (.slice ka es.length kc)))
        unfold put6 at e0 e1 e2 e3 e4 e5
        have hkids := (HOWN.out.chg (put6_chg wr (w.heap.size + 1) (.int .i64 8) (.bool false) (.slice none 0 0) (.int .u64 0) (.string ⟨#[]⟩) (.slice ka es.length kc)) (by omega) (fun h => by rcases h with h | h; exact h.elim; omega)).kids (T' := fun b => w.heap.size ≤ b) (fun b h => by rcases h with h | h; exact h.elim; omega) (fun b h => by omega)
        rw [HES.out] at hkids
        exact bodyPost_ret (v := sixV 8 false none 0 0 0 ⟨#[]⟩ ka es.length kc) (by simp [results, Tryz.results42, go_sem, e0, e1, e2, e3, e4, e5]) rfl ⟨_, rfl, ts, by have := HTS.out.1; have := HJ8.out; omega, HTS.out.2, hkids, Chg.below HB.out HB.out.size (put6_chg _ _ _ _ _ _ _ _) (by omega)⟩
      · have hge : ¬ ((q : Int) < (m2 : Int)) := by omega
        have hge2 : decide ((q : Int) < (m2 : Int)) = false := by simp; omega
        clear he hm hj8 hjm hq
        go_wp2
        obtain ⟨e0, e1, e2, e3, e4, e5⟩ := box6 (put6_heap HR1.out) (Below.refl _ (put6 wr (w.heap.size + 1) (.int .i64 8) (.bool false) (.slice none 0 0) (.int .u64 0) (.string ⟨#[]⟩) (.slice ka es.length kc)))
        unfold put6 at e0 e1 e2 e3 e4 e5
        have hkids := (HOWN.out.chg (put6_chg wr (w.heap.size + 1) (.int .i64 8) (.bool false) (.slice none 0 0) (.int .u64 0) (.string ⟨#[]⟩) (.slice ka es.length kc)) (by omega) (fun h => by rcases h with h | h; exact h.elim; omega)).kids (T' := fun b => w.heap.size ≤ b) (fun b h => by rcases h with h | h; exact h.elim; omega) (fun b h => by omega)
        rw [HES.out] at hkids
        exact bodyPost_ret (v := sixV 8 false none 0 0 0 ⟨#[]⟩ ka es.length kc) (by simp [results, Tryz.results42, go_sem, e0, e1, e2, e3, e4, e5]) rfl ⟨_, rfl, ts, by have := HTS.out.1; have := HJ8.out; omega, HTS.out.2, hkids, Chg.below HB.out HB.out.size (put6_chg _ _ _ _ _ _ _ _) (by omega)⟩
end Go.Proofs.YtpcleebnfgnhdaaGreatDoor

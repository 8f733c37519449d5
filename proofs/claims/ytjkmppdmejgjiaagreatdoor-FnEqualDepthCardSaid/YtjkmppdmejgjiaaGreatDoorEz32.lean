import Derived.Test.YtjkmppdmejgjiaaGreatDoorEz31
/- Walks: cleanSet. -/
set_option linter.unusedVariables false
set_option linter.unusedSimpArgs false
namespace Go.Proofs.YtjkmppdmejgjiaaGreatDoor
open Go.RowKit
open Num

theorem Apart.snoc {d : Nat} : ∀ {l : List Tr} {x : Tr}, Apart d l → (∀ y ∈ l, eqv d y x = false) → Apart d (l ++ [x])
  | [], x, _, _ => ⟨fun y hy => (by cases hy), trivial⟩
  | a :: l, x, h, hx => ⟨fun y hy => by
      rcases List.mem_append.1 hy with hy | hy
      · exact h.1 y hy
      · obtain rfl : y = x := by simpa using hy
        exact hx a (by simp), Apart.snoc h.2 (fun y hy => hx y (by simp [hy]))⟩
/-- what may stand in a set -/
def SetOk (d : Nat) (ts : List Tr) : Prop := (∀ t ∈ ts, CleanT d t ∧ KeyT d t ∧ Slim d t) ∧ Apart d ts
/-- a key sought among the kids made so far -/
theorem Find_own (d st : Nat) (hst : st = 1 ∨ st = 2) (base : Nat) (T : Nat → Prop) (w : World) (ks key : Value) (es : List (Value × Tr)) (ts : List Tr) (K : Tr) (hes : es.map (·.2) = ts) (hl : ts.length ≤ 1000) (hown : OwnE base T w d ks es) (hk : ValAt w d key K) (kk : KeyT d K) (sk : Slim d K)
    (hts : ∀ i (h : i * st < ts.length), KeyT d ts[i * st] ∧ Slim d ts[i * st]) :
    Calls Tryz.prog 24 #[ks, .int .i64 st, key] w fun e w' => ∃ r : Int, e = .returned (.int .i64 r) ∧ FoundAt (fun x => eqv d x K) st ts r ∧ Below w.heap.size w w' := by
  have hkids := (hown.kids (T' := fun _ => True) (fun _ _ => trivial) (fun _ _ => trivial)).at_ (Q := ValAt w d) (fun u t h => h.at_)
  rw [hes] at hkids
  exact Find_any (ValAt w d) (fun x => eqv d x K) st hst ks key ts (by omega) w hkids (fun u T _ h => h.shape) hk.shape
    (fun i u W h hp hb => SEq_key d u key _ K W (hp.below hb) (hk.below hb) (hts i h).1 kk (hts i h).2 sk)
theorem FoundAt.neg {f : Tr → Bool} {st : Nat} {l : List Tr} {r : Int} (h : FoundAt f st l r) : (r = -1 ∧ ∀ i (h : i * st < l.length), f l[i * st] = false) ∨ 0 ≤ r := by
  rcases h with h | ⟨i, hi, rfl, _⟩
  · exact .inl h
  · exact .inr (by omega)

set_option maxRecDepth 100000 in
set_option maxHeartbeats 8000000 in
theorem cleanSet_any (k n a m c b s a2 m2 c2) (deep f : Nat) (hd : deep ≤ 100) (hm2 : m2 ≤ 9223372036854775807) (w : World)
    (hkids : m2 = 0 ∨ ∃ g p, a2 = some ⟨g, p, none⟩ ∧ g < w.heap.size ∧ ∀ i, i < m2 → ∃ u, V6 w g (p + i * 6) u ∧ RawAt w f u)
    (hE : ∀ u W, RawAt W f u → Below w.heap.size w W → Calls Tryz.prog 6 #[u, .int .i64 deep] W (CleanIs deep W)) :
    Calls Tryz.prog 19 #[sixV k n a m c b s a2 m2 c2, .int .i64 ((deep : Int) + 1)] w fun e w' => ∃ ks, e = .returned (valSix 9 0 ⟨#[]⟩ ks) ∧ ∃ ts, ts.length ≤ 8 ∧ SetOk (deep + 1) ts ∧ KidsB w' (fun b => w.heap.size ≤ b) (ValB w' (fun b => w.heap.size ≤ b) (deep + 1)) ks ts ∧ Below w.heap.size w w' := by
  obtain ⟨w3, hw3⟩ : ∃ w3, w3 = ((w.alloc (sixO k n a m c b s a2 m2 c2)).alloc (sixO 0 false none 0 0 0 ⟨#[]⟩ none 0 0)).alloc (sixO 9 false none 0 0 0 ⟨#[]⟩ none 0 0) := ⟨_, rfl⟩
  have HU3 := Lib.hid (NewUp.begin w (fun _ => False) (deep + 1) 9 (sixO k n a m c b s a2 m2 c2) w3 hw3)
  have HW3 := Lib.hid hw3
  have hde : IntKind.i64.wrap ((deep : Int) + 1 - 1) = (deep : Int) := by simp only [IntKind.wrap_i64]; omega
  have hde2 : wrap64 ((deep : Int) + 1 - 1) = (deep : Int) := by unfold wrap64; omega
  have hde3 : IntKind.i64.wrap (deep : Int) = (deep : Int) := by simp only [IntKind.wrap_i64]; omega
  have hde4 : wrap64 (deep : Int) = (deep : Int) := by unfold wrap64; omega
  clear hw3
  go_enter Tryz.func19, Tryz.ntmps19
  go_wp2
  rw [← HW3.out]
  go_loopw [6] (fun i wr => ∃ j : Nat, j ≤ 8 ∧ j ≤ m2 ∧ i = .int .i64 j ∧ ∃ ts, NewUp w (fun _ => False) (deep + 1) 9 (sixO k n a m c b s a2 m2 c2) ts wr ∧ ts.length ≤ j ∧ SetOk (deep + 1) ts) (fun i _ => 8 - (intOf i).toNat)
  case atStart => exact ⟨0, by omega, by omega, rfl, [], HU3.out, by simp, ⟨fun t h => (by cases h), trivial⟩⟩
  case round =>
    obtain ⟨j, hj8, hjm, rfl, ts, hu, htl, htc⟩ := hrel
    clear HU3
    obtain ⟨ks, es, r2, hown, hes, r0, r1, hb⟩ := hu
    obtain ⟨x0, x1, x2, x3, x4, x5⟩ := box6 r0 (Below.refl _ _)
    by_cases he : j < m2 ∧ j < 8
    · obtain ⟨he1, he2⟩ := he
      have hlt : (j : Int) < (m2 : Int) := by omega
      have hlt8 : (j : Int) < 8 := by omega
      rcases hkids with h0 | ⟨g, p, rfl, hg, hkk⟩
      · omega
      · obtain ⟨k1, n1, a1, m1, c1, b1, s1, d1, o1, f1, hcl, hrw⟩ := raw_kid hkk j he1
        obtain ⟨i0, i1, i2, i3, i4, i5⟩ := hcl.below hb hg
        have HC := Lib.hid (hE _ wr (hrw.below hb) hb)
        have hwr : w.heap.size + 3 ≤ wr.heap.size := by have := (Array.getElem?_eq_some_iff.1 r2).1; omega
        have hesl : es.length ≤ 900 := by have := congrArg List.length hes; simp at this; omega
        have HTS := Lib.hid (And.intro htl htc)
        have HPU := Lib.hid (show ∀ (w6 w8 : World) (y : Value) (t : Tr) (h6 : IsSix y) (h1 : ∀ u ∈ six y, u.oneCell' = true), ValB w6 (fun b => wr.heap.size ≤ b) (deep + 1) y t → Below wr.heap.size wr w6 → Below w6.heap.size w6 w8 → PushAt w (fun _ => False) (deep + 1) 9 (sixO k n a m c b s (some ⟨g, p, none⟩) m2 c2) ts [(y, t)] ks es (w8.alloc (.cells (six y).toArray 26)) w8.heap.size from fun w6 w8 y t h6 h1 hy hb6 hb8 => by
          have hb7 : Below wr.heap.size wr w8 := hb6.trans (hb8.mono hb6.size)
          have hb9 : Below wr.heap.size wr (w8.alloc (.cells (six y).toArray 26)) := hb7.alloc hb7.size _
          exact ⟨(hb9.block _ (by omega)).trans r2, hown.below hb9, hes, (hb9.block _ (by omega)).trans r0, (hb9.block _ (by omega)).trans r1, hb.trans (hb9.mono hb.size), hesl, by simp, by simpa using heap_alloc_new w8 (.cells (six y).toArray 26), by simpa using h1, fun e he => by
            obtain rfl : e = (y, t) := by simpa using he
            exact entAt_of h6 (fun b h => h.elim) hown hwr (hy.sub (fun b h => .inr h)) (hb8.alloc hb8.size _), fun b h => h.elim⟩)
        have HO := Lib.hid (show ∀ W, Below wr.heap.size wr W → W.cell? ⟨w.heap.size + 1 + 1, 5, none⟩ = some ks from fun W hb => (cell_of_row _ _ 5 _ _ (0, 0) ((hb.block _ (by omega)).trans r2)).trans rfl)
        have HFI := Lib.hid (show ∀ (W : World) (key : Value) (K : Tr), Below wr.heap.size wr W → ValAt W (deep + 1) key K → KeyT (deep + 1) K → Slim (deep + 1) K → _ from fun W key K hbw hk kk sk => Find_own (deep + 1) 1 (.inl rfl) _ _ W ks key es ts K hes (by omega) (hown.below hbw) hk kk sk (fun i h => (htc.1 _ (List.getElem_mem h)).2))
        have HNU := Lib.hid (show ∀ W, Below wr.heap.size wr W → NewUp w (fun _ => False) (deep + 1) 9 (sixO k n a m c b s (some ⟨g, p, none⟩) m2 c2) ts W from fun W hbw => ⟨ks, es, (hbw.block _ (by omega)).trans r2, hown.below hbw, hes, (hbw.block _ (by omega)).trans r0, (hbw.block _ (by omega)).trans r1, hb.trans (hbw.mono hb.size)⟩)
        obtain ⟨ka, kc, hksh⟩ := hown.shape
        subst hksh
        clear r0 r1 r2 hown hes hb hcl hwr hesl htl htc hrw hkk hE hjm hj8 he1 he2
        go_wp2_with fail
        refine HC.out.mono ?_
        rintro e w5 ⟨y, t, rfl, hy, hty, hb5⟩
        obtain ⟨y0, y1, y2, y3, y4, y5, y6, y7, y8, y9, hyy⟩ := hy.at_.shape
        subst hyy
        have HK := Lib.hid (Key_any (deep + 1) _ _ t w5 hy hty)
        have HTK := Lib.hid (keyT_ok (deep + 1) t hty)
        have HB5 := Lib.hid hb5
        clear hy hb5 hty
        go_wp2_with fail
        refine HK.out.mono ?_
        rintro e w6 ⟨z, rfl, hz, hb6⟩
        have hz' : ValB w6 (fun b => wr.heap.size ≤ b) (deep + 1) z (keyT (deep + 1) t) := hz.sub (fun b h => by rcases h with h | h; exact h; exact Nat.le_trans HB5.out.size h)
        obtain ⟨z0, z1, z2, z3, z4, z5, z6, z7, z8, z9, hzz⟩ := hz'.at_.shape
        subst hzz
        have hb16 : Below wr.heap.size wr w6 := HB5.out.trans (hb6.mono HB5.out.size)
        have hb7 : Below w6.heap.size w6 (w6.alloc (sixO z0 z1 z2 z3 z4 z5 z6 z7 z8 z9)) := (Below.refl _ _).alloc (Nat.le_refl _) _
        have HF := Lib.hid (HFI.out (w6.alloc (sixO z0 z1 z2 z3 z4 z5 z6 z7 z8 z9)) _ (keyT (deep + 1) t) (hb16.alloc hb16.size _) (hz'.at_.below hb7) HTK.out.1 HTK.out.2.1)
        have q5 := HO.out (w6.alloc (sixO z0 z1 z2 z3 z4 z5 z6 z7 z8 z9)) (hb16.alloc hb16.size _)
        have HZ := Lib.hid hz'; have HB16 := Lib.hid hb16
        clear hz hz' hb6 hb16 hb7
        go_wp2_with fail
        refine HF.out.mono ?_
        rintro e w8 ⟨r, rfl, hr, hb8⟩
        have hb68 : Below w6.heap.size w6 w8 := ((Below.refl _ _).alloc (Nat.le_refl _) _).trans (hb8.mono (by simp))
        obtain ⟨v0, v1, v2, v3, v4, v5⟩ := box6 (heap_alloc_new w6 (sixO z0 z1 z2 z3 z4 z5 z6 z7 z8 z9)) hb8
        have q8 := HO.out w8 (HB16.out.trans (hb68.mono HB16.out.size))
        have HP := Lib.hid (HPU.out w6 w8 _ (keyT (deep + 1) t) ⟨_, _, _, _, _, _, rfl⟩ (fun u hu => by simp [six] at hu; rcases hu with rfl | rfl | rfl | rfl | rfl | rfl <;> rfl) HZ.out HB16.out hb68)
        have HN8 := Lib.hid (HNU.out w8 (HB16.out.trans (hb68.mono HB16.out.size)))
        rcases hr.neg with ⟨rfl, hn⟩ | hr0
        · have HN := Lib.hid hn
          clear hr hn hb8 hb68
          go_wp2_with ((with_reducible show wpList _ _ _ _ _ _); refine wpList_push rfl (.tmp 35) (.tmp 37) rfl rfl rfl HP.out rfl ?_; intro a' n' c' w9 q9 q10 HN9)
          go_round
          all_goals first
            | exact ⟨j + 1, by omega, by omega, by go_num, ts ++ [keyT (deep + 1) t], HN9.out, by have := HTS.out.1; simp; omega, fun x hx => by
                rcases List.mem_append.1 hx with h | h
                · exact HTS.out.2.1 x h
                · obtain rfl : x = keyT (deep + 1) t := by simpa using h
                  exact ⟨HTK.out.2.2, HTK.out.1, HTK.out.2.1⟩, Apart.snoc HTS.out.2.2 (fun y hy => by
                    obtain ⟨i, hi, rfl⟩ := List.getElem_of_mem hy
                    simpa using HN.out i (by omega))⟩
            | (simp [intOf]; omega)
        · have hn0 : ¬ (r < 0) := by omega
          have hn1 : decide (r < 0) = false := by simp; omega
          clear hr hb8 hb68 hr0 HP
          go_wp2
          go_round
          all_goals first
            | exact ⟨j + 1, by omega, by omega, by go_num, ts, HN8.out, by have := HTS.out.1; omega, HTS.out.2⟩
            | (simp [intOf]; omega)
    · obtain ⟨ka, kc, rfl⟩ := hown.shape
      obtain ⟨y0, y1, y2, y3, y4, y5⟩ := box6 r2 (Below.refl _ _)
      obtain ⟨z0, z1, z2, z3, z4, z5⟩ := box6 r1 (Below.refl _ _)
      have fz : ∀ i, wr.frozen? ⟨w.heap.size + 1, i, none⟩ = false := six_frozen r1
      have HR1 := Lib.hid r1; have HB := Lib.hid hb; have HOWN := Lib.hid hown; have HES := Lib.hid hes; have HTS := Lib.hid (And.intro htl htc); have HJ8 := Lib.hid hj8
      clear r0 r1 r2 hb hown hes htl htc hE hkids
      by_cases hm : j < m2
      · have hlt : (j : Int) < (m2 : Int) := by omega
        have hge : ¬ ((j : Int) < 8) := by omega
        have hge2 : decide ((j : Int) < 8) = false := by simp; omega
        clear he hm hj8 hjm
        go_wp2
        obtain ⟨e0, e1, e2, e3, e4, e5⟩ := box6 (put6_heap HR1.out) (Below.refl _ (put6 wr (w.heap.size + 1) (.int .i64 9) (.bool false) (.slice none 0 0) (.int .u64 0) (.string ⟨#[]⟩) (.slice ka es.length kc)))
        unfold put6 at e0 e1 e2 e3 e4 e5
        have hkids := (HOWN.out.chg (put6_chg wr (w.heap.size + 1) (.int .i64 9) (.bool false) (.slice none 0 0) (.int .u64 0) (.string ⟨#[]⟩) (.slice ka es.length kc)) (by omega) (fun h => by rcases h with h | h; exact h.elim; omega)).kids (T' := fun b => w.heap.size ≤ b) (fun b h => by rcases h with h | h; exact h.elim; omega) (fun b h => by omega)
        rw [HES.out] at hkids
        exact bodyPost_ret (v := sixV 9 false none 0 0 0 ⟨#[]⟩ ka es.length kc) (by simp [results, Tryz.results19, go_sem, e0, e1, e2, e3, e4, e5]) rfl ⟨_, rfl, ts, by have := HTS.out.1; have := HJ8.out; omega, HTS.out.2, hkids, Chg.below HB.out HB.out.size (put6_chg _ _ _ _ _ _ _ _) (by omega)⟩
      · have hge : ¬ ((j : Int) < (m2 : Int)) := by omega
        have hge2 : decide ((j : Int) < (m2 : Int)) = false := by simp; omega
        clear he hm hj8 hjm
        go_wp2
        obtain ⟨e0, e1, e2, e3, e4, e5⟩ := box6 (put6_heap HR1.out) (Below.refl _ (put6 wr (w.heap.size + 1) (.int .i64 9) (.bool false) (.slice none 0 0) (.int .u64 0) (.string ⟨#[]⟩) (.slice ka es.length kc)))
        unfold put6 at e0 e1 e2 e3 e4 e5
        have hkids := (HOWN.out.chg (put6_chg wr (w.heap.size + 1) (.int .i64 9) (.bool false) (.slice none 0 0) (.int .u64 0) (.string ⟨#[]⟩) (.slice ka es.length kc)) (by omega) (fun h => by rcases h with h | h; exact h.elim; omega)).kids (T' := fun b => w.heap.size ≤ b) (fun b h => by rcases h with h | h; exact h.elim; omega) (fun b h => by omega)
        rw [HES.out] at hkids
        exact bodyPost_ret (v := sixV 9 false none 0 0 0 ⟨#[]⟩ ka es.length kc) (by simp [results, Tryz.results19, go_sem, e0, e1, e2, e3, e4, e5]) rfl ⟨_, rfl, ts, by have := HTS.out.1; have := HJ8.out; omega, HTS.out.2, hkids, Chg.below HB.out HB.out.size (put6_chg _ _ _ _ _ _ _ _) (by omega)⟩
end Go.Proofs.YtjkmppdmejgjiaaGreatDoor

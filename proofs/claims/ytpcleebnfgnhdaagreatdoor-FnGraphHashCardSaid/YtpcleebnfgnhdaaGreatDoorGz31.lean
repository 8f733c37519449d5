import Derived.Test.YtpcleebnfgnhdaaGreatDoorGz29
/- Walks: the specification's comparison of two integers, of two floats; its equality of two keys. -/
set_option linter.unusedVariables false
set_option linter.unusedSimpArgs false
namespace Go.Proofs.YtpcleebnfgnhdaaGreatDoor
open Go.RowKit
open Num

set_option maxRecDepth 100000 in
set_option maxHeartbeats 4000000 in
theorem cmpNumbers_ii (x y : Bool) (s t : Value) (n m X Y : Nat) (w : World) (hs : MagAt w s n X) (ht : MagAt w t m Y) (hn : n ≤ 16777216) (hm : m ≤ 16777216) (hx : x = true → 0 < X) (hy : y = true → 0 < Y) :
    Calls Tryz.prog 77 #[valInt x s, valInt y t] w fun e w' => e = .returned (.int .i64 (icmp (sI x X) (sI y Y))) ∧ Below w.heap.size w w' := by
  obtain ⟨a, c, rfl⟩ := hs.shape
  obtain ⟨b, d, rfl⟩ := ht.shape
  obtain ⟨w1, hw1⟩ : ∃ w1, w1 = (w.alloc (sixO 2 x a n c 0 ⟨#[]⟩ none 0 0)).alloc (sixO 2 y b m d 0 ⟨#[]⟩ none 0 0) := ⟨_, rfl⟩
  obtain ⟨r0, r1, hb1, _⟩ := two_new w (sixO 2 x a n c 0 ⟨#[]⟩ none 0 0) (sixO 2 y b m d 0 ⟨#[]⟩ none 0 0)
  rw [← hw1] at r0 r1 hb1
  have HW1 := Lib.hid hw1; have HB1 := Lib.hid hb1; have HR0 := Lib.hid r0; have HR1 := Lib.hid r1
  have HX := Lib.hid (fun (W : World) (hb : Below w1.heap.size w1 W) => Num_int x (.slice a n c) n X W ((hs.below hb1).below hb) hn hx)
  have HY := Lib.hid (fun (W : World) (hb : Below w1.heap.size w1 W) => Num_int y (.slice b m d) m Y W ((ht.below hb1).below hb) hm hy)
  have HC := Lib.hid (fun (s' t' : Value) (n' m' : Nat) (W : World) (h1 : MagAt W s' n' X) (h2 : MagAt W t' m' Y) (h3 : n' ≤ n) (h4 : m' ≤ m) => SpecCmp_any x y s' t' n' m' X Y W h1 h2 (by omega) (by omega) hx hy)
  obtain ⟨cc, hcc⟩ : ∃ cc, cc = icmp (sI x X) (sI y Y) := ⟨_, rfl⟩
  rw [← hcc] at HC ⊢
  obtain ⟨x0, x1, x2, x3, x4, x5⟩ := box6 r0 (Below.refl _ _)
  obtain ⟨y0, y1, y2, y3, y4, y5⟩ := box6 r1 (Below.refl _ _)
  have HBC := Lib.hid ((Below.refl w1.heap.size w1).drew)
  have HP := Lib.hid (show ∀ W, Below w1.heap.size w1 W → _ from fun W hb => And.intro (box6 HR0.out hb) (box6 HR1.out hb))
  clear hs ht hn hm hx hy hcc hw1 r0 r1 hb1
  go_enter Tryz.func77, Tryz.ntmps77
  go_wp2_with fail
  rw [← HW1.out]
  go_wp2_with fail
  go_region_held3 (fun W => Below w1.heap.size w1 W ∧ (W.cell? ⟨w.heap.size, 0, none⟩ = some (.int .i64 2) ∧ W.cell? ⟨w.heap.size, 1, none⟩ = some (.bool x) ∧ W.cell? ⟨w.heap.size, 2, none⟩ = some (.slice a n c) ∧ W.cell? ⟨w.heap.size, 3, none⟩ = some (.int .u64 0) ∧ W.cell? ⟨w.heap.size, 4, none⟩ = some (.string ⟨#[]⟩) ∧ W.cell? ⟨w.heap.size, 5, none⟩ = some (.slice none 0 0)) ∧ (W.cell? ⟨w.heap.size + 1, 0, none⟩ = some (.int .i64 2) ∧ W.cell? ⟨w.heap.size + 1, 1, none⟩ = some (.bool y) ∧ W.cell? ⟨w.heap.size + 1, 2, none⟩ = some (.slice b m d) ∧ W.cell? ⟨w.heap.size + 1, 3, none⟩ = some (.int .u64 0) ∧ W.cell? ⟨w.heap.size + 1, 4, none⟩ = some (.string ⟨#[]⟩) ∧ W.cell? ⟨w.heap.size + 1, 5, none⟩ = some (.slice none 0 0))) (first | exact ⟨HBC.out, HP.out _ HBC.out⟩) (first | (go_simp; go_at_call 35; refine (HC.out _ _ _ _ _ HMA.out HMB.out HLA.out HLB.out).mono ?_; rintro e w5 ⟨rfl, hb5⟩; have HBC := Lib.hid (HBC.out.trans (hb5.mono HBC.out.size)); clear hb5) | (go_simp; go_at_call 34; with_reducible refine (HX.out _ HBC.out).mono ?_; rintro e w5 ⟨s2, m2, rfl, hm2, hmag2, hb5⟩; obtain ⟨a2, c2, rfl⟩ := hmag2.shape; have HMA := Lib.hid hmag2; have HLA := Lib.hid hm2; (try (have HMB := Lib.hid (HMB.out.below hb5))); have HBC := Lib.hid (HBC.out.trans (hb5.mono HBC.out.size)); clear hb5 hmag2 hm2) | (go_simp; go_at_call 34; with_reducible refine (HY.out _ HBC.out).mono ?_; rintro e w5 ⟨s3, m3, rfl, hm2, hmag2, hb5⟩; obtain ⟨a3, c3, rfl⟩ := hmag2.shape; have HMB := Lib.hid hmag2; have HLB := Lib.hid hm2; (try (have HMA := Lib.hid (HMA.out.below hb5))); have HBC := Lib.hid (HBC.out.trans (hb5.mono HBC.out.size)); clear hb5 hmag2 hm2))
  all_goals go_wp2
  all_goals go_ret
  all_goals exact ⟨rfl, HB1.out.trans (HBC.out.mono HB1.out.size)⟩

theorem CmpFloats_ex (A B : Nat) (hA : A < 18446744073709551616) (hB : B < 18446744073709551616) :
    ∃ c : Int, (c == 0) = feq A B ∧ ∀ w : World, Calls Tryz.prog 96 #[.float .f64 A, .float .f64 B] w fun e w' => e = .returned (.int .i64 c) ∧ w' = w := by
  have HA := Lib.hid (fun W : World => IsNaN_any A hA W)
  have HB := Lib.hid (fun W : World => IsNaN_any B hB W)
  obtain ⟨na, hna⟩ : ∃ q, q = decide (fexp A = 2047 ∧ ffrac A ≠ 0) := ⟨_, rfl⟩
  obtain ⟨nb, hnb⟩ : ∃ q, q = decide (fexp B = 2047 ∧ ffrac B ≠ 0) := ⟨_, rfl⟩
  obtain ⟨q, hq⟩ : ∃ q, q = (FloatKind.f64.format.order A B == some .eq) := ⟨_, rfl⟩
  obtain ⟨l, hl⟩ : ∃ q, q = (FloatKind.f64.format.order A B == some .lt) := ⟨_, rfl⟩
  have hf : feq A B = ((na && nb) || q) := by rw [hna, hnb, hq]; rfl
  rw [← hna] at HA
  rw [← hnb] at HB
  rw [hf]
  have hq' := hq.symm
  have hl' := hl.symm
  clear hna hnb hf hq hl hA hB
  refine ⟨if ((na && nb) || q) then 0 else if (nb || l) then -1 else 1, ?_, fun w => ?_⟩
  · cases na <;> cases nb <;> cases q <;> cases l <;> rfl
  · cases na <;> cases nb <;> cases q <;> cases l
    all_goals (
      go_enter Tryz.func96, Tryz.ntmps96
      go_wp2_with (first | (go_at_call 36; with_reducible refine (HA.out _).mono ?_; rintro e w2 ⟨rfl, rfl⟩) | (go_at_call 36; with_reducible refine (HB.out _).mono ?_; rintro e w2 ⟨rfl, rfl⟩))
      go_ret
      exact ⟨rfl, rfl⟩)

set_option maxRecDepth 100000 in
set_option maxHeartbeats 4000000 in
theorem cmpNumbers_ff (A B : Nat) (cc : Int) (hC : ∀ w : World, Calls Tryz.prog 96 #[.float .f64 A, .float .f64 B] w fun e w' => e = .returned (.int .i64 cc) ∧ w' = w) (w : World) :
    Calls Tryz.prog 77 #[valFloat A, valFloat B] w fun e w' => e = .returned (.int .i64 cc) ∧ Below w.heap.size w w' := by
  obtain ⟨w1, hw1⟩ : ∃ w1, w1 = (w.alloc (sixO 3 false none 0 0 A ⟨#[]⟩ none 0 0)).alloc (sixO 3 false none 0 0 B ⟨#[]⟩ none 0 0) := ⟨_, rfl⟩
  obtain ⟨r0, r1, hb1, _⟩ := two_new w (sixO 3 false none 0 0 A ⟨#[]⟩ none 0 0) (sixO 3 false none 0 0 B ⟨#[]⟩ none 0 0)
  rw [← hw1] at r0 r1 hb1
  have HW1 := Lib.hid hw1; have HB1 := Lib.hid hb1; have HR0 := Lib.hid r0; have HR1 := Lib.hid r1
  have HX := Lib.hid (fun W : World => Fl_float A W)
  have HY := Lib.hid (fun W : World => Fl_float B W)
  have HC := Lib.hid hC
  obtain ⟨x0, x1, x2, x3, x4, x5⟩ := box6 r0 (Below.refl _ _)
  obtain ⟨y0, y1, y2, y3, y4, y5⟩ := box6 r1 (Below.refl _ _)
  have HBC := Lib.hid ((Below.refl w1.heap.size w1).drew)
  have HP := Lib.hid (show ∀ W, Below w1.heap.size w1 W → _ from fun W hb => And.intro (box6 HR0.out hb) (box6 HR1.out hb))
  clear hC hw1 r0 r1 hb1
  go_enter Tryz.func77, Tryz.ntmps77
  go_wp2_with fail
  rw [← HW1.out]
  go_wp2_with fail
  go_region_held3 (fun W => Below w1.heap.size w1 W ∧ (W.cell? ⟨w.heap.size, 0, none⟩ = some (.int .i64 3) ∧ W.cell? ⟨w.heap.size, 1, none⟩ = some (.bool false) ∧ W.cell? ⟨w.heap.size, 2, none⟩ = some (.slice none 0 0) ∧ W.cell? ⟨w.heap.size, 3, none⟩ = some (.int .u64 A) ∧ W.cell? ⟨w.heap.size, 4, none⟩ = some (.string ⟨#[]⟩) ∧ W.cell? ⟨w.heap.size, 5, none⟩ = some (.slice none 0 0)) ∧ (W.cell? ⟨w.heap.size + 1, 0, none⟩ = some (.int .i64 3) ∧ W.cell? ⟨w.heap.size + 1, 1, none⟩ = some (.bool false) ∧ W.cell? ⟨w.heap.size + 1, 2, none⟩ = some (.slice none 0 0) ∧ W.cell? ⟨w.heap.size + 1, 3, none⟩ = some (.int .u64 B) ∧ W.cell? ⟨w.heap.size + 1, 4, none⟩ = some (.string ⟨#[]⟩) ∧ W.cell? ⟨w.heap.size + 1, 5, none⟩ = some (.slice none 0 0))) (first | exact ⟨HBC.out, HP.out _ HBC.out⟩) (first | (go_simp; go_at_call 96; with_reducible refine (HC.out _).mono ?_; rintro e w5 ⟨rfl, rfl⟩) | (go_simp; go_at_call 37; with_reducible refine (HX.out _).mono ?_; rintro e w5 ⟨rfl, hb5⟩; have HBC := Lib.hid (HBC.out.trans (hb5.mono HBC.out.size)); clear hb5) | (go_simp; go_at_call 37; with_reducible refine (HY.out _).mono ?_; rintro e w5 ⟨rfl, hb5⟩; have HBC := Lib.hid (HBC.out.trans (hb5.mono HBC.out.size)); clear hb5))
  all_goals go_wp2
  all_goals go_ret
  all_goals exact ⟨rfl, HB1.out.trans (HBC.out.mono HB1.out.size)⟩

/-- spec.Equal of flat values, and of values of unlike kinds -/
theorem SEq_flat (d e : Nat) (x y : Value) (X Y : Tr) (w : World) (hx : ValAt w (d + 1) x X) (hy : ValAt w (e + 1) y Y) (hp : X.kind ≤ 5 ∨ X.kind ≠ Y.kind) :
    Calls Tryz.prog 55 #[x, y] w fun e w' => e = .returned (.bool (eqv (d + 1) X Y)) ∧ Below w.heap.size w w' := by
  by_cases hq : X.kind = Y.kind
  · rcases hp with hp | hp
    case inr => exact absurd hq hp
    cases X <;> first | (exfalso; simp [Tr.kind] at hp; done) | skip
    all_goals (cases Y <;> first | (exfalso; simp [Tr.kind] at hq; done) | skip)
    case non.non => obtain rfl := hx; obtain rfl := hy; exact SEq_none w
    case bool.bool a b => obtain rfl := hx; obtain rfl := hy; exact SEq_bool a b w
    case int.int n V m U =>
      obtain ⟨s, k, rfl, hs, h1, h2⟩ := hx
      obtain ⟨t, l, rfl, ht, h3, h4⟩ := hy
      obtain ⟨a, c, rfl⟩ := hs.shape
      obtain ⟨b, c', rfl⟩ := ht.shape
      have := SEq_num 2 n a k c 0 ⟨#[]⟩ none 0 0 2 m b l c' 0 ⟨#[]⟩ none 0 0 _ w (.inl rfl) (.inl rfl) (fun W hb => cmpNumbers_ii n m (.slice a k c) (.slice b l c') k l V U W (hs.below hb) (ht.below hb) (by omega) (by omega) h2 h4)
      rw [icmp_eqz] at this
      exact this
    case flt.flt A B =>
      obtain ⟨rfl, hA⟩ := hx; obtain ⟨rfl, hB⟩ := hy
      obtain ⟨c, h0, hC⟩ := CmpFloats_ex A B hA hB
      have := SEq_num 3 false none 0 0 A ⟨#[]⟩ none 0 0 3 false none 0 0 B ⟨#[]⟩ none 0 0 c w (.inr rfl) (.inr rfl) (fun W hb => cmpNumbers_ff A B c hC W)
      rw [h0] at this
      exact this
    case str.str a b => obtain ⟨rfl, _⟩ := hx; obtain ⟨rfl, _⟩ := hy; exact SEq_text 4 (.inl rfl) a b w
    case byt.byt a b => obtain ⟨rfl, _⟩ := hx; obtain ⟨rfl, _⟩ := hy; exact SEq_text 5 (.inr rfl) a b w
  · by_cases h2 : (X.kind = 2 ∧ Y.kind = 3) ∨ (X.kind = 3 ∧ Y.kind = 2)
    · rcases h2 with ⟨h2, h3⟩ | ⟨h2, h3⟩
      · obtain ⟨n, V, rfl⟩ := kind_int h2
        obtain ⟨B, rfl⟩ := kind_flt h3
        obtain ⟨s, k, rfl, hs, h1, hn⟩ := hx
        obtain ⟨rfl, hB⟩ := hy
        exact Equal_if n s k V B w hs (by omega) hn hB
      · obtain ⟨B, rfl⟩ := kind_flt h2
        obtain ⟨n, V, rfl⟩ := kind_int h3
        obtain ⟨s, k, rfl, hs, h1, hn⟩ := hy
        obtain ⟨rfl, hB⟩ := hx
        have := Equal_fi n s k V B w hs (by omega) hn hB
        have e : ((-(fcAll (sI n V) B)) == 0) = (fcAll (sI n V) B == 0) := by rw [Bool.eq_iff_iff, beq_iff_eq, beq_iff_eq]; omega
        first
          | (rw [e] at this; exact this)
          | exact this
    · rw [eqv_kinds (d + 1) X Y hq h2]
      obtain ⟨n, a, m, c, b, s, a2, c2, rfl⟩ := hx.kind
      obtain ⟨n', a', m', c', b', s', a2', c2', rfl⟩ := hy.kind
      exact SEq_unlike _ n a m c b s a2 _ c2 _ n' a' m' c' b' s' a2' _ c2' w hq (fun h => h2 (by rcases h.1 with h1 | h1 <;> rcases h.2 with h3 | h3 <;> first | (exact .inl ⟨h1, h3⟩) | (exact .inr ⟨h1, h3⟩) | (exact absurd (h1.trans h3.symm) hq)))

/-- spec.Equal of two keys -/
theorem SEq_key : ∀ (d : Nat) (x y : Value) (X Y : Tr) (w : World), ValAt w d x X → ValAt w d y Y → KeyT d X → KeyT d Y → Slim d X → Slim d Y →
    Calls Tryz.prog 55 #[x, y] w fun e w' => e = .returned (.bool (eqv d X Y)) ∧ Below w.heap.size w w'
  | 0, _, _, _, _, _, h, _, _, _, _, _ => h.elim
  | d + 1, x, y, X, Y, w, hx, hy, kx, ky, sx, sy => by
    by_cases hp : X.kind ≤ 5 ∨ X.kind ≠ Y.kind
    · exact SEq_flat d d x y X Y w hx hy hp
    · have h5 : ¬ X.kind ≤ 5 := fun h => hp (.inl h)
      have hq : X.kind = Y.kind := Decidable.byContradiction fun h => hp (.inr h)
      clear hp
      cases X <;> first | (exact kx.elim) | (exfalso; simp [Tr.kind] at h5; done) | skip
      cases Y <;> first | (exact ky.elim) | (exfalso; simp [Tr.kind] at hq; done) | skip
      rename_i l m
      obtain ⟨s, rfl, hs⟩ := hx
      obtain ⟨t, rfl, ht⟩ := hy
      have hl : l.length ≤ 16 := sx.1
      have hm : m.length ≤ 16 := sy.1
      exact SEq_seq (ValAt w d) (ValAt w d) (eqv d) 7 (.inr rfl) s t l m (by omega) (by omega) w hs ht (fun u T _ h => h.shape) (fun u T _ h => h.shape)
        (fun u v a b W ha hb hu hv hbl => SEq_key d u v a b W (hu.below hbl) (hv.below hbl) (kx a ha) (ky b hb) (sx.2 a ha) (sy.2 b hb))
end Go.Proofs.YtpcleebnfgnhdaaGreatDoor

/- Walks: a key is sought among values of the specification. -/
set_option linter.unusedVariables false
set_option linter.unusedSimpArgs false
namespace Go.Proofs.YtpcleebnfgnhdaaGreatDoor
open Go.RowKit
open Num

/-- where a key is found, of which each st-th is one -/
def FoundAt (f : Tr → Bool) (st : Nat) (l : List Tr) (r : Int) : Prop :=
  (r = -1 ∧ ∀ i (h : i * st < l.length), f l[i * st] = false) ∨ (∃ i, ∃ h : i * st < l.length, r = ((i * st : Nat) : Int) ∧ f l[i * st] = true ∧ ∀ j (h : j * st < l.length), j < i → f l[j * st] = false)

set_option maxRecDepth 100000 in
set_option maxHeartbeats 4000000 in
theorem Find_any (P : Value → Tr → Prop) (f : Tr → Bool) (st : Nat) (hst : st = 1 ∨ st = 2) (ks key : Value) (l : List Tr) (hl : l.length ≤ 1000000) (w : World) (hs : KidsAt w P ks l)
    (hP6 : ∀ u T, T ∈ l → P u T → ∃ k n a m c b s a2 m2 c2, u = sixV k n a m c b s a2 m2 c2) (hk6 : ∃ k n a m c b s a2 m2 c2, key = sixV k n a m c b s a2 m2 c2)
    (hE : ∀ i u W (h : i * st < l.length), P u l[i * st] → Below w.heap.size w W → Calls Tryz.prog 55 #[u, key] W fun e w' => e = .returned (.bool (f l[i * st])) ∧ Below W.heap.size W w') :
    Calls Tryz.prog 30 #[ks, .int .i64 st, key] w fun e w' => ∃ r : Int, e = .returned (.int .i64 r) ∧ FoundAt f st l r ∧ Below w.heap.size w w' := by
  obtain ⟨k2, n2, a2, m2, c2, b2, s2, d2, o2, f2, rfl⟩ := hk6
  obtain ⟨w1, hw1⟩ : ∃ w1, w1 = w.alloc (sixO k2 n2 a2 m2 c2 b2 s2 d2 o2 f2) := ⟨_, rfl⟩
  have hb1 : Below w.heap.size w w1 := by rw [hw1]; exact (Below.refl _ _).alloc (Nat.le_refl _) _
  have r0 : w1.heap[w.heap.size]? = some (sixO k2 n2 a2 m2 c2 b2 s2 d2 o2 f2) := by rw [hw1]; exact heap_alloc_new _ _
  have HW1 := Lib.hid hw1; have HB1 := Lib.hid hb1; have HR0 := Lib.hid r0
  clear hw1 hb1 r0
  rcases hs with ⟨rfl, a, c, rfl⟩ | ⟨h0, g, p, c, rfl, hc, hc2, hg, hk⟩
  · clear hP6 hE
    go_enter Tryz.func30, Tryz.ntmps30
    go_wp2
    rw [← HW1.out]
    refine wp_loop_rounds 1 ?_
    rw [rounds_succ]
    go_wp2
    go_ret
    exact ⟨-1, rfl, .inl ⟨rfl, fun i h => by simp at h⟩, HB1.out⟩
  · have HK := Lib.hid (fun i hi => KidsAt.kid (c := c) (n := 0) hk hP6 i hi)
    have HE := Lib.hid (fun i u W h (hp : P u l[i * st]) (hb : Below w1.heap.size w1 W) => hE i u W h hp (HB1.out.trans (hb.mono HB1.out.size)))
    have HG := Lib.hid hg
    have hg1 : g < w1.heap.size := Nat.lt_of_lt_of_le hg HB1.out.size
    obtain ⟨n, hnn⟩ : ∃ n, n = l.length := ⟨_, rfl⟩
    have HNN := Lib.hid hnn
    rw [← hnn] at hl h0 hc ⊢
    have hst2 : st ≤ 2 ∧ 1 ≤ st := by omega
    obtain ⟨hs2, hs1⟩ := hst2
    clear hk hE hP6 hg hnn hst
    go_enter Tryz.func30, Tryz.ntmps30
    go_wp2
    rw [← HW1.out]
    go_loopw [7] (fun i wr => ∃ k j : Nat, Hid (j = k * st) ∧ j ≤ n + 1 ∧ i = .int .i64 j ∧ Below w1.heap.size w1 wr ∧ Hid (∀ q (a : q * st < l.length), q < k → f l[q * st] = false)) (fun i _ => n + 2 - (intOf i).toNat)
    case atStart => exact ⟨0, 0, Lib.hid (by simp), by omega, rfl, Below.refl _ _, Lib.hid (fun q _ h => absurd h (by omega))⟩
    case round =>
      obtain ⟨k, j, HJ, hj, rfl, hb, HA⟩ := hrel
      have HB := Lib.hid hb; clear hb
      have hw1 : IntKind.i64.wrap ((j : Int) + (st : Int)) = (j : Int) + (st : Int) := by simp only [IntKind.wrap_i64]; omega
      by_cases he : j < n
      · have hlt : (j : Int) < (n : Int) := by omega
        have hkl : j < l.length := by have := HNN.out; omega
        have hkl2 : k * st < l.length := by have := HJ.out; omega
        have hlk : l[j] = l[k * st] := by have := HJ.out; subst this; rfl
        obtain ⟨k1, n1, a1, m1, c1, b1, s1, d1, o1, f1, i0, i1, i2, i3, i4, i5, hpu⟩ := HK.out j hkl
        rw [hlk] at hpu
        have HI := Lib.hid (show ∀ W, Below w1.heap.size w1 W → Cells6 W g (p + j * 6) k1 n1 a1 m1 c1 b1 s1 d1 o1 f1 from fun W hb => (Cells6.below ⟨i0, i1, i2, i3, i4, i5⟩ HB1.out HG.out).below hb hg1)
        have HC := Lib.hid (HE.out k _ wr.drew hkl2 hpu HB.out.drew)
        obtain ⟨r, hr⟩ : ∃ r, r = f l[k * st] := ⟨_, rfl⟩
        rw [← hr] at HC
        have HRK := Lib.hid hr
        have HBC := Lib.hid HB.out.drew
        have HK2 := Lib.hid hkl2
        have HZ := Lib.hid (show ∀ W, Below w1.heap.size w1 W → Cells6 W w.heap.size 0 k2 n2 a2 m2 c2 b2 s2 d2 o2 f2 from fun W hb => box6 HR0.out hb)
        clear hr hpu i0 i1 i2 i3 i4 i5 hlk
        cases r
        all_goals
          go_wp2
          go_region_held3 (fun W => Below w1.heap.size w1 W ∧ (W.cell? ⟨w.heap.size, 0, none⟩ = some (.int .i64 k2) ∧ W.cell? ⟨w.heap.size, 1, none⟩ = some (.bool n2) ∧ W.cell? ⟨w.heap.size, 2, none⟩ = some (.slice a2 m2 c2) ∧ W.cell? ⟨w.heap.size, 3, none⟩ = some (.int .u64 b2) ∧ W.cell? ⟨w.heap.size, 4, none⟩ = some (.string s2) ∧ W.cell? ⟨w.heap.size, 5, none⟩ = some (.slice d2 o2 f2)) ∧ (W.cell? ⟨g, p + j * 6, none⟩ = some (.int .i64 k1) ∧ W.cell? ⟨g, p + j * 6 + 1, none⟩ = some (.bool n1) ∧ W.cell? ⟨g, p + j * 6 + 2, none⟩ = some (.slice a1 m1 c1) ∧ W.cell? ⟨g, p + j * 6 + 3, none⟩ = some (.int .u64 b1) ∧ W.cell? ⟨g, p + j * 6 + 4, none⟩ = some (.string s1) ∧ W.cell? ⟨g, p + j * 6 + 5, none⟩ = some (.slice d1 o1 f1))) (first | exact ⟨HBC.out, HZ.out _ HBC.out, HI.out _ HBC.out⟩) (first | (go_simp; go_at_call 55; refine HC.out.mono ?_; rintro e w5 ⟨rfl, hb5⟩; have HBC := Lib.hid (HBC.out.trans (hb5.mono HBC.out.size)); clear hb5))
        · go_wp2
          go_round
          case rel => exact ⟨k + 1, j + st, Lib.hid (by have := HJ.out; rw [this, Nat.add_mul]; omega), by omega, by go_num, HBC.out, Lib.hid (fun q a hq => by
            by_cases e : q = k
            · subst e; exact HRK.out.symm
            · exact HA.out q a (by omega))⟩
          case measure => simp [intOf]; omega
        · go_wp2
          go_ret
          exact ⟨(j : Int), rfl, .inr ⟨k, HK2.out, by have := HJ.out; rw [this], HRK.out.symm, fun q h hq => HA.out q h hq⟩, HB1.out.trans (HBC.out.mono HB1.out.size)⟩
      · have hge : ¬ ((j : Int) < (n : Int)) := by omega
        go_wp2
        go_ret
        exact ⟨-1, rfl, .inl ⟨rfl, fun q h => HA.out q h (by
          have h1 := HJ.out; have h2 := HNN.out
          exact Nat.lt_of_mul_lt_mul_right (a := st) (by omega))⟩, HB1.out.trans (HB.out.mono HB1.out.size)⟩
end Go.Proofs.YtpcleebnfgnhdaaGreatDoor

import Derived.Test.YtpcleebnfgnhdaaGreatDoorGz11
import Derived.Test.YtpcleebnfgnhdaaGreatDoorGz7
import Derived.Test.YtpcleebnfgnhdaaGreatDoorGz1
/- Walks: finiteFloatToInt of big floats, and of any finite float. -/
set_option linter.unusedVariables false
set_option linter.unusedSimpArgs false
namespace Go.Proofs.YtpcleebnfgnhdaaGreatDoor
open Go.RowKit
open Num

set_option maxHeartbeats 400000 in
theorem f2i_big (B k : Nat) (hB : B < 18446744073709551616) (hf : fexp B ≠ 2047) (hk : fplace B = (k : Int)) (hk11 : 11 ≤ k) (hns : ¬ (fneg B = true ∧ fplace B = 11 ∧ fman B = 4503599627370496)) (w : World) :
    Calls Tryz.prog 330 #[.float .f64 B] w fun e w' => ∃ v, e = .returned v ∧ IntIs w' w.heap.size v (fneg B && decide (0 < fwhole B)) (fwhole B) ∧ Below w.heap.size w w' := by
  have hM := fman_lt B
  have hMh := fplace_hi (B := B) (by omega)
  have hfw : fwhole B = fman B * 2 ^ k := by unfold fwhole; rw [if_pos (by omega), hk]; rfl
  have hpos : 0 < fman B * 2 ^ k := Nat.mul_pos (by omega) (Nat.two_pow_pos k)
  have hneg : (fneg B && decide (0 < fwhole B)) = fneg B := by rw [hfw]; simp [hpos]
  rw [hneg, hfw]
  have ho : ∃ o1 o2, (FloatKind.f64.format.order 14114281232179134464 B == some .lt || FloatKind.f64.format.order 14114281232179134464 B == some .eq) = o1 ∧ (FloatKind.f64.format.order B 4890909195324358656 == some .lt) = o2 ∧ (o1 = false ∨ (o1 = true ∧ o2 = false)) := by
    refine ⟨_, _, ge_m2_63 B hB hf, lt_2_63 B hB hf, ?_⟩
    have hp : ¬ (fplace B ≤ 10) := by omega
    cases hn : fneg B
    · right; simp [hp]
    · left
      have : ¬ (fplace B = 11 ∧ fman B = 4503599627370496) := fun q => hns ⟨hn, q.1, q.2⟩
      simp [hp, this]
  obtain ⟨o1, o2, ho1, ho2, hoo⟩ := ho
  obtain ⟨w1, hw1⟩ : ∃ w1, w1 = w.alloc (.cells #[.int .i64 0, .pointer none] 110) := ⟨_, rfl⟩
  have hb1 : Below w.heap.size w w1 := by rw [hw1]; exact (Below.refl _ _).alloc (Nat.le_refl _) _
  have hs1 : w1.heap.size = w.heap.size + 1 := by rw [hw1]; simp
  have hq1 : w1.heap[w.heap.size]? = some (.cells #[.int .i64 0, .pointer none] 110 (0, 0)) := by rw [hw1]; exact heap_alloc_new _ _
  have HRT := Lib.hid (rational_big B k hB hf hk hk11 w1)
  have HW1 := Lib.hid hw1; have HB1 := Lib.hid hb1; have HS1 := Lib.hid hs1; have HQ1 := Lib.hid hq1
  clear hw1 hb1 hs1 hq1 hk hf hns hM hMh hfw hpos hneg
  rcases hoo with rfl | ⟨rfl, rfl⟩
  all_goals (
    go_enter Tryz.func330, Tryz.ntmps330
    go_wp2_with fail
    rw [← HW1.out]
    refine HRT.out.mono ?_
    rintro e w2 ⟨rfl, ⟨gx, cx, gy, cy, n, hrat⟩, hb2⟩
    have hs1 := HS1.out
    have hbw2 : Below w.heap.size w w2 := HB1.out.trans (hb2.mono (by omega))
    have hs2 : w1.heap.size < w2.heap.size := (Array.getElem?_eq_some_iff.1 hrat.heap).1
    have hq2 := (hb2.block w.heap.size (by omega)).trans HQ1.out
    obtain ⟨w3, hw3⟩ : ∃ w3, w3 = w2.alloc (.cells #[.bool false, .slice none 0 0] 212) := ⟨_, rfl⟩
    have hb23 : Below w2.heap.size w2 w3 := by rw [hw3]; exact (Below.refl _ _).alloc (Nat.le_refl _) _
    have hz3 : w3.heap[w2.heap.size]? = some (.cells #[.bool false, .slice none 0 0] 212 (0, 0)) := by rw [hw3]; exact heap_alloc_new _ _
    have hr3 := hrat.below hb23
    have hbw3 : Below w.heap.size w w3 := hbw2.trans (hb23.mono (by omega))
    have hq3 := (hb23.block w.heap.size (by omega)).trans hq2
    have h33 : w3.cell? ⟨w1.heap.size, 3, none⟩ = some (.slice (some ⟨gy, 0, none⟩) 1 cy) := (cell_of_row w3 _ 3 _ _ (0, 0) hr3.heap).trans rfl
    have HNU := Lib.hid (Num_any w1.heap.size w3)
    have HDE := Lib.hid (Denom_any w1.heap.size _ _ w3 h33)
    have HDI := Lib.hid (Div_one w2.heap.size w1.heap.size _ _ _ _ _ _ _ w3 hr3 hz3 (by omega))
    have HW3 := Lib.hid hw3; have HBW3 := Lib.hid hbw3; have HQ3 := Lib.hid hq3; have HS2 := Lib.hid hs2
    have HB23 := Lib.hid hb23
    clear hw3 hb23 hz3 hr3 hbw3 hq3 h33 hbw2 hq2 hb2 hs2 hs1 hrat
    go_wp2_with fail
    rw [← HW3.out]
    refine HNU.out.mono ?_
    rintro e w3' ⟨rfl, rfl⟩
    go_wp2_with fail
    refine HDE.out.mono ?_
    rintro e w3'' ⟨rfl, rfl⟩
    go_wp2_with fail
    refine HDI.out.mono ?_
    rintro e w4 ⟨rfl, hobj, hch4⟩
    have hs1 := HS1.out
    have hs2 := HS2.out
    have hbw4 : Below w.heap.size w w4 := Chg.below HBW3.out HBW3.out.size hch4 (by omega)
    have hq4 := (hch4.block w.heap.size (by have := HBW3.out.size; have := HB23.out.size; omega) (by omega)).trans HQ3.out
    have hs4 : w.heap.size < w4.heap.size := (Array.getElem?_eq_some_iff.1 hq4).1
    have HMB := Lib.hid (MakeBigInt_any w2.heap.size 0 n (fman B * 2 ^ k) (fneg B) w4 hobj)
    have HBW4 := Lib.hid hbw4; have HQ4 := Lib.hid hq4; have HS4 := Lib.hid hs4
    clear hobj hch4 hbw4 hq4 hs1 hs2 hs4
    go_wp2_with fail
    refine HMB.out.mono ?_
    rintro e w5 ⟨v, rfl, hI, hb5⟩
    obtain ⟨zz, pp, rfl⟩ := hI.shape
    have hs4 := HS4.out
    have hq5 := (hb5.block w.heap.size hs4).trans HQ4.out
    have hb6 := HBW4.out.trans (hb5.mono (by omega))
    have c0 := (cell_of_row _ _ 0 _ _ (0, 0) hq5).trans rfl
    have c1 := (cell_of_row _ _ 1 _ _ (0, 0) hq5).trans rfl
    have f0 : ∀ i, w5.frozen? ⟨w.heap.size, i, none⟩ = false := fun i => by simp [World.frozen?, hq5]
    have HI := Lib.hid hI; have HB6 := Lib.hid hb6; have HQ5 := Lib.hid hq5
    clear hI hb5 hq5 hb6 hs4
    go_wp2
    have hW := set2 (x := .int .i64 zz) (y := .pointer pp) HQ5.out
    have e0 := (cell_of_row _ _ 0 _ _ (0, 0) hW).trans rfl
    have e1 := (cell_of_row _ _ 1 _ _ (0, 0) hW).trans rfl
    exact bodyPost_ret (v := .agg #[.int .i64 zz, .pointer pp]) (by simp [results, Tryz.results330, go_sem, e0, e1]) rfl ⟨_, rfl, ((HI.out.far HS4.out _).far HS4.out _).base_le (by have := HS4.out; omega), (HB6.out.setCell (by simp) _).setCell (by simp) _⟩)

theorem f2i_any (B : Nat) (hB : B < 18446744073709551616) (hf : fexp B ≠ 2047) (w : World) :
    Calls Tryz.prog 330 #[.float .f64 B] w fun e w' => ∃ v, e = .returned v ∧ IntIs w' w.heap.size v (fneg B && decide (0 < fwhole B)) (fwhole B) ∧ Below w.heap.size w w' := by
  by_cases h : fplace B ≤ 10 ∨ (fneg B = true ∧ fplace B = 11 ∧ fman B = 4503599627370496)
  · exact f2i_small B hB hf h w
  · have h1 : ¬ (fplace B ≤ 10) := fun q => h (.inl q)
    obtain ⟨k, hk⟩ := Int.eq_ofNat_of_zero_le (show 0 ≤ fplace B by omega)
    exact f2i_big B k hB hf hk (by omega) (fun q => h (.inr q)) w

end Go.Proofs.YtpcleebnfgnhdaaGreatDoor

/- Walk: a float's hash. -/
set_option linter.unusedVariables false
set_option linter.unusedSimpArgs false
namespace Go.Proofs.YtpcleebnfgnhdaaGreatDoor
open Go.RowKit
open Num

theorem Hash_float (B : Nat) (hB : B < 18446744073709551616) (w : World) :
    Calls Tryz.prog 324 #[.float .f64 B] w fun e w' => e = .returned (.tuple #[.int .u32 ((if fexp B = 2047 then 1618033 else hashZ (sI (fneg B) (fwhole B)) : Nat) : Int), .nilIface]) ∧ Below w.heap.size w w' := by
  have HF := Lib.hid (fun W : World => isFinite_any B hB W)
  by_cases hf : fexp B = 2047
  · rw [if_pos hf]
    simp only [hf, ne_eq, not_true_eq_false, decide_false] at HF
    clear hf
    go_enter Tryz.func324, Tryz.ntmps324
    go_wp2_with fail
    refine (HF.out _).mono ?_
    rintro e w2 ⟨rfl, rfl⟩
    go_wp2
    go_ret2
    exact ⟨rfl, Below.refl _ _⟩
  · rw [if_neg hf]
    have HI := Lib.hid (fun W : World => f2i_any B hB hf W)
    simp only [hf, ne_eq, not_false_eq_true, decide_true] at HF
    have hsg : sI (fneg B && decide (0 < fwhole B)) (fwhole B) = sI (fneg B) (fwhole B) := by
      unfold sI
      by_cases h0 : fwhole B = 0
      · simp [h0]
      · simp [Nat.pos_of_ne_zero h0]
    rw [← hsg]
    generalize (fneg B && decide (0 < fwhole B)) = ng at HI ⊢
    clear hsg hf
    go_enter Tryz.func324, Tryz.ntmps324
    go_wp2_with fail
    refine (HF.out _).mono ?_
    rintro e w2 ⟨rfl, rfl⟩
    go_wp2_with fail
    refine (HI.out _).mono ?_
    rintro e w3 ⟨v, rfl, hI, hb3⟩
    have HB3 := Lib.hid hb3; have HI3 := Lib.hid hI; clear hb3 hI
    go_wp2_with fail
    refine (Hash_int _ _ _ _ _ HI3.out).mono ?_
    rintro e w4 ⟨rfl, hb4⟩
    have HB4 := Lib.hid hb4; clear hb4
    go_wp2
    go_ret2
    exact ⟨rfl, HB3.out.trans (HB4.out.mono HB3.out.size)⟩
end Go.Proofs.YtpcleebnfgnhdaaGreatDoor

/- Walks: the hash of any key. -/
set_option linter.unusedVariables false
set_option linter.unusedSimpArgs false
namespace Go.Proofs.YtpcleebnfgnhdaaGreatDoor
open Go.RowKit
open Num

theorem hash_of_none (v : Value) (w : World) : (method 527 104 v "Hash").run Tryz.prog w = .ok (301, v) w := by kernel_rfl
theorem hash_of_bool (v : Value) (w : World) : (method 527 105 v "Hash").run Tryz.prog w = .ok (307, v) w := by kernel_rfl
theorem hash_of_int (v : Value) (w : World) : (method 527 110 v "Hash").run Tryz.prog w = .ok (315, v) w := by kernel_rfl
theorem hash_of_flt (v : Value) (w : World) : (method 527 112 v "Hash").run Tryz.prog w = .ok (324, v) w := by kernel_rfl
theorem hash_of_str (v : Value) (w : World) : (method 527 96 v "Hash").run Tryz.prog w = .ok (282, v) w := by kernel_rfl
theorem hash_of_byt (v : Value) (w : World) : (method 527 114 v "Hash").run Tryz.prog w = .ok (336, v) w := by kernel_rfl
theorem hash_of_tup (v : Value) (w : World) : (method 527 121 v "Hash").run Tryz.prog w = .ok (351, v) w := by kernel_rfl

theorem enter_none (a : Array Value) (w : World) : (callFunc 301 a).run Tryz.prog w = .ok (.enter 301 a) w := by kernel_rfl
theorem enter_bool (a : Array Value) (w : World) : (callFunc 307 a).run Tryz.prog w = .ok (.enter 307 a) w := by kernel_rfl
theorem enter_int (a : Array Value) (w : World) : (callFunc 315 a).run Tryz.prog w = .ok (.enter 315 a) w := by kernel_rfl
theorem enter_flt (a : Array Value) (w : World) : (callFunc 324 a).run Tryz.prog w = .ok (.enter 324 a) w := by kernel_rfl
theorem enter_str (a : Array Value) (w : World) : (callFunc 282 a).run Tryz.prog w = .ok (.enter 282 a) w := by kernel_rfl
theorem enter_byt (a : Array Value) (w : World) : (callFunc 336 a).run Tryz.prog w = .ok (.enter 336 a) w := by kernel_rfl
theorem enter_tup (a : Array Value) (w : World) : (callFunc 351 a).run Tryz.prog w = .ok (.enter 351 a) w := by kernel_rfl
/-- a value's Hash, called through the interface, answers h -/
def HashIs (v : Value) (w : World) (h : Nat) : Prop :=
  ∃ t u f, v = .iface t u ∧ (∀ W : World, (method 527 t u "Hash").run Tryz.prog W = .ok (f, u) W) ∧ (∀ (a : Array Value) (W : World), (callFunc f a).run Tryz.prog W = .ok (.enter f a) W) ∧
    Calls Tryz.prog f #[u] w fun e w' => e = .returned (.tuple #[.int .u32 h, .nilIface]) ∧ Below w.heap.size w w'

theorem xor_lit (x y m : Nat) (hx : x < 4294967296) : bits .xor .u32 (x : Int) ((y : Int) * (m : Int) % 4294967296) = ((x ^^^ (y * m % 4294967296) : Nat) : Int) := by
  rw [← bits_xor_u32_nat x _ hx (Nat.mod_lt _ (by decide)), Int.natCast_emod, Int.natCast_mul]
  rfl

set_option maxRecDepth 100000 in
set_option maxHeartbeats 1000000 in
theorem Hash_tup (P : Value → Tr → Prop) (H : Tr → Nat) (s : Value) (l : List Tr) (w : World) (hl : l.length ≤ 16)
    (hH : ∀ x, H x < 4294967296)
    (hs : ElemsAt w P s l) (hP : ∀ u x W, x ∈ l → P u x → Below w.heap.size w W → HashIs u W (H x)) :
    Calls Tryz.prog 351 #[s] w fun e w' => e = .returned (.tuple #[.int .u32 (tupN ((82520 + 2 * l.length) % 4294967296) (fun i => (l.map H).getD i 0) l.length), .nilIface]) ∧ Below w.heap.size w w' := by
  rcases hs with ⟨rfl, a, c, rfl⟩ | ⟨h0, g, p, c, rfl, hc, hc2, hg, hk⟩
  · go_enter Tryz.func351, Tryz.ntmps351
    go_wp2
    refine wp_loop_rounds 1 ?_
    rw [rounds_succ]
    go_wp2
    go_ret2
    exact ⟨rfl, Below.refl _ _⟩
  · have HK := Lib.hid hk
    have HP := Lib.hid hP
    clear hk hP
    obtain ⟨G, hG⟩ : ∃ G, G = (82520 + 2 * l.length) % 4294967296 := ⟨_, rfl⟩
    obtain ⟨F, hF⟩ : ∃ F : Nat → Nat, F = (fun i => (l.map H).getD i 0) := ⟨_, rfl⟩
    rw [← hG, ← hF]
    obtain ⟨n, hn⟩ : ∃ n, n = l.length := ⟨_, rfl⟩
    have HF := Lib.hid hF; have HG := Lib.hid hG; have HN := Lib.hid hn
    clear hF hG
    rw [← hn] at hl h0 hc ⊢
    clear hn
    go_enter Tryz.func351, Tryz.ntmps351
    go_wp2
    go_loopw [4, 5, 12] (fun x m i wr => ∃ k : Nat, k ≤ n ∧ x = .int .u32 (tupN G F k) ∧ m = .int .u32 (tupM G k) ∧ i = .int .i64 k ∧ Below w.heap.size w wr) (fun _ _ i _ => n - (intOf i).toNat)
    case atStart => exact ⟨0, by omega, rfl, rfl, rfl, Below.refl _ _⟩
    case round =>
      obtain ⟨k, hk, rfl, rfl, rfl, hb⟩ := hrel
      have HB := Lib.hid hb; clear hb
      by_cases h1 : k = n
      · subst h1
        go_wp2
        go_ret2
        exact ⟨rfl, HB.out⟩
      · have hlt : (k : Int) < (n : Int) := by omega
        have hkl : k < l.length := by have := HN.out; omega
        obtain ⟨u, hu, hpu⟩ := HK.out k hkl
        have hcell := (HB.out.cell (p := ⟨g, p + k, none⟩) hg).trans hu
        have hFk : F k = H l[k] := by
          rw [HF.out]
          simp [hkl]
        obtain ⟨t, u', f, rfl, hm, hen, hcall⟩ := HP.out u _ _ (List.getElem_mem hkl) hpu HB.out
        rw [← hFk] at hcall
        have hFl : F k < 4294967296 := by rw [hFk]; exact hH _
        have HC := Lib.hid hcall
        clear hcall hu hpu hFk
        go_wp2_with fail
        refine HC.out.mono ?_
        rintro e w3 ⟨rfl, hb3⟩
        have HB3 := Lib.hid (HB.out.trans (hb3.mono HB.out.size)); clear hb3
        have HX := Lib.hid (xor_lit (tupN G F k) (F k) (tupM G k) (tupN_lt G F k))
        go_wp2
        go_round
        case rel => exact ⟨k + 1, by omega, by show _ = Value.int _ ((tupN G F k ^^^ (F k * tupM G k % 4294967296) : Nat) : Int); rw [← HX.out], (by
          show _ = Value.int _ (((tupM G k + G) % 4294967296 : Nat) : Int)
          have hg := HG.out
          rw [← HN.out] at hg
          generalize tupM G k = m
          congr 1
          omega), by go_num, HB3.out⟩
        case measure => simp [intOf]; omega

theorem hashT_tup (d : Nat) (l : List Tr) : hashT (d + 1) (.tup l) = tupN ((82520 + 2 * l.length) % 4294967296) (fun i => (l.map (hashT d)).getD i 0) l.length := rfl

/-- the tuples in a tree are short -/
def Slim : Nat → Tr → Prop
  | 0, _ => False
  | d + 1, x => x.kids.length ≤ 16 ∧ ∀ k ∈ x.kids, Slim d k

theorem Hash_any : ∀ (d : Nat) (v : Value) (T : Tr) (w : World), StarAt w d v T → KeyT d T → Slim d T → HashIs v w (hashT d T)
  | 0, _, _, _, h, _, _ => h.elim
  | d + 1, v, T, w, h, hk, hs => by
    cases T with
    | non => obtain rfl := h; exact ⟨_, _, _, rfl, hash_of_none _, enter_none, (Hash_none _ w).mono (by rintro e w' ⟨rfl, rfl⟩; exact ⟨rfl, Below.refl _ _⟩)⟩
    | bool b => obtain rfl := h; exact ⟨_, _, _, rfl, hash_of_bool _, enter_bool, (Hash_bool b w).mono (by rintro e w' ⟨rfl, rfl⟩; exact ⟨rfl, Below.refl _ _⟩)⟩
    | int n V =>
      obtain ⟨u, rfl, h1, h2, h3⟩ := h
      exact ⟨_, _, _, rfl, hash_of_int _, enter_int, Hash_int 0 u n V w h1⟩
    | flt B =>
      obtain ⟨rfl, hB⟩ := h
      exact ⟨_, _, _, rfl, hash_of_flt _, enter_flt, Hash_float B hB w⟩
    | str s =>
      obtain ⟨rfl, hB⟩ := h
      exact ⟨_, _, _, rfl, hash_of_str _, enter_str, (Hash_str s (by omega) w).mono (by rintro e w' ⟨rfl, rfl⟩; exact ⟨rfl, Below.refl _ _⟩)⟩
    | byt s =>
      obtain ⟨rfl, hB⟩ := h
      exact ⟨_, _, _, rfl, hash_of_byt _, enter_byt, (Hash_byt s (by omega) w).mono (by rintro e w' ⟨rfl, rfl⟩; exact ⟨rfl, Below.refl _ _⟩)⟩
    | tup l =>
      obtain ⟨s, rfl, h1⟩ := h
      refine ⟨_, _, _, rfl, hash_of_tup _, enter_tup, ?_⟩
      rw [hashT_tup]
      exact Hash_tup (StarAt w d) (hashT d) s l w hs.1 (hashT_lt d) h1 (fun u x W hx hu hb => Hash_any d u x W (StarAt.below hb d u x hu) (hk x hx) (hs.2 x hx))
    | lst l => exact hk.elim
    | dic l => exact hk.elim
    | set l => exact hk.elim
end Go.Proofs.YtpcleebnfgnhdaaGreatDoor

/- Plain: graphs of values: what a node unfolds to, which can be hashed. -/
set_option linter.unusedVariables false
set_option linter.unusedSimpArgs false
namespace Go.Proofs.YtpcleebnfgnhdaaGreatDoor
open Go.RowKit
open Num

/-- a node: what it is (a flat value, or any value of its kind), and its kids' numbers -/
structure Nd where
  T : Tr
  ks : List Nat

/-- a value of the kind, with these kids -/
def withKids (T : Tr) (l : List Tr) : Tr :=
  match T with
  | .lst _ => .lst l | .tup _ => .tup l | .dic _ => .dic l | .set _ => .set l | T => T
/-- all of them, if each is there -/
def allOf : List (Option Tr) → Option (List Tr)
  | [] => some []
  | none :: _ => none
  | some x :: l => (allOf l).map (x :: ·)
theorem allOf_get : ∀ {l : List (Option Tr)} {m : List Tr}, allOf l = some m → m.length = l.length ∧ ∀ i (h : i < m.length) (h2 : i < l.length), l[i] = some m[i]
  | [], m, h => by
    obtain rfl : [] = m := Option.some.inj h
    exact ⟨rfl, fun i h => absurd h (Nat.not_lt_zero _)⟩
  | none :: l, m, h => by cases h
  | some x :: l, m, h => by
    obtain ⟨m', hm, rfl⟩ := Option.map_eq_some_iff.1 (show (allOf l).map (x :: ·) = some m from h)
    obtain ⟨h1, h2⟩ := allOf_get hm
    refine ⟨by simp [h1], fun i hi hi2 => ?_⟩
    cases i with
    | zero => rfl
    | succ i => exact h2 i (by simpa using hi) (by simpa using hi2)
theorem allOf_of : ∀ {l : List (Option Tr)}, (∀ x ∈ l, ∃ y, x = some y) → ∃ m, allOf l = some m
  | [], _ => ⟨[], rfl⟩
  | none :: l, h => by obtain ⟨y, hy⟩ := h none (by simp); cases hy
  | some x :: l, h => by
    obtain ⟨m, hm⟩ := allOf_of (l := l) (fun y hy => h y (by simp [hy]))
    exact ⟨x :: m, by simp [allOf, hm]⟩
theorem allOf_none : ∀ {l : List (Option Tr)}, none ∈ l → allOf l = none
  | none :: l, _ => rfl
  | some x :: l, h => by
    have : none ∈ l := by simpa using h
    simp [allOf, allOf_none this]

/-- what a node unfolds to, of so many levels -/
def treeG (N : List Nd) : Nat → Nat → Option Tr
  | 0, _ => none
  | d + 1, i => match N[i]? with
    | none => none
    | some x => (allOf (x.ks.map (treeG N d))).map (withKids x.T)
/-- a value that can be hashed -/
def hashB : Nat → Tr → Bool
  | 0, _ => false
  | d + 1, T => match T with
    | .tup l => l.all (hashB d)
    | .lst _ | .dic _ | .set _ => false
    | _ => true
/-- a node that can be hashed -/
def hashG (N : List Nd) : Nat → Nat → Bool
  | 0, _ => false
  | d + 1, i => match N[i]? with
    | none => false
    | some x => match x.T with
      | .tup _ => x.ks.all (hashG N d)
      | .lst _ | .dic _ | .set _ => false
      | _ => true
theorem hashB_key : ∀ (d : Nat) (T : Tr), hashB d T = true ↔ KeyT d T
  | 0, _ => by simp [hashB, KeyT]
  | d + 1, T => by
    cases T <;> simp [hashB, KeyT]
    case tup l => exact forall_congr' fun x => forall_congr' fun _ => hashB_key d x

/-- the tree of more nodes is the tree of fewer -/
theorem treeG_more {N M : List Nd} (h : ∀ (i : Nat) (x : Nd), N[i]? = some x → M[i]? = some x) : ∀ (d i : Nat) (t : Tr), treeG N d i = some t → treeG M d i = some t
  | 0, _, _, h => by cases h
  | d + 1, i, t, ht => by
    unfold treeG at ht ⊢
    cases hx : N[i]? with
    | none => rw [hx] at ht; cases ht
    | some x =>
      rw [hx] at ht
      rw [h i x hx]
      dsimp only at ht ⊢
      obtain ⟨l, hl, e⟩ := Option.map_eq_some_iff.1 ht
      have hg := allOf_get hl
      have h2 : allOf (x.ks.map (treeG M d)) = some l := by
        rw [← hl]
        congr 1
        apply List.map_congr_left
        intro k hk
        obtain ⟨j, hj, rfl⟩ := List.getElem_of_mem hk
        have hj2 : j < l.length := by rw [hg.1]; simpa using hj
        have := hg.2 j hj2 (by simpa using hj)
        rw [List.getElem_map] at this
        rw [this]
        exact treeG_more h d _ _ this
      rw [h2]
      exact congrArg some e
/-- a flat node has no kids -/
def FlatBare (N : List Nd) : Prop := ∀ (i : Nat) (x : Nd), N[i]? = some x → x.T.kind < 6 → x.ks = []
/-- a node unfolds to what can be hashed just if it can be hashed -/
theorem tree_hash {N : List Nd} (hf : FlatBare N) : ∀ (d i : Nat), hashG N d i = true ↔ ∃ t, treeG N d i = some t ∧ hashB d t = true
  | 0, i => by simp [hashG, treeG]
  | d + 1, i => by
    unfold hashG treeG
    cases hx : N[i]? with
    | none => simp
    | some x =>
      dsimp only
      have fl : x.T.kind < 6 → allOf (x.ks.map (treeG N d)) = some [] := fun hk => by
        rw [hf i x hx hk]; rfl
      cases hT : x.T with
      | tup l0 =>
        dsimp only
        rw [List.all_eq_true]
        constructor
        · intro h
          obtain ⟨m, hm⟩ := allOf_of (l := x.ks.map (treeG N d)) (fun y hy => by
            obtain ⟨k, hk, rfl⟩ := List.mem_map.1 hy
            obtain ⟨t, ht, _⟩ := (tree_hash hf d k).1 (h k hk)
            exact ⟨t, ht⟩)
          refine ⟨.tup m, by rw [hm]; rfl, ?_⟩
          show m.all (hashB d) = true
          rw [List.all_eq_true]
          intro y hy
          obtain ⟨j, hj, rfl⟩ := List.getElem_of_mem hy
          obtain ⟨h1, h2⟩ := allOf_get hm
          have hj2 : j < (x.ks.map (treeG N d)).length := by omega
          have hj3 : j < x.ks.length := by simpa using hj2
          have := h2 j hj hj2
          rw [List.getElem_map] at this
          obtain ⟨t, ht, hb⟩ := (tree_hash hf d _).1 (h _ (List.getElem_mem hj3))
          rw [this] at ht
          obtain rfl := Option.some.inj ht
          exact hb
        · rintro ⟨t, ht, hb⟩ k hk
          obtain ⟨m, hm, rfl⟩ := Option.map_eq_some_iff.1 ht
          have hb' : m.all (hashB d) = true := hb
          rw [List.all_eq_true] at hb'
          obtain ⟨j, hj, rfl⟩ := List.getElem_of_mem hk
          obtain ⟨h1, h2⟩ := allOf_get hm
          have hj2 : j < (x.ks.map (treeG N d)).length := by simpa using hj
          have hj3 : j < m.length := by omega
          have := h2 j hj3 hj2
          rw [List.getElem_map] at this
          exact (tree_hash hf d _).2 ⟨_, this, hb' _ (List.getElem_mem hj3)⟩
      | lst l0 =>
        dsimp only
        constructor
        · intro h; cases h
        · rintro ⟨t, ht, hb⟩
          obtain ⟨m, hm, rfl⟩ := Option.map_eq_some_iff.1 ht
          cases hb
      | dic l0 =>
        dsimp only
        constructor
        · intro h; cases h
        · rintro ⟨t, ht, hb⟩
          obtain ⟨m, hm, rfl⟩ := Option.map_eq_some_iff.1 ht
          cases hb
      | set l0 =>
        dsimp only
        constructor
        · intro h; cases h
        · rintro ⟨t, ht, hb⟩
          obtain ⟨m, hm, rfl⟩ := Option.map_eq_some_iff.1 ht
          cases hb
      | non => rw [fl (by rw [hT]; decide)]; exact ⟨fun _ => ⟨_, rfl, rfl⟩, fun _ => rfl⟩
      | bool b => rw [fl (by rw [hT]; exact (by decide : (1 : Int) < 6))]; exact ⟨fun _ => ⟨_, rfl, rfl⟩, fun _ => rfl⟩
      | int n V => rw [fl (by rw [hT]; exact (by decide : (2 : Int) < 6))]; exact ⟨fun _ => ⟨_, rfl, rfl⟩, fun _ => rfl⟩
      | flt B => rw [fl (by rw [hT]; exact (by decide : (3 : Int) < 6))]; exact ⟨fun _ => ⟨_, rfl, rfl⟩, fun _ => rfl⟩
      | str s => rw [fl (by rw [hT]; exact (by decide : (4 : Int) < 6))]; exact ⟨fun _ => ⟨_, rfl, rfl⟩, fun _ => rfl⟩
      | byt s => rw [fl (by rw [hT]; exact (by decide : (5 : Int) < 6))]; exact ⟨fun _ => ⟨_, rfl, rfl⟩, fun _ => rfl⟩

/-- nodes that can be keys: their trees -/
structure KeysAre (N : List Nd) (i : Nat) (ks : List Nat) (ts : List Tr) : Prop where
  len : ts.length = ks.length
  key : ∀ (j : Nat) (h : j < ks.length) (h2 : j < ts.length), ks[j] < i ∧ treeG N 10 ks[j] = some ts[j] ∧ KeyT 10 ts[j] ∧ Slim 10 ts[j]
  apart : Apart 10 ts
/-- each second one -/
def evens : List Nat → List Nat
  | a :: _ :: l => a :: evens l
  | _ => []
/-- a node that can be made, the i-th of n; N are those ahead of it -/
def NodeOK (N : List Nd) (n i : Nat) (x : Nd) : Prop :=
  x.ks.length ≤ 8 ∧ (∀ k ∈ x.ks, k < n) ∧
  match x.T with
  | .lst _ => True
  | .tup _ => ∀ k ∈ x.ks, k < i
  | .dic _ => x.ks.length % 2 = 0 ∧ ∃ ts, KeysAre N i (evens x.ks) ts
  | .set _ => ∃ ts, KeysAre N i x.ks ts
  | _ => x.ks = []
/-- a graph that can be made -/
def GraphOK (N : List Nd) (n : Nat) : Prop := ∀ (i : Nat) (x : Nd), N[i]? = some x → NodeOK (N.take i) n i x
theorem NodeOK.flat {N : List Nd} {n i : Nat} {x : Nd} (h : NodeOK N n i x) (hk : x.T.kind < 6) : x.ks = [] := by
  obtain ⟨_, _, h⟩ := h
  cases hT : x.T <;> rw [hT] at h hk <;> first | exact h | (simp [Tr.kind] at hk; done)
theorem GraphOK.bare {N : List Nd} {n : Nat} (h : GraphOK N n) : FlatBare N := fun i x hx hk => (h i x hx).flat hk
end Go.Proofs.YtpcleebnfgnhdaaGreatDoor

/- Plain arithmetic: two words divided by one (in half words; by a reciprocal), many words by one; the words of a product. No program in sight. -/
namespace Go.Proofs.YtpcleebnfgnhdaaGreatDoor.Num

theorem div_mod_of {n y q r : Nat} (h : n = y * q + r) (hr : r < y) : n / y = q ∧ n % y = r := by
  subst h
  refine ⟨?_, by rw [Nat.mul_add_mod, Nat.mod_eq_of_lt hr]⟩
  rw [Nat.mul_add_div (by omega), Nat.div_eq_of_lt hr]; rfl

/-- the true digit of a half step, and what it leaves -/
def hq (u d Y : Nat) : Nat := (u * 4294967296 + d) / Y
def hr (u d Y : Nat) : Nat := (u * 4294967296 + d) % Y

theorem half_init {u d Y a b : Nat} (hY : Y = a * 4294967296 + b) (ha : 0 < a) (hd : d < 4294967296) : u / a * a + u % a = u ∧ hq u d Y ≤ u / a := by
  refine ⟨by have := Nat.div_add_mod u a; rw [Nat.mul_comm] at this; exact this, ?_⟩
  rw [Nat.le_div_iff_mul_le ha]
  have h1 : hq u d Y * Y ≤ u * 4294967296 + d := Nat.div_mul_le_self _ _
  generalize hq u d Y = Q at *
  have h2 : Q * Y = Q * a * 4294967296 + Q * b := by rw [hY, Nat.mul_add, Nat.mul_assoc]
  omega
theorem half_gt {u d Y a b q r : Nat} (hY : Y = a * 4294967296 + b) (hd : d < 4294967296) (hu : u < Y) (hq1 : q * a + r = u) (h : 4294967296 ≤ q ∨ 4294967296 * r + d < q * b) : hq u d Y < q := by
  unfold hq
  rw [Nat.div_lt_iff_lt_mul (by omega : 0 < Y)]
  rcases h with h | h
  · have h2 : 4294967296 * Y ≤ q * Y := Nat.mul_le_mul_right _ h
    omega
  · have h2 : q * Y = q * a * 4294967296 + q * b := by rw [hY, Nat.mul_add, Nat.mul_assoc]
    omega
theorem half_le {u d Y a b q r : Nat} (hY : Y = a * 4294967296 + b) (hu : u < Y) (hq1 : q * a + r = u) (h : q * b ≤ 4294967296 * r + d) : q ≤ hq u d Y := by
  unfold hq
  rw [Nat.le_div_iff_mul_le (by omega : 0 < Y)]
  have h2 : q * Y = q * a * 4294967296 + q * b := by rw [hY, Nat.mul_add, Nat.mul_assoc]
  omega
theorem half_break {u d Y a b q r : Nat} (hY : Y = a * 4294967296 + b) (hb : b < 4294967296) (hu : u < Y) (hq1 : q * a + r = u) (hr : 4294967296 ≤ r) : q ≤ hq u d Y := by
  refine half_le hY hu hq1 ?_
  have h1 : q * a < 4294967296 * a := by omega
  have h2 : q < 4294967296 := Nat.lt_of_mul_lt_mul_right h1
  have h3 : q * b ≤ 4294967296 * b := Nat.mul_le_mul_right _ (by omega)
  omega
theorem half_lt {u d Y : Nat} (hd : d < 4294967296) (hu : u < Y) : hq u d Y < 4294967296 := by
  unfold hq
  rw [Nat.div_lt_iff_lt_mul (by omega : 0 < Y)]
  omega
theorem half_rem {u d Y : Nat} (hu : u < Y) : hr u d Y < Y ∧ u * 4294967296 + d = hq u d Y * Y + hr u d Y := by
  refine ⟨Nat.mod_lt _ (by omega), ?_⟩
  have := Nat.div_add_mod (u * 4294967296 + d) Y
  unfold hq hr
  rw [Nat.mul_comm] at this
  exact this.symm
theorem two_aux {u d1 d0 Y q1 q0 r1 r0 : Nat} (a : u * 4294967296 + d1 = q1 * Y + r1) (b : r1 * 4294967296 + d0 = q0 * Y + r0) :
    u * 18446744073709551616 + (d1 * 4294967296 + d0) = Y * (q1 * 4294967296 + q0) + r0 := by
  have e : Y * (q1 * 4294967296 + q0) = q1 * Y * 4294967296 + q0 * Y := by
    rw [Nat.mul_add, ← Nat.mul_assoc, Nat.mul_comm Y q1, Nat.mul_comm Y q0]
  have h5 : u * 18446744073709551616 = u * 4294967296 * 4294967296 := by rw [Nat.mul_assoc]
  rw [e, h5, ← Nat.add_assoc, ← Nat.add_mul, a, Nat.add_mul, Nat.add_assoc, b, Nat.add_assoc]
/-- both half steps -/
theorem two_halves {u d1 d0 Y : Nat} (hu : u < Y) :
    (u * 18446744073709551616 + (d1 * 4294967296 + d0)) / Y = hq u d1 Y * 4294967296 + hq (hr u d1 Y) d0 Y ∧ (u * 18446744073709551616 + (d1 * 4294967296 + d0)) % Y = hr (hr u d1 Y) d0 Y := by
  obtain ⟨h1, h2⟩ := half_rem (d := d1) hu
  obtain ⟨h3, h4⟩ := half_rem (d := d0) h1
  refine div_mod_of ?_ h3
  exact two_aux h2 h4

theorem pow64 {s : Nat} (hs : s ≤ 64) : (18446744073709551616 : Nat) = 2 ^ (64 - s) * 2 ^ s := by
  rw [← Nat.pow_add, show 64 - s + s = 64 by omega]
/-- a word shifted: what goes over, what stays -/
theorem shl_over (lo s : Nat) (hs : s ≤ 64) : lo * 2 ^ s = lo / 2 ^ (64 - s) * 18446744073709551616 + lo * 2 ^ s % 18446744073709551616 := by
  have h : lo * 2 ^ s / 18446744073709551616 = lo / 2 ^ (64 - s) := by
    rw [pow64 hs, Nat.mul_div_mul_right _ _ (Nat.two_pow_pos s)]
  have := Nat.div_add_mod (lo * 2 ^ s) 18446744073709551616
  rw [h] at this
  omega
theorem shl_two (hi lo s : Nat) (hs : s ≤ 64) : (hi * 18446744073709551616 + lo) * 2 ^ s = (hi * 2 ^ s + lo / 2 ^ (64 - s)) * 18446744073709551616 + lo * 2 ^ s % 18446744073709551616 := by
  have h := shl_over lo s hs
  rw [Nat.add_mul, Nat.add_mul, Nat.mul_right_comm]
  omega
theorem shl_top {hi lo y s : Nat} (hs : s ≤ 64) (h : hi < y) (hlo : lo < 18446744073709551616) : hi * 2 ^ s + lo / 2 ^ (64 - s) < y * 2 ^ s := by
  have h1 : lo / 2 ^ (64 - s) < 2 ^ s := by
    rw [Nat.div_lt_iff_lt_mul (Nat.two_pow_pos _), Nat.mul_comm, ← pow64 hs]; exact hlo
  have h2 : (hi + 1) * 2 ^ s ≤ y * 2 ^ s := Nat.mul_le_mul_right _ h
  rw [Nat.add_mul] at h2
  omega

/-- the reciprocal of a word whose top bit is 1 -/
theorem recip_spec {d m : Nat} (hd0 : 0 < d) (hd2 : d < 18446744073709551616) (hm : m = ((18446744073709551615 - d) * 18446744073709551616 + 18446744073709551615) / d) :
    m * d + 18446744073709551616 * d + 1 ≤ 340282366920938463463374607431768211456 ∧ 340282366920938463463374607431768211456 ≤ m * d + 18446744073709551616 * d + d := by
  have h1 := Nat.div_add_mod ((18446744073709551615 - d) * 18446744073709551616 + 18446744073709551615) d
  have h2 := Nat.mod_lt ((18446744073709551615 - d) * 18446744073709551616 + 18446744073709551615) hd0
  rw [← hm, Nat.mul_comm] at h1
  generalize m * d = x at *
  omega
theorem divWW_plain {d m x1 x0 q : Nat} (hd : 9223372036854775808 ≤ d) (hd2 : d < 18446744073709551616) (h1 : x1 < d) (h0 : x0 < 18446744073709551616)
    (hm1 : m * d + 18446744073709551616 * d + 1 ≤ 340282366920938463463374607431768211456) (hm2 : 340282366920938463463374607431768211456 ≤ m * d + 18446744073709551616 * d + d)
    (hq : q = (m * x1 + x1 * 18446744073709551616 + x0) / 18446744073709551616) :
    d * q ≤ x1 * 18446744073709551616 + x0 ∧ x1 * 18446744073709551616 + x0 - d * q < 18446744073709551616 + d := by
  obtain ⟨r, hr⟩ : ∃ r, r = (m * x1 + x1 * 18446744073709551616 + x0) % 18446744073709551616 := ⟨_, rfl⟩
  have hrl : r < 18446744073709551616 := by rw [hr]; exact Nat.mod_lt _ (by decide)
  have hE : m * x1 + x1 * 18446744073709551616 + x0 = q * 18446744073709551616 + r := by omega
  have hE2 : d * (m * x1 + x1 * 18446744073709551616 + x0) = d * (q * 18446744073709551616 + r) := by rw [hE]
  rw [Nat.mul_add, Nat.mul_add, Nat.mul_add, ← Nat.mul_assoc, ← Nat.mul_assoc, ← Nat.mul_assoc, Nat.mul_comm d m] at hE2
  have hA := Nat.mul_le_mul_right x1 hm1
  have hB := Nat.mul_le_mul_right x1 hm2
  rw [Nat.add_mul, Nat.add_mul, Nat.mul_assoc 18446744073709551616 d x1, Nat.one_mul] at hA
  rw [Nat.add_mul, Nat.add_mul, Nat.mul_assoc 18446744073709551616 d x1] at hB
  have hC : d * x0 ≤ 18446744073709551616 * x0 := Nat.mul_le_mul_right _ (by omega)
  have hD : (18446744073709551616 - d) * x0 ≤ (18446744073709551616 - d) * 18446744073709551615 := Nat.mul_le_mul_left _ (by omega)
  rw [Nat.sub_mul, Nat.sub_mul] at hD
  have hF : d * (x1 + 1) ≤ d * d := Nat.mul_le_mul_left _ h1
  rw [Nat.mul_add, Nat.mul_one] at hF
  have hG : d * d ≤ 18446744073709551616 * d := Nat.mul_le_mul_right _ (by omega)
  have hH : d * (r + 1) ≤ d * 18446744073709551616 := Nat.mul_le_mul_left _ hrl
  rw [Nat.mul_add, Nat.mul_one] at hH
  clear hE hr hm1 hm2 hq
  generalize m * d * x1 = p2 at *
  generalize d * x1 = p3 at *
  generalize d * x0 = p4 at *
  generalize d * r = p5 at *
  generalize d * d = p6 at *
  generalize d * q = p1 at *
  constructor <;> omega

/-- a word of a quotient by one word, and what it leaves -/
theorem divw_digit {X y i : Nat} (hy : 0 < y) :
    (X / 2 ^ (64 * (i + 1)) % y * 18446744073709551616 + wd X i) / y = wd (X / y) i ∧ (X / 2 ^ (64 * (i + 1)) % y * 18446744073709551616 + wd X i) % y = X / 2 ^ (64 * i) % y := by
  have h1 := div_split X i
  have hx := wd_lt X i
  have h2 := Nat.div_add_mod (X / 2 ^ (64 * (i + 1))) y
  have hT := Nat.mod_lt (X / 2 ^ (64 * (i + 1))) hy
  have h5 : wd (X / y) i = X / 2 ^ (64 * i) / y % 18446744073709551616 := by
    unfold wd; rw [Nat.div_div_eq_div_mul, Nat.div_div_eq_div_mul, Nat.mul_comm y]
  rw [h5]
  generalize X / 2 ^ (64 * (i + 1)) % y = T at *
  generalize X / 2 ^ (64 * (i + 1)) / y = z at *
  generalize X / 2 ^ (64 * (i + 1)) = Z at *
  have h6 : X / 2 ^ (64 * i) = y * (z * 18446744073709551616) + (T * 18446744073709551616 + wd X i) := by
    rw [h1, ← h2, ← Nat.mul_assoc]
    generalize y * z = k at *
    omega
  rw [h6, Nat.mul_add_mod, Nat.mul_add_div hy]
  have h7 : (T * 18446744073709551616 + wd X i) / y < 18446744073709551616 := by
    rw [Nat.div_lt_iff_lt_mul hy]
    have h8 : (T + 1) * 18446744073709551616 ≤ y * 18446744073709551616 := Nat.mul_le_mul_right _ hT
    omega
  refine ⟨?_, rfl⟩
  generalize (T * 18446744073709551616 + wd X i) / y = k at *
  omega

/-- what a run of word products has made of k words: the lowest k words of Z + Y * m + a, with what goes over -/
def acc (Z Y m a k : Nat) : Nat := Z % 2 ^ (64 * k) + Y % 2 ^ (64 * k) * m + a
theorem mod_succ (V k : Nat) : V % 2 ^ (64 * (k + 1)) = V % 2 ^ (64 * k) + 2 ^ (64 * k) * wd V k := by
  rw [show 64 * (k + 1) = 64 * k + 64 by omega, Nat.pow_add, Nat.mod_mul]; rfl
theorem acc_zero (Z Y m a : Nat) : acc Z Y m a 0 = a := by simp [acc, Nat.mod_one]
theorem acc_succ (Z Y m a k : Nat) : acc Z Y m a (k + 1) = acc Z Y m a k + 2 ^ (64 * k) * (wd Z k + wd Y k * m) := by
  unfold acc
  rw [mod_succ, mod_succ, Nat.add_mul, Nat.mul_add, Nat.mul_assoc]
  omega
theorem acc_div (Z Y m a k : Nat) : acc Z Y m a (k + 1) / 2 ^ (64 * k) = acc Z Y m a k / 2 ^ (64 * k) + (wd Z k + wd Y k * m) := by
  rw [acc_succ, Nat.add_mul_div_left _ _ (Nat.two_pow_pos _)]
theorem acc_wd (Z Y m a k : Nat) : wd (acc Z Y m a (k + 1)) k = (acc Z Y m a k / 2 ^ (64 * k) + (wd Z k + wd Y k * m)) % 18446744073709551616 := by
  unfold wd; rw [acc_div]; rfl
theorem acc_carry (Z Y m a k : Nat) : acc Z Y m a (k + 1) / 2 ^ (64 * (k + 1)) = (acc Z Y m a k / 2 ^ (64 * k) + (wd Z k + wd Y k * m)) / 18446744073709551616 := by
  rw [show 64 * (k + 1) = 64 * k + 64 by omega, Nat.pow_add, ← Nat.div_div_eq_div_mul, acc_div]
theorem wd_low {V W k j : Nat} (hj : j < k) : wd (V + 2 ^ (64 * k) * W) j = wd V j := by
  unfold wd
  rw [show 64 * k = 64 * j + (64 + 64 * (k - j - 1)) by omega, Nat.pow_add, Nat.pow_add, Nat.mul_assoc, Nat.add_mul_div_left _ _ (Nat.two_pow_pos _), Nat.mul_assoc, Nat.add_mul_mod_self_left]
theorem acc_low {Z Y m a k j : Nat} (hj : j < k) : wd (acc Z Y m a (k + 1)) j = wd (acc Z Y m a k) j := by
  rw [acc_succ, wd_low hj]
theorem acc_full {Z Y m a n : Nat} (hZ : Z < 2 ^ (64 * n)) (hY : Y < 2 ^ (64 * n)) : acc Z Y m a n = Z + Y * m + a := by
  unfold acc; rw [Nat.mod_eq_of_lt hZ, Nat.mod_eq_of_lt hY]
theorem acc_lt {Z Y m a k : Nat} (hm : m < 18446744073709551616) (ha : a < 18446744073709551616) : acc Z Y m a k / 2 ^ (64 * k) < 18446744073709551616 := by
  rw [Nat.div_lt_iff_lt_mul (Nat.two_pow_pos _)]
  unfold acc
  have h1 := Nat.mod_lt Z (Nat.two_pow_pos (64 * k))
  have h2 := Nat.mod_lt Y (Nat.two_pow_pos (64 * k))
  have hp := Nat.two_pow_pos (64 * k)
  generalize 2 ^ (64 * k) = P at *
  have h3 : Y % P * m ≤ (P - 1) * 18446744073709551615 := Nat.mul_le_mul (by omega) (by omega)
  generalize Y % P * m = x at *
  omega
theorem wd_shift (V k i : Nat) : wd (V / 2 ^ (64 * k)) i = wd V (k + i) := by
  unfold wd
  rw [Nat.div_div_eq_div_mul, ← Nat.pow_add, show 64 * k + 64 * i = 64 * (k + i) by omega]

/-- a round of the schoolbook product: P is X times the lowest k words of Y -/
theorem mul_round {X Y m k : Nat} (hX : X < 2 ^ (64 * m)) : X * (Y % 2 ^ (64 * k)) < 2 ^ (64 * (m + k)) ∧ X * (Y % 2 ^ (64 * k)) / 2 ^ (64 * k) < 2 ^ (64 * m) ∧
    X * (Y % 2 ^ (64 * (k + 1))) / 2 ^ (64 * k) = X * (Y % 2 ^ (64 * k)) / 2 ^ (64 * k) + X * wd Y k + 0 ∧ ∀ j, j < k → wd (X * (Y % 2 ^ (64 * (k + 1)))) j = wd (X * (Y % 2 ^ (64 * k))) j := by
  have h1 : X * (Y % 2 ^ (64 * k)) < 2 ^ (64 * (m + k)) := by
    rw [show 64 * (m + k) = 64 * m + 64 * k by omega, Nat.pow_add]
    exact Nat.mul_lt_mul_of_lt_of_le hX (Nat.le_of_lt (Nat.mod_lt _ (Nat.two_pow_pos _))) (Nat.two_pow_pos _)
  have h2 : X * (Y % 2 ^ (64 * (k + 1))) = X * (Y % 2 ^ (64 * k)) + 2 ^ (64 * k) * (X * wd Y k) := by
    rw [mod_succ, Nat.mul_add, Nat.mul_left_comm]
  refine ⟨h1, ?_, ?_, fun j hj => ?_⟩
  · rw [Nat.div_lt_iff_lt_mul (Nat.two_pow_pos _), ← Nat.pow_add, show 64 * m + 64 * k = 64 * (m + k) by omega]; exact h1
  · rw [h2, Nat.add_mul_div_left _ _ (Nat.two_pow_pos _), Nat.add_zero]
  · rw [h2, wd_low hj]

theorem odd_coprime {x k : Nat} (h : x % 2 = 1) : Nat.gcd x (2 ^ k) = 1 := by
  have : Nat.Coprime x 2 := by
    unfold Nat.Coprime
    rw [Nat.gcd_comm, Nat.gcd_rec, h]; decide
  exact Nat.Coprime.pow_right k this

end Go.Proofs.YtpcleebnfgnhdaaGreatDoor.Num

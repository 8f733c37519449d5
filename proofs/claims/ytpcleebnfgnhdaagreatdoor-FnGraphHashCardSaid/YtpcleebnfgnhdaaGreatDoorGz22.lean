import Derived.Test.YtpcleebnfgnhdaaGreatDoorGz21
import Derived.Test.YtpcleebnfgnhdaaGreatDoorGz12
/- Walks: two keys compared for equality, of whatever types. -/
set_option linter.unusedVariables false
set_option linter.unusedSimpArgs false
namespace Go.Proofs.YtpcleebnfgnhdaaGreatDoor
open Go.RowKit
open Num

theorem icmp_eqz (a b : Int) : (icmp a b == 0) = (a == b) := by
  rw [Bool.eq_iff_iff, beq_iff_eq, beq_iff_eq]; exact icmp_zero a b

set_option maxRecDepth 100000 in
set_option maxHeartbeats 1000000 in
theorem CompareDepth_ii (d D : Nat) (hD : 1 ≤ D) (u v : Value) (n m : Bool) (V U : Nat) (w : World) (hx : StarAt w (d + 1) u (.int n V)) (hy : StarAt w (d + 1) v (.int m U)) :
    Calls Tryz.prog 154 #[.int .i8 37, u, v, .int .i64 D] w fun e w' => e = .returned (.tuple #[.bool (sI n V == sI m U), .nilIface]) ∧ Below w.heap.size w w' := by
  have HST := Lib.hid (sameType_any d d u v (.int n V) (.int m U) w hx hy)
  rw [show decide (Tr.kind (.int n V) = Tr.kind (.int m U)) = true from rfl] at HST
  obtain ⟨u, rfl, hu, hu2, _⟩ := hx
  obtain ⟨v, rfl, hv, hv2, _⟩ := hy
  have h1 := comp_int u
  have h2 := tot_int u
  have HC := Lib.hid (fun (W : World) (hb : Below w.heap.size w W) => IntCmp_any 0 0 (D : Int) u v n m V U W (hu.below hb) (hv.below hb) hu2 hv2)
  have hm : ∀ W : World, (method 527 110 u "Cmp").run Tryz.prog W = .ok (313, u) W := fun W => by kernel_rfl
  rw [← icmp_eqz]
  obtain ⟨c, hc⟩ : ∃ c, c = icmp (sI n V) (sI m U) := ⟨_, rfl⟩
  rw [← hc] at HC ⊢
  have hD1 : (1 : Int) ≤ (D : Int) := by omega
  have hD2 : ¬ ((D : Int) < 1) := by omega
  clear hc hu hv hu2 hv2
  go_enter Tryz.func154, Tryz.ntmps154
  go_wp2_with fail
  refine HST.out.mono ?_
  rintro e w2 ⟨rfl, hb2⟩
  have HB2 := Lib.hid hb2; clear hb2
  go_wp2_with fail
  refine (HC.out _ HB2.out).mono ?_
  rintro e w3 ⟨rfl, hb3⟩
  have HB3 := Lib.hid (HB2.out.trans (hb3.mono HB2.out.size)); clear hb3
  go_wp2_with fail
  refine (threeway_eql c _).mono ?_
  rintro e w4 ⟨rfl, rfl⟩
  go_wp2
  go_ret2
  exact ⟨rfl, HB3.out⟩

set_option maxRecDepth 100000 in
set_option maxHeartbeats 1000000 in
/-- an int and what is no number -/
theorem CompareDepth_iO (d e D : Nat) (hD : 1 ≤ D) (t : Nat) (x u : Value) (n : Bool) (V : Nat) (Y : Tr) (w : World) (hx : StarAt w (d + 1) x (.int n V)) (hy : StarAt w (e + 1) (.iface t u) Y) (hk : Y.kind ≠ 2)
    (hF : ∀ W : World, (Instr.typeAssert (.iface t u) 59 112 true).run Tryz.prog W = .ok (.tuple #[.float .f64 0, .bool false]) W) :
    Calls Tryz.prog 154 #[.int .i8 37, x, .iface t u, .int .i64 D] w fun e w' => e = .returned (.tuple #[.bool false, .nilIface]) ∧ Below w.heap.size w w' := by
  have HST := Lib.hid (sameType_any d e x (.iface t u) (.int n V) Y w hx hy)
  rw [decide_eq_false (fun h => hk h.symm)] at HST
  obtain ⟨x, rfl, hu, hu2, _⟩ := hx
  obtain ⟨z, p, rfl⟩ := hu.shape
  have h1 := asI_int (.agg #[.int .i64 z, .pointer p])
  have hD1 : (1 : Int) ≤ (D : Int) := by omega
  have hD2 : ¬ ((D : Int) < 1) := by omega
  clear hy hk hu hu2
  go_enter Tryz.func154, Tryz.ntmps154
  go_wp2_with fail
  refine HST.out.mono ?_
  rintro e w2 ⟨rfl, hb2⟩
  have HB2 := Lib.hid hb2; clear hb2
  go_wp2
  go_ret2
  exact ⟨rfl, HB2.out.trans ((below_alloc _ _).mono HB2.out.size)⟩

set_option maxRecDepth 100000 in
set_option maxHeartbeats 1000000 in
/-- a float and what is no number -/
theorem CompareDepth_fO (d e D : Nat) (hD : 1 ≤ D) (t : Nat) (x u : Value) (B : Nat) (Y : Tr) (w : World) (hx : StarAt w (d + 1) x (.flt B)) (hy : StarAt w (e + 1) (.iface t u) Y) (hk : Y.kind ≠ 3)
    (hI : ∀ W : World, (Instr.typeAssert (.iface t u) 59 110 true).run Tryz.prog W = .ok (.tuple #[.agg #[.int .i64 0, .pointer none], .bool false]) W) :
    Calls Tryz.prog 154 #[.int .i8 37, x, .iface t u, .int .i64 D] w fun e w' => e = .returned (.tuple #[.bool false, .nilIface]) ∧ Below w.heap.size w w' := by
  have HST := Lib.hid (sameType_any d e x (.iface t u) (.flt B) Y w hx hy)
  rw [decide_eq_false (fun h => hk h.symm)] at HST
  obtain ⟨rfl, hB⟩ := hx
  have h1 := asI_flt (.float .f64 B)
  have h2 := asF_flt (.float .f64 B)
  have hD1 : (1 : Int) ≤ (D : Int) := by omega
  have hD2 : ¬ ((D : Int) < 1) := by omega
  clear hy hk
  go_enter Tryz.func154, Tryz.ntmps154
  go_wp2_with fail
  refine HST.out.mono ?_
  rintro e w2 ⟨rfl, hb2⟩
  have HB2 := Lib.hid hb2; clear hb2
  go_wp2
  go_ret2
  exact ⟨rfl, HB2.out.trans ((below_alloc _ _).mono HB2.out.size)⟩

theorem must_tup (v : Value) (w : World) : (Instr.typeAssert (.iface 121 v) 59 121 false).run Tryz.prog w = .ok v w := by kernel_rfl
theorem Cst_tup (P Q : Value → Tr → Prop) (f : Tr → Tr → Bool) (D : Nat) (hD : 1 ≤ D) (hD2 : D ≤ 1000000) (s t : Value) (l m : List Tr) (hl : l.length ≤ 1000000) (hm : m.length ≤ 1000000) (w : World)
    (hs : ElemsAt w P s l) (ht : ElemsAt w Q t m)
    (hP : ∀ u v x y W, x ∈ l → y ∈ m → P u x → Q v y → Below w.heap.size w W → Calls Tryz.prog 133 #[u, v, .int .i64 ((D : Int) - 1)] W fun e w' => e = .returned (.tuple #[.bool (f x y), .nilIface]) ∧ Below W.heap.size W w') :
    Calls Tryz.prog 349 #[s, .int .i8 37, .iface 121 t, .int .i64 D] w fun e w' => e = .returned (.tuple #[.bool (allTwo f l m), .nilIface]) ∧ Below w.heap.size w w' := by
  have m1 := must_tup t
  have HS := Lib.hid (sliceCompare_any P Q f D hD hD2 s t l m hl hm w hs ht hP)
  clear hs ht hP
  go_enter Tryz.func349, Tryz.ntmps349
  go_wp2_with fail
  refine HS.out.mono ?_
  rintro e w2 ⟨rfl, hb2⟩
  have HB2 := Lib.hid hb2; clear hb2
  go_wp2
  go_ret2
  exact ⟨rfl, HB2.out⟩

theorem ElemsAt.imp {w : World} {P Q : Value → Tr → Prop} {s : Value} {l : List Tr} (h : ElemsAt w P s l) (hPQ : ∀ u t, t ∈ l → P u t → Q u t) : ElemsAt w Q s l := by
  rcases h with h | ⟨h0, g, p, c, e, hc, hc2, hg, hk⟩
  · exact .inl h
  · exact .inr ⟨h0, g, p, c, e, hc, hc2, hg, fun i hi => by
      obtain ⟨u, hu, hp⟩ := hk i hi
      exact ⟨u, hu, hPQ _ _ (List.getElem_mem hi) hp⟩⟩

def CstM (t f : Nat) : Prop := (∀ (u : Value) (W : World), (method 527 t u "CompareSameType").run Tryz.prog W = .ok (f, u) W) ∧ (∀ (a : Array Value) (W : World), (callFunc f a).run Tryz.prog W = .ok (.enter f a) W)
theorem cst_bool : CstM 105 305 := ⟨fun u W => by kernel_rfl, fun a W => by kernel_rfl⟩
theorem cst_str : CstM 96 288 := ⟨fun u W => by kernel_rfl, fun a W => by kernel_rfl⟩
theorem cst_byt : CstM 114 334 := ⟨fun u W => by kernel_rfl, fun a W => by kernel_rfl⟩
theorem cst_tup : CstM 121 349 := ⟨fun u W => by kernel_rfl, fun a W => by kernel_rfl⟩

/-- what is known of a value's type: it is no Int, no Float -/
def NoNum (v : Value) : Prop := ∃ t u, v = .iface t u ∧
  (∀ W : World, (Instr.typeAssert (.iface t u) 59 110 true).run Tryz.prog W = .ok (.tuple #[.agg #[.int .i64 0, .pointer none], .bool false]) W) ∧
  (∀ W : World, (Instr.typeAssert (.iface t u) 59 112 true).run Tryz.prog W = .ok (.tuple #[.float .f64 0, .bool false]) W)
theorem StarAt.noNum {w : World} {d : Nat} {v : Value} {T : Tr} (h : StarAt w (d + 1) v T) (h2 : T.kind ≠ 2) (h3 : T.kind ≠ 3) : NoNum v := by
  cases T with
  | non => obtain rfl := h; exact ⟨_, _, rfl, asI_none _, asF_none _⟩
  | bool b => obtain rfl := h; exact ⟨_, _, rfl, asI_bool _, asF_bool _⟩
  | int n V => exact absurd rfl h2
  | flt B => exact absurd rfl h3
  | str s => obtain ⟨rfl, _⟩ := h; exact ⟨_, _, rfl, asI_str _, asF_str _⟩
  | byt s => obtain ⟨rfl, _⟩ := h; exact ⟨_, _, rfl, asI_byt _, asF_byt _⟩
  | tup l => obtain ⟨s, rfl, _⟩ := h; exact ⟨_, _, rfl, asI_tup _, asF_tup _⟩
  | lst l => obtain ⟨b, s, rfl, _⟩ := h; exact ⟨_, _, rfl, asI_lst _, asF_lst _⟩
  | dic l => obtain ⟨b, rfl, _⟩ := h; exact ⟨_, _, rfl, asI_dic _, asF_dic _⟩
  | set l => obtain ⟨b, rfl, _⟩ := h; exact ⟨_, _, rfl, asI_set _, asF_set _⟩

theorem eqv_kinds (d : Nat) (X Y : Tr) (h : X.kind ≠ Y.kind) (h2 : ¬ ((X.kind = 2 ∧ Y.kind = 3) ∨ (X.kind = 3 ∧ Y.kind = 2))) : eqv d X Y = false := by
  cases d with
  | zero => rfl
  | succ d => cases X <;> cases Y <;> first | rfl | (exact absurd rfl h) | (exact absurd (Or.inl ⟨rfl, rfl⟩) h2) | (exact absurd (Or.inr ⟨rfl, rfl⟩) h2)

theorem kind_int {X : Tr} (h : X.kind = 2) : ∃ n V, X = .int n V := by
  cases X <;> first | exact ⟨_, _, rfl⟩ | (simp [Tr.kind] at h)
theorem kind_flt {X : Tr} (h : X.kind = 3) : ∃ B, X = .flt B := by
  cases X <;> first | exact ⟨_, rfl⟩ | (simp [Tr.kind] at h)
/-- CompareDepth of two values of unlike types, but for an int and a float -/
theorem CompareDepth_unlike (d e D : Nat) (hD : 1 ≤ D) (x y : Value) (X Y : Tr) (w : World) (hx : StarAt w (d + 1) x X) (hy : StarAt w (e + 1) y Y) (hk : X.kind ≠ Y.kind) (h2 : ¬ ((X.kind = 2 ∧ Y.kind = 3) ∨ (X.kind = 3 ∧ Y.kind = 2))) :
    Calls Tryz.prog 154 #[.int .i8 37, x, y, .int .i64 D] w fun e w' => e = .returned (.tuple #[.bool false, .nilIface]) ∧ Below w.heap.size w w' := by
  by_cases hi : X.kind = 2
  · obtain ⟨n, V, rfl⟩ : ∃ n V, X = .int n V := kind_int hi
    obtain ⟨t, u, rfl, _, hF⟩ := hy.noNum (fun h => hk (h.symm ▸ rfl)) (fun h => h2 (.inl ⟨rfl, h⟩))
    exact CompareDepth_iO d e D hD t x u n V Y w hx hy (fun h => hk (h.symm ▸ rfl)) hF
  · by_cases hf : X.kind = 3
    · obtain ⟨B, rfl⟩ : ∃ B, X = .flt B := kind_flt hf
      obtain ⟨t, u, rfl, hI, _⟩ := hy.noNum (fun h => h2 (.inr ⟨rfl, h⟩)) (fun h => hk (h.symm ▸ rfl))
      exact CompareDepth_fO d e D hD t x u B Y w hx hy (fun h => hk (h.symm ▸ rfl)) hI
    · obtain ⟨t, u, rfl, hI, hF⟩ := hx.noNum hi hf
      exact CompareDepth_diff d e D hD t u y X Y w hx hy hk hI hF

/-- CompareDepth of two values without parts -/
theorem CompareDepth_flat (d D : Nat) (hD : 1 ≤ D) (hD2 : D ≤ 1000000) (x y : Value) (X Y : Tr) (w : World) (hx : StarAt w (d + 1) x X) (hy : StarAt w (d + 1) y Y) (hk : KT w) (hp : X.kind ≤ 5 ∨ X.kind ≠ Y.kind) :
    Calls Tryz.prog 154 #[.int .i8 37, x, y, .int .i64 D] w fun e w' => e = .returned (.tuple #[.bool (eqv (d + 1) X Y), .nilIface]) ∧ Below w.heap.size w w' := by
  by_cases hq : X.kind = Y.kind
  · rcases hp with hp | hp
    case inr => exact absurd hq hp
    cases X <;> first | (exfalso; simp [Tr.kind] at hp; done) | skip
    all_goals (cases Y <;> first | (exfalso; simp [Tr.kind] at hq; done) | skip)
    case non.non =>
      obtain rfl := hx; obtain rfl := hy
      exact CompareDepth_none D hD w
    case bool.bool a b =>
      have hx' := hx; have hy' := hy
      obtain rfl := hx; obtain rfl := hy
      exact CompareDepth_same d d D hD _ _ _ _ _ _ _ w hx' hy' rfl (comp_bool _) (cst_bool.1 _) cst_bool.2 (fun W _ => (Cst_bool a b D W).mono (by rintro e w' ⟨rfl, rfl⟩; exact ⟨rfl, Below.refl _ _⟩))
    case int.int n V m U => exact CompareDepth_ii d D hD x y n m V U w hx hy
    case flt.flt A B =>
      obtain ⟨rfl, hA⟩ := hx; obtain ⟨rfl, hB⟩ := hy
      exact CompareDepth_ff A B D hD hA hB w
    case str.str a b =>
      have hx' := hx; have hy' := hy
      obtain ⟨rfl, _⟩ := hx; obtain ⟨rfl, _⟩ := hy
      exact CompareDepth_same d d D hD _ _ _ _ _ _ _ w hx' hy' rfl (comp_str _) (cst_str.1 _) cst_str.2 (fun W _ => (Cst_str a b D W).mono (by rintro e w' ⟨rfl, rfl⟩; exact ⟨rfl, Below.refl _ _⟩))
    case byt.byt a b =>
      have hx' := hx; have hy' := hy
      obtain ⟨rfl, _⟩ := hx; obtain ⟨rfl, _⟩ := hy
      exact CompareDepth_same d d D hD _ _ _ _ _ _ _ w hx' hy' rfl (comp_byt _) (cst_byt.1 _) cst_byt.2 (fun W _ => (Cst_byt a b D W).mono (by rintro e w' ⟨rfl, rfl⟩; exact ⟨rfl, Below.refl _ _⟩))
  · by_cases h2 : (X.kind = 2 ∧ Y.kind = 3) ∨ (X.kind = 3 ∧ Y.kind = 2)
    · rcases h2 with ⟨h2, h3⟩ | ⟨h2, h3⟩
      · obtain ⟨n, V, rfl⟩ : ∃ n V, X = .int n V := kind_int h2
        obtain ⟨B, rfl⟩ : ∃ B, Y = .flt B := kind_flt h3
        obtain ⟨u, rfl, hu, hu2, hu3⟩ := hx
        obtain ⟨rfl, hB⟩ := hy
        exact CompareDepth_if 13 (by decide) (by decide) u 0 n V B D hD hD2 hB w hu hu2 hu3 hk
      · obtain ⟨B, rfl⟩ : ∃ B, X = .flt B := kind_flt h2
        obtain ⟨n, V, rfl⟩ : ∃ n V, Y = .int n V := kind_int h3
        obtain ⟨u, rfl, hu, hu2, hu3⟩ := hy
        obtain ⟨rfl, hB⟩ := hx
        have := CompareDepth_fi 13 (by decide) (by decide) u 0 n V B D hD hD2 hB w hu hu2 hu3 hk
        rw [show opHolds 13 (-(fcAll (sI n V) B)) = (fcAll (sI n V) B == 0) by show (-(fcAll (sI n V) B) == 0) = _; rw [Bool.eq_iff_iff, beq_iff_eq, beq_iff_eq]; omega] at this
        exact this
    · rw [eqv_kinds (d + 1) X Y hq h2]
      exact CompareDepth_unlike d d D hD x y X Y w hx hy hq h2
end Go.Proofs.YtpcleebnfgnhdaaGreatDoor

/- Walks: two keys compared for equality: tuples in tuples; Equal. -/
set_option linter.unusedVariables false
set_option linter.unusedSimpArgs false
namespace Go.Proofs.YtpcleebnfgnhdaaGreatDoor
open Go.RowKit
open Num

theorem CD_key : ∀ (d D : Nat) (x y : Value) (X Y : Tr) (w : World), StarAt w d x X → StarAt w d y Y → KeyT d X → KeyT d Y → Slim d X → Slim d Y → KT w → d ≤ D → D ≤ 1000000 →
    Calls Tryz.prog 154 #[.int .i8 37, x, y, .int .i64 D] w fun e w' => e = .returned (.tuple #[.bool (eqv d X Y), .nilIface]) ∧ Below w.heap.size w w'
  | 0, _, _, _, _, _, _, h, _, _, _, _, _, _, _, _ => h.elim
  | d + 1, D, x, y, X, Y, w, hx, hy, kx, ky, sx, sy, hk, hD, hD2 => by
    by_cases hp : X.kind ≤ 5 ∨ X.kind ≠ Y.kind
    · exact CompareDepth_flat d D (by omega) hD2 x y X Y w hx hy hk hp
    · have h5 : ¬ X.kind ≤ 5 := fun h => hp (.inl h)
      have hq : X.kind = Y.kind := Decidable.byContradiction fun h => hp (.inr h)
      clear hp
      cases X <;> first | (exact kx.elim) | (exfalso; simp [Tr.kind] at h5; done) | skip
      cases Y <;> first | (exact ky.elim) | (exfalso; simp [Tr.kind] at hq; done) | skip
      rename_i l m
      have hx' := hx; have hy' := hy
      obtain ⟨s, rfl, hs⟩ := hx
      obtain ⟨t, rfl, ht⟩ := hy
      have hl : l.length ≤ 16 := sx.1
      have hm : m.length ≤ 16 := sy.1
      exact CompareDepth_same d d D (by omega) _ _ _ _ _ _ _ w hx' hy' rfl (comp_tup _) (cst_tup.1 _) cst_tup.2 (fun W hb =>
        Cst_tup (StarAt W d) (StarAt W d) (eqv d) D (by omega) hD2 s t l m (by omega) (by omega) W (hs.below hb (fun u T h => h.below hb)) (ht.below hb (fun u T h => h.below hb))
          (fun u v a b W2 ha hb1 hu hv hb2 => by
            rw [show (D : Int) - 1 = ((D - 1 : Nat) : Int) by omega]
            exact EqualDepth_of u v _ (eqv d a b) W2 (CD_key d (D - 1) u v a b W2 (hu.below hb2) (hv.below hb2) (kx a ha) (ky b hb1) (sx.2 a ha) (sy.2 b hb1) ((hk.below hb).below hb2) (by omega) (by omega))))

theorem asS_none (v : Value) (w : World) : (Instr.typeAssert (.iface 104 v) 59 96 true).run Tryz.prog w = .ok (.tuple #[.string ⟨#[]⟩, .bool false]) w := by kernel_rfl
theorem strEq_none (s : ByteArray) (v : Value) (w : World) : (binOp .eql 59 (.iface 96 (.string s)) (.iface 104 v)).run Tryz.prog w = .ok (.bool false) w := by kernel_rfl
theorem asS_bool (v : Value) (w : World) : (Instr.typeAssert (.iface 105 v) 59 96 true).run Tryz.prog w = .ok (.tuple #[.string ⟨#[]⟩, .bool false]) w := by kernel_rfl
theorem strEq_bool (s : ByteArray) (v : Value) (w : World) : (binOp .eql 59 (.iface 96 (.string s)) (.iface 105 v)).run Tryz.prog w = .ok (.bool false) w := by kernel_rfl
theorem asS_int (v : Value) (w : World) : (Instr.typeAssert (.iface 110 v) 59 96 true).run Tryz.prog w = .ok (.tuple #[.string ⟨#[]⟩, .bool false]) w := by kernel_rfl
theorem strEq_int (s : ByteArray) (v : Value) (w : World) : (binOp .eql 59 (.iface 96 (.string s)) (.iface 110 v)).run Tryz.prog w = .ok (.bool false) w := by kernel_rfl
theorem asS_flt (v : Value) (w : World) : (Instr.typeAssert (.iface 112 v) 59 96 true).run Tryz.prog w = .ok (.tuple #[.string ⟨#[]⟩, .bool false]) w := by kernel_rfl
theorem strEq_flt (s : ByteArray) (v : Value) (w : World) : (binOp .eql 59 (.iface 96 (.string s)) (.iface 112 v)).run Tryz.prog w = .ok (.bool false) w := by kernel_rfl
theorem asS_byt (v : Value) (w : World) : (Instr.typeAssert (.iface 114 v) 59 96 true).run Tryz.prog w = .ok (.tuple #[.string ⟨#[]⟩, .bool false]) w := by kernel_rfl
theorem strEq_byt (s : ByteArray) (v : Value) (w : World) : (binOp .eql 59 (.iface 96 (.string s)) (.iface 114 v)).run Tryz.prog w = .ok (.bool false) w := by kernel_rfl
theorem asS_tup (v : Value) (w : World) : (Instr.typeAssert (.iface 121 v) 59 96 true).run Tryz.prog w = .ok (.tuple #[.string ⟨#[]⟩, .bool false]) w := by kernel_rfl
theorem strEq_tup (s : ByteArray) (v : Value) (w : World) : (binOp .eql 59 (.iface 96 (.string s)) (.iface 121 v)).run Tryz.prog w = .ok (.bool false) w := by kernel_rfl
theorem asS_lst (v : Value) (w : World) : (Instr.typeAssert (.iface 115 v) 59 96 true).run Tryz.prog w = .ok (.tuple #[.string ⟨#[]⟩, .bool false]) w := by kernel_rfl
theorem strEq_lst (s : ByteArray) (v : Value) (w : World) : (binOp .eql 59 (.iface 96 (.string s)) (.iface 115 v)).run Tryz.prog w = .ok (.bool false) w := by kernel_rfl
theorem asS_dic (v : Value) (w : World) : (Instr.typeAssert (.iface 122 v) 59 96 true).run Tryz.prog w = .ok (.tuple #[.string ⟨#[]⟩, .bool false]) w := by kernel_rfl
theorem strEq_dic (s : ByteArray) (v : Value) (w : World) : (binOp .eql 59 (.iface 96 (.string s)) (.iface 122 v)).run Tryz.prog w = .ok (.bool false) w := by kernel_rfl
theorem asS_set (v : Value) (w : World) : (Instr.typeAssert (.iface 124 v) 59 96 true).run Tryz.prog w = .ok (.tuple #[.string ⟨#[]⟩, .bool false]) w := by kernel_rfl
theorem strEq_set (s : ByteArray) (v : Value) (w : World) : (binOp .eql 59 (.iface 96 (.string s)) (.iface 124 v)).run Tryz.prog w = .ok (.bool false) w := by kernel_rfl
theorem asS_str (v : Value) (w : World) : (Instr.typeAssert (.iface 96 v) 59 96 true).run Tryz.prog w = .ok (.tuple #[v, .bool true]) w := by kernel_rfl
theorem strEq_str (s t : ByteArray) (w : World) : (binOp .eql 59 (.iface 96 (.string s)) (.iface 96 (.string t))).run Tryz.prog w = .ok (.bool (s == t)) w := by kernel_rfl
theorem bytes_beq (s t : ByteArray) : (s == t) = decide (s = t) := by
  rw [beq_toListBytes, Bool.eq_iff_iff, beq_iff_eq, decide_eq_true_iff, ByteArray.toList_eq, ByteArray.toList_eq]
  constructor
  · intro h
    have := Array.toList_inj.1 h
    cases s; cases t; simp_all
  · intro h; rw [h]
/-- what is known of a value's type: it is no String -/
def NoStr (v : Value) : Prop := ∃ t u, v = .iface t u ∧
  (∀ W : World, (Instr.typeAssert (.iface t u) 59 96 true).run Tryz.prog W = .ok (.tuple #[.string ⟨#[]⟩, .bool false]) W) ∧
  (∀ (s : ByteArray) (W : World), (binOp .eql 59 (.iface 96 (.string s)) (.iface t u)).run Tryz.prog W = .ok (.bool false) W)
theorem StarAt.noStr {w : World} {d : Nat} {v : Value} {T : Tr} (h : StarAt w (d + 1) v T) (h2 : T.kind ≠ 4) : NoStr v := by
  cases T with
  | non => obtain rfl := h; exact ⟨_, _, rfl, asS_none _, fun s => strEq_none s _⟩
  | bool b => obtain rfl := h; exact ⟨_, _, rfl, asS_bool _, fun s => strEq_bool s _⟩
  | int n V => obtain ⟨u, rfl, _⟩ := h; exact ⟨_, _, rfl, asS_int _, fun s => strEq_int s _⟩
  | flt B => obtain ⟨rfl, _⟩ := h; exact ⟨_, _, rfl, asS_flt _, fun s => strEq_flt s _⟩
  | str s => exact absurd rfl h2
  | byt s => obtain ⟨rfl, _⟩ := h; exact ⟨_, _, rfl, asS_byt _, fun s => strEq_byt s _⟩
  | tup l => obtain ⟨s, rfl, _⟩ := h; exact ⟨_, _, rfl, asS_tup _, fun s => strEq_tup s _⟩
  | lst l => obtain ⟨b, s, rfl, _⟩ := h; exact ⟨_, _, rfl, asS_lst _, fun s => strEq_lst s _⟩
  | dic l => obtain ⟨b, rfl, _⟩ := h; exact ⟨_, _, rfl, asS_dic _, fun s => strEq_dic s _⟩
  | set l => obtain ⟨b, rfl, _⟩ := h; exact ⟨_, _, rfl, asS_set _, fun s => strEq_set s _⟩
theorem kind_str {X : Tr} (h : X.kind = 4) : ∃ s, X = .str s := by
  cases X <;> first | exact ⟨_, rfl⟩ | (simp [Tr.kind] at h)

/-- Equal, by EqualDepth's answer at the limit -/
theorem Equal_of (d e : Nat) (x y : Value) (X Y : Tr) (w : World) (hx : StarAt w (d + 1) x X) (hy : StarAt w (e + 1) y Y) (hc : CL w)
    (hE : Calls Tryz.prog 133 #[x, y, .int .i64 10] w fun e w' => e = .returned (.tuple #[.bool (eqv (d + 1) X Y), .nilIface]) ∧ Below w.heap.size w w') :
    Calls Tryz.prog 103 #[x, y] w fun e w' => e = .returned (.tuple #[.bool (eqv (d + 1) X Y), .nilIface]) ∧ Below w.heap.size w w' := by
  have hc' : w.cell? ⟨1, 0, none⟩ = some (.int .i64 10) := hc
  have H := Lib.hid hE
  clear hc hE
  by_cases h4 : X.kind = 4
  · obtain ⟨s, rfl⟩ := kind_str h4
    obtain ⟨rfl, _⟩ := hx
    have a1 := asS_str (.string s)
    by_cases k4 : Y.kind = 4
    · obtain ⟨t, rfl⟩ := kind_str k4
      obtain ⟨rfl, _⟩ := hy
      have a2 := strEq_str s t
      have hR : eqv (d + 1) (.str s) (.str t) = (s == t) := (bytes_beq s t).symm
      rw [hR]
      clear hR H h4 k4
      go_enter Tryz.func103, Tryz.ntmps103
      go_wp2
      go_ret2
      exact ⟨rfl, Below.refl _ _⟩
    · obtain ⟨t, u, rfl, _, h2⟩ := hy.noStr k4
      have a2 := h2 s
      have hR : eqv (d + 1) (.str s) Y = false := by cases Y <;> first | rfl | (exact absurd rfl k4)
      rw [hR]
      clear hR H h4 k4 hy h2
      go_enter Tryz.func103, Tryz.ntmps103
      go_wp2
      go_ret2
      exact ⟨rfl, Below.refl _ _⟩
  · obtain ⟨t, u, rfl, a1, _⟩ := hx.noStr h4
    clear hx hy h4
    go_enter Tryz.func103, Tryz.ntmps103
    go_wp2_with fail
    refine H.out.mono ?_
    rintro e w2 ⟨rfl, hb⟩
    have HB := Lib.hid hb; clear hb
    go_wp2
    go_ret2
    exact ⟨rfl, HB.out⟩

theorem Equal_key (d : Nat) (x y : Value) (X Y : Tr) (w : World) (hd : d ≤ 10) (hx : StarAt w d x X) (hy : StarAt w d y Y) (kx : KeyT d X) (ky : KeyT d Y) (sx : Slim d X) (sy : Slim d Y) (hk : KT w) (hc : CL w) :
    Calls Tryz.prog 103 #[x, y] w fun e w' => e = .returned (.tuple #[.bool (eqv d X Y), .nilIface]) ∧ Below w.heap.size w w' := by
  cases d with
  | zero => exact hx.elim
  | succ d => exact Equal_of d d x y X Y w hx hy hc (EqualDepth_of x y 10 _ w (CD_key (d + 1) 10 x y X Y w hx hy kx ky sx sy hk hd (by omega)))
end Go.Proofs.YtpcleebnfgnhdaaGreatDoor

/- Walks: a hash table is begun; its load. -/
set_option linter.unusedVariables false
set_option linter.unusedSimpArgs false
namespace Go.Proofs.YtpcleebnfgnhdaaGreatDoor
open Go.RowKit
open Num

theorem overloaded_small (n k : Int) (hn : n < 8) (w : World) : Calls Tryz.prog 104 #[.int .i64 n, .int .i64 k] w fun e w' => e = .returned (.bool false) ∧ w' = w := by
  have h2 : decide (8 ≤ n) = false := by simp; omega
  go_enter Tryz.func104, Tryz.ntmps104
  go_wp2
  go_ret
  exact ⟨rfl, rfl⟩
section
variable {w : World} {t b n : Nat} {laid : Bool} {H : Nat → Nat} {K V : Nat → Value}
theorem ht_cell {f : Nat → Value} (h : Row w b t 47 f) (j : Nat) (hj : j < 47) : w.cell? ⟨b, j, none⟩ = some (f j) := h.cell hj
end
theorem checkMutable_any (t b : Nat) (s : ByteArray) (w : World) (h43 : w.cell? ⟨b, 43, none⟩ = some (.int .u32 0)) (h46 : w.cell? ⟨b, 46, none⟩ = some (.bool false)) :
    Calls Tryz.prog 101 #[.pointer (some ⟨b, 0, none⟩), .string s] w fun e w' => e = .returned .nilIface ∧ w' = w := by
  go_enter Tryz.func101, Tryz.ntmps101
  go_wp2
  go_ret
  exact ⟨rfl, rfl⟩
set_option maxRecDepth 100000 in
theorem init_any (t b : Nat) (f : Nat → Value) (w : World) (hr : Row w b t 47 f) :
    Calls Tryz.prog 102 #[.pointer (some ⟨b, 0, none⟩), .int .i64 1] w fun e w' => e = .returned (.tuple #[]) ∧ Row w' b t 47 (fun j => if j = 45 then .pointer (some ⟨b, 44, none⟩) else if j = 0 then .slice (some ⟨b, 1, none⟩) 1 1 else f j) ∧ Chg b w w' := by
  have c0 := hr.cell (i := 0) (by omega)
  have c45 := hr.cell (i := 45) (by omega)
  have z0 := hr.frozen 0
  have z45 := hr.frozen 45
  have HO := Lib.hid (fun W : World => overloaded_small 1 1 (by omega) W)
  have HR := Lib.hid hr
  clear hr
  go_enter Tryz.func102, Tryz.ntmps102
  go_wp2
  refine wp_loop_rounds 1 ?_
  rw [rounds_succ]
  go_wp2_with fail
  refine (HO.out _).mono ?_
  rintro e w2 ⟨rfl, rfl⟩
  go_wp2
  go_end0
  exact ⟨rfl, (HR.out.set 0 _).set 45 _, ((Chg.refl _ _).set _ _).set _ _⟩
end Go.Proofs.YtpcleebnfgnhdaaGreatDoor

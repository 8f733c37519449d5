import Derived.Test.YtjkmppdmejgjiaaGreatDoorEz36
import Derived.Test.YtjkmppdmejgjiaaGreatDoorEz35
import Derived.Test.YtjkmppdmejgjiaaGreatDoorEz34
import Derived.Test.YtjkmppdmejgjiaaGreatDoorEz30
import Derived.Test.YtjkmppdmejgjiaaGreatDoorEz31
/- Walks: spec.Equal of any two clean values. -/
set_option linter.unusedVariables false
set_option linter.unusedSimpArgs false
namespace Go.Proofs.YtjkmppdmejgjiaaGreatDoor
open Go.RowKit
open Num

theorem FoundAt.any1 {f : Tr → Bool} {l : List Tr} {r : Int} (h : FoundAt f 1 l r) : (r < 0 ∧ l.any f = false) ∨ (¬ r < 0 ∧ l.any f = true) := by
  rcases h with ⟨rfl, h⟩ | ⟨i, hi, rfl, h, _⟩
  · refine .inl ⟨by omega, ?_⟩
    rw [List.any_eq_false]
    intro y hy
    obtain ⟨j, hj, rfl⟩ := List.getElem_of_mem hy
    have h1 := h j (by omega)
    rw [show l[j * 1]'(by omega) = l[j] by congr 1; omega] at h1
    rw [h1]; exact Bool.false_ne_true
  · refine .inr ⟨by omega, ?_⟩
    rw [List.any_eq_true]
    exact ⟨_, List.getElem_mem hi, h⟩

theorem SEq_any : ∀ (d : Nat) (x y : Value) (X Y : Tr) (w : World), ValAt w d x X → ValAt w d y Y → CleanT d X → CleanT d Y →
    Calls Tryz.prog 8 #[x, y] w fun e w' => e = .returned (.bool (eqv d X Y)) ∧ Below w.heap.size w w'
  | 0, _, _, _, _, _, h, _, _, _ => h.elim
  | d + 1, x, y, X, Y, w, hx, hy, cx, cy => by
    by_cases hp : X.kind ≤ 5 ∨ X.kind ≠ Y.kind
    · exact SEq_flat d d x y X Y w hx hy hp
    · have h5 : ¬ X.kind ≤ 5 := fun h => hp (.inl h)
      have hq : X.kind = Y.kind := Decidable.byContradiction fun h => hp (.inr h)
      clear hp
      have hR : ∀ (l m : List Tr), (∀ k ∈ l, CleanT d k) → (∀ k ∈ m, CleanT d k) → ∀ (u v : Value) (a b : Tr) (W : World), a ∈ l → b ∈ m → ValAt w d u a → ValAt w d v b → Below w.heap.size w W →
          Calls Tryz.prog 8 #[u, v] W fun e w' => e = .returned (.bool (eqv d a b)) ∧ Below W.heap.size W w' := fun l m cl cm u v a b W ha hb hu hv hbl =>
        SEq_any d u v a b W (hu.below hbl) (hv.below hbl) (cl a ha) (cm b hb)
      cases X <;> first | (exfalso; simp [Tr.kind] at h5; done) | skip
      all_goals cases Y <;> first | (exfalso; simp [Tr.kind] at hq; done) | skip
      case lst.lst l m =>
        obtain ⟨s, rfl, hs⟩ := hx
        obtain ⟨t, rfl, ht⟩ := hy
        have hl : l.length ≤ 8 := cx.2
        have hm : m.length ≤ 8 := cy.2
        exact SEq_seq (ValAt w d) (ValAt w d) (eqv d) 6 (.inl rfl) s t l m (by omega) (by omega) w hs ht (fun u T _ h => h.shape) (fun u T _ h => h.shape) (hR l m cx.1 cy.1)
      case tup.tup l m =>
        obtain ⟨s, rfl, hs⟩ := hx
        obtain ⟨t, rfl, ht⟩ := hy
        have hl : l.length ≤ 16 := cx.2
        have hm : m.length ≤ 16 := cy.2
        exact SEq_seq (ValAt w d) (ValAt w d) (eqv d) 7 (.inr rfl) s t l m (by omega) (by omega) w hs ht (fun u T _ h => h.shape) (fun u T _ h => h.shape) (hR l m cx.1 cy.1)
      case dic.dic l m =>
        obtain ⟨s, rfl, hs⟩ := hx
        obtain ⟨t, rfl, ht⟩ := hy
        obtain ⟨cl, el, nl, kl, al⟩ := cx
        obtain ⟨cm, em, nm, km, am⟩ := cy
        have nl' : l.length ≤ 16 := nl
        have nm' : m.length ≤ 16 := nm
        exact SEq_dic (ValAt w d) (ValAt w d) (eqv d) s t l m (by omega) (by omega) el em w hs ht (fun u T _ h => h.shape) (fun u T _ h => h.shape)
          (fun u i W h hu hb => Find_any (ValAt W d) (fun y => eqv d y (l.getD (2 * i) .non)) 2 (.inr rfl) t u m (by omega) W (ht.below hb (fun u T h => h.below hb)) (fun u T _ h => h.shape) hu.shape
            (fun j v W2 hj hv hb2 => SEq_any d v u _ _ W2 (hv.below hb2) (hu.below (hb.trans (hb2.mono hb.size))) (cm _ (List.getElem_mem hj)) (cl _ (by rw [getD_el h]; exact List.getElem_mem h))))
          (hR l m cl cm)
      case set.set l m =>
        obtain ⟨s, rfl, hs⟩ := hx
        obtain ⟨t, rfl, ht⟩ := hy
        obtain ⟨cl, nl, kl, al⟩ := cx
        obtain ⟨cm, nm, km, am⟩ := cy
        obtain ⟨sa, sc, rfl⟩ := hs.shape
        obtain ⟨ta, tc, rfl⟩ := ht.shape
        have nl' : l.length ≤ 8 := nl
        have nm' : m.length ≤ 8 := nm
        refine SEq_set sa ta l.length m.length sc tc (l.all fun x => m.any fun y => eqv d y x) w (fun W hb _ => ?_)
        refine within_any (ValAt W d) (fun x => m.any fun y => eqv d y x) 9 9 _ l ta m.length tc (by omega) W (hs.below hb (fun u T h => h.below hb)) (fun u T _ h => h.shape) (fun u x W2 hx hu hb2 => ?_)
        have hbb := hb.trans (hb2.mono hb.size)
        refine (Find_any (ValAt W2 d) (fun y => eqv d y x) 1 (.inl rfl) _ u m (by omega) W2 (ht.below hbb (fun u T h => h.below hbb)) (fun u T _ h => h.shape) (hu.below hb2).shape
          (fun j v W3 hj hv hb3 => SEq_any d v u _ _ W3 (hv.below hb3) ((hu.below hb2).below hb3) (cm _ (List.getElem_mem hj)) (cl _ hx))).mono ?_
        rintro e w' ⟨r, rfl, hr, hb4⟩
        exact ⟨r, rfl, hr.any1, hb4⟩
end Go.Proofs.YtjkmppdmejgjiaaGreatDoor

/- Walks: impl.EqualDepth. -/
set_option linter.unusedVariables false
set_option linter.unusedSimpArgs false
namespace Go.Proofs.YtjkmppdmejgjiaaGreatDoor
open Go.RowKit
open Num

set_option maxRecDepth 100000 in
set_option maxHeartbeats 2000000 in
theorem implEqualDepth_any (d D : Nat) (v1 v2 : Value) (T1 T2 : Tr) (w : World) (hd : d ≤ 11) (h1 : ValAt w d v1 T1) (h2 : ValAt w d v2 T2) (c1 : CleanT d T1) (c2 : CleanT d T2) (hkt : KT w) (hcl : CL w) (hD : d ≤ D) (hD2 : D ≤ 1000000) :
    Calls Tryz.prog 7 #[v1, v2, .int .i64 D] w fun e w' => e = .returned (.tuple #[.bool (eqv d T1 T2), .bool true, .bool true]) ∧ Below w.heap.size w w' := by
  obtain ⟨k, n, a, m, c, b, s, a2, m2, c2', rfl⟩ := h1.shape
  obtain ⟨k', n', a', m', c', b', s', a2', m2', c2'', rfl⟩ := h2.shape
  obtain ⟨w1, hw1⟩ : ∃ w1, w1 = (w.alloc (sixO k n a m c b s a2 m2 c2')).alloc (sixO k' n' a' m' c' b' s' a2' m2' c2'') := ⟨_, rfl⟩
  obtain ⟨r0, r1, hb1, _⟩ := two_new w (sixO k n a m c b s a2 m2 c2') (sixO k' n' a' m' c' b' s' a2' m2' c2'')
  rw [← hw1] at r0 r1 hb1
  have HW1 := Lib.hid hw1; have HB1 := Lib.hid hb1
  have HV1 := Lib.hid (value_any d _ T1 w1 hd (h1.below hb1) c1 (hkt.below hb1) (hcl.below hb1))
  have HV2 := Lib.hid (fun W (hb : Below w1.heap.size w1 W) => value_any d _ T2 W hd ((h2.below hb1).below hb) c2 ((hkt.below hb1).below hb) ((hcl.below hb1).below hb))
  have HE := Lib.hid (fun x y W (hx : StarAt W d x T1) (hy : StarAt W d y T2) (hb : Below w.heap.size w W) => EqualDepth_of x y D (eqv d T1 T2) W (CD_any d D x y T1 T2 W hd hx hy c1 c2 (hkt.below hb) (hcl.below hb) hD hD2))
  obtain ⟨r, hr⟩ : ∃ r, r = eqv d T1 T2 := ⟨_, rfl⟩
  rw [← hr] at HE ⊢
  clear hr
  have HBX := Lib.hid (fun W (hb : Below w1.heap.size w1 W) => box6 r1 hb)
  obtain ⟨x0, x1, x2, x3, x4, x5⟩ := box6 r0 (Below.refl _ _)
  clear hw1 r0 r1 hb1 h1 h2 hkt hcl
  go_enter Tryz.func7, Tryz.ntmps7
  go_wp2_with fail
  rw [← HW1.out]
  refine HV1.out.mono ?_
  rintro e w2 ⟨u, rfl, hu, hb2⟩
  obtain ⟨tu, uu, rfl⟩ : ∃ t v, u = .iface t v := hu.self.iface
  obtain ⟨z0, z1, z2, z3, z4, z5⟩ := HBX.out w2 hb2
  have HB2 := Lib.hid (HB1.out.trans (hb2.mono HB1.out.size))
  have HC2 := Lib.hid (HV2.out w2 hb2)
  have HU := Lib.hid hu
  clear hb2 hu
  go_wp2_with fail
  refine HC2.out.mono ?_
  rintro e w3 ⟨y, rfl, hy, hb3⟩
  obtain ⟨ty, uy, rfl⟩ : ∃ t v, y = .iface t v := hy.self.iface
  have HB3 := Lib.hid (HB2.out.trans (hb3.mono HB2.out.size))
  have HQ := Lib.hid (HE.out _ _ w3 (HU.out.later hb3) hy.self HB3.out)
  clear hb3 hy
  go_wp2_with fail
  refine HQ.out.mono ?_
  rintro e w4 ⟨rfl, hb4⟩
  have HB4 := Lib.hid (HB3.out.trans (hb4.mono HB3.out.size))
  clear hb4
  cases r
  all_goals
    go_wp2
    go_quiet (fail)
    obtain ⟨w5, hw5⟩ : ∃ w5, w5 = w4.drewN nq := ⟨_, rfl⟩
    rw [← hw5]
    have HB5 := Lib.hid (show Below w.heap.size w w5 by rw [hw5]; exact ⟨HB4.out.os, HB4.out.tape, HB4.out.output, HB4.out.size, HB4.out.block⟩)
    clear hw5
    go_wp2
  · exact bodyPost_ret (v := .tuple #[.bool false, .bool true, .bool true]) (by simp [results, Tryz.results7, go_sem]) rfl ⟨rfl, HB5.out⟩
  · exact bodyPost_ret (v := .tuple #[.bool true, .bool true, .bool true]) (by simp [results, Tryz.results7, go_sem]) rfl ⟨rfl, HB5.out⟩
end Go.Proofs.YtjkmppdmejgjiaaGreatDoor

/- A value's box that was just made, behind a call. -/
set_option linter.unusedVariables false
set_option linter.unusedSimpArgs false
namespace Go.Proofs.YtjkmppdmejgjiaaGreatDoor
open Go.RowKit
open Num

theorem below_alx {w W : World} (h : Below w.heap.size w W) (O : Obj) : Below w.heap.size w (W.alloc O) := h.alloc h.size O

theorem below_step {w W W2 W3 : World} (h1 : Below w.heap.size w W) (h2 : Below W.heap.size W W2) (h3 : Below W2.heap.size W2 W3) : Below w.heap.size w W3 := (h1.trans (h2.mono h1.size)).trans (h3.mono (Nat.le_trans h1.size h2.size))

abbrev zO : Obj := .cells #[.int .i64 0, .bool false, .slice none 0 0, .int .u64 0, .string ⟨#[]⟩, .slice none 0 0] 26
/-- a value's box that was just made -/
def Zx (w : World) (b : Nat) : Prop := w.heap[b]? = some zO
theorem Zx.lt {w : World} {b : Nat} (h : Zx w b) : b < w.heap.size := (Array.getElem?_eq_some_iff.1 h).1
theorem Zx.new (w : World) : Zx (w.alloc zO) w.heap.size := heap_alloc_new w zO
theorem Zx.al {w : World} {b : Nat} (h : Zx w b) (O : Obj) : Zx (w.alloc O) b := (Below.heap_alloc w O b h.lt).trans h
theorem Zx.new2 (w : World) : Zx ((w.alloc zO).alloc zO) (w.heap.size + 1) := by
  have := Zx.new (w.alloc zO)
  rwa [World.size_alloc] at this
theorem Zx.below {w w' : World} {b : Nat} (h : Zx w b) (hb : Below w.heap.size w w') : Zx w' b := (hb.block b h.lt).trans h
theorem Zx.cells {w : World} {b : Nat} (h : Zx w b) : w.cell? ⟨b, 0, none⟩ = some (.int .i64 0) ∧ w.cell? ⟨b, 1, none⟩ = some (.bool false) ∧ w.cell? ⟨b, 2, none⟩ = some (.slice none 0 0) ∧ w.cell? ⟨b, 3, none⟩ = some (.int .u64 0) ∧ w.cell? ⟨b, 4, none⟩ = some (.string ⟨#[]⟩) ∧ w.cell? ⟨b, 5, none⟩ = some (.slice none 0 0) :=
  box6 h (Below.refl _ _)
theorem Zx.fr {w : World} {b : Nat} (h : Zx w b) (i : Nat) : w.frozen? ⟨b, i, none⟩ = false := by
  unfold Zx at h
  simp [World.frozen?, h]

theorem Zx.put {w : World} {b : Nat} (h : Zx w b) (x0 x1 x2 x3 x4 x5 : Value) : (put6 w b x0 x1 x2 x3 x4 x5).heap[b]? = some (.cells #[x0, x1, x2, x3, x4, x5] 26 (0, 0)) := put6_heap h
theorem below_put6 {w W : World} (h : Below w.heap.size w W) {b : Nat} (hb : w.heap.size ≤ b) (x0 x1 x2 x3 x4 x5 : Value) : Below w.heap.size w (put6 W b x0 x1 x2 x3 x4 x5) := Chg.below h h.size (put6_chg W b x0 x1 x2 x3 x4 x5) hb
/-- one box, two boxes made ahead of a call that follows a draw -/
theorem zx_one {w W : World} (h : Below (w.alloc zO).drew.heap.size (w.alloc zO).drew W) : Zx W w.heap.size := (Zx.new w.drew).below h
theorem zx_two {w W : World} (h : Below ((w.alloc zO).alloc zO).drew.heap.size ((w.alloc zO).alloc zO).drew W) : Zx W w.heap.size ∧ Zx W (w.heap.size + 1) := ⟨((Zx.new w.drew).al _).below h, (Zx.new2 w.drew).below h⟩
theorem zx_one' {w W : World} (h : Below (w.alloc zO).heap.size (w.alloc zO) W) : Zx W w.heap.size := (Zx.new w).below h
theorem zx_two' {w W : World} (h : Below ((w.alloc zO).alloc zO).heap.size ((w.alloc zO).alloc zO) W) : Zx W w.heap.size ∧ Zx W (w.heap.size + 1) := ⟨((Zx.new w).al _).below h, (Zx.new2 w).below h⟩
theorem below_chain6 {w W : World} (h : Below w.heap.size w W) {b : Nat} (hb : w.heap.size ≤ b) (x0 x1 x2 x3 x4 x5 : Value) : Below w.heap.size w ((((((W.setCell ⟨b, 0, none⟩ x0).setCell ⟨b, 1, none⟩ x1).setCell ⟨b, 2, none⟩ x2).setCell ⟨b, 3, none⟩ x3).setCell ⟨b, 4, none⟩ x4).setCell ⟨b, 5, none⟩ x5) := below_put6 h hb x0 x1 x2 x3 x4 x5
theorem chain6_row {w : World} {B T : Nat} {a0 a1 a2 a3 a4 a5 : Value} (x0 x1 x2 x3 x4 x5 : Value) (h : w.heap[B]? = some (.cells #[a0, a1, a2, a3, a4, a5] T (0, 0))) : ((((((w.setCell ⟨B, 0, none⟩ x0).setCell ⟨B, 1, none⟩ x1).setCell ⟨B, 2, none⟩ x2).setCell ⟨B, 3, none⟩ x3).setCell ⟨B, 4, none⟩ x4).setCell ⟨B, 5, none⟩ x5).heap[B]? = some (.cells #[x0, x1, x2, x3, x4, x5] T (0, 0)) := put6_heap h
theorem chain6_far {w : World} {B k : Nat} (x0 x1 x2 x3 x4 x5 : Value) (h : k ≠ B) : ((((((w.setCell ⟨B, 0, none⟩ x0).setCell ⟨B, 1, none⟩ x1).setCell ⟨B, 2, none⟩ x2).setCell ⟨B, 3, none⟩ x3).setCell ⟨B, 4, none⟩ x4).setCell ⟨B, 5, none⟩ x5).heap[k]? = w.heap[k]? :=
  (Below.heap_setCell _ ⟨B, 5, none⟩ x5 k h).trans ((Below.heap_setCell _ ⟨B, 4, none⟩ x4 k h).trans ((Below.heap_setCell _ ⟨B, 3, none⟩ x3 k h).trans ((Below.heap_setCell _ ⟨B, 2, none⟩ x2 k h).trans ((Below.heap_setCell _ ⟨B, 1, none⟩ x1 k h).trans (Below.heap_setCell _ ⟨B, 0, none⟩ x0 k h)))))
theorem size_alloc_drew' (w : World) (O : Obj) : (w.alloc O).drew.heap.size = w.heap.size + 1 := World.size_alloc w O
theorem size_alloc2_drew (w : World) (O O' : Obj) : ((w.alloc O).alloc O').drew.heap.size = w.heap.size + 2 := by
  show ((w.alloc O).alloc O').heap.size = _
  simp
theorem zx_row {w : World} {b : Nat} (h : Zx w b) : w.heap[b]? = some (.cells #[.int .i64 0, .bool false, .slice none 0 0, .int .u64 0, .string ⟨#[]⟩, .slice none 0 0] 26 (0, 0)) := h
theorem chain6_zx {w : World} {B : Nat} (x0 x1 x2 x3 x4 x5 : Value) (h : Zx w B) : ((((((w.setCell ⟨B, 0, none⟩ x0).setCell ⟨B, 1, none⟩ x1).setCell ⟨B, 2, none⟩ x2).setCell ⟨B, 3, none⟩ x3).setCell ⟨B, 4, none⟩ x4).setCell ⟨B, 5, none⟩ x5).heap[B]? = some (.cells #[x0, x1, x2, x3, x4, x5] 26 (0, 0)) := put6_heap h
theorem Zx.chain_far {w : World} {B k : Nat} (x0 x1 x2 x3 x4 x5 : Value) (h : k ≠ B) (hz : Zx w k) : Zx ((((((w.setCell ⟨B, 0, none⟩ x0).setCell ⟨B, 1, none⟩ x1).setCell ⟨B, 2, none⟩ x2).setCell ⟨B, 3, none⟩ x3).setCell ⟨B, 4, none⟩ x4).setCell ⟨B, 5, none⟩ x5) k := (chain6_far x0 x1 x2 x3 x4 x5 h).trans hz
/-- two values that lie in boxes -/
def TwoAt (w1 W : World) (s7 s8 : Value) : Prop :=
  ∃ b1 b2 p0 p1 p2 p3 p4 p5 p6 p7 p8 p9 q0 q1 q2 q3 q4 q5 q6 q7 q8 q9 tA tB, s7 = .pointer (some ⟨b1, 0, none⟩) ∧ s8 = .pointer (some ⟨b2, 0, none⟩) ∧ W.heap[b1]? = some (sixO p0 p1 p2 p3 p4 p5 p6 p7 p8 p9) ∧ W.heap[b2]? = some (sixO q0 q1 q2 q3 q4 q5 q6 q7 q8 q9) ∧
    ValAt W 4 (sixV p0 p1 p2 p3 p4 p5 p6 p7 p8 p9) tA ∧ ValAt W 4 (sixV q0 q1 q2 q3 q4 q5 q6 q7 q8 q9) tB ∧ CleanT 4 tA ∧ CleanT 4 tB ∧ Below w1.heap.size w1 W
end Go.Proofs.YtjkmppdmejgjiaaGreatDoor

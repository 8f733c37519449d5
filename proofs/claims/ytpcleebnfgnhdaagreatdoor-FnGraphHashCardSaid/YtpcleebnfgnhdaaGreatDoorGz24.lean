import Derived.Test.YtpcleebnfgnhdaaGreatDoorGz23
import Derived.Test.YtpcleebnfgnhdaaGreatDoorGz9
import Derived.ArgAppend
/- Walks: a dict and a set of the package are made. -/
set_option linter.unusedVariables false
set_option linter.unusedSimpArgs false
namespace Go.Proofs.YtpcleebnfgnhdaaGreatDoor
open Go.RowKit
open Num

theorem SetKey_of (b : Nat) (k v : Value) (R : World → Prop) (w : World) (h : Calls Tryz.prog 84 #[.pointer (some ⟨b, 0, none⟩), k, v] w fun e w' => e = .returned .nilIface ∧ R w') :
    Calls Tryz.prog 60 #[.pointer (some ⟨b, 0, none⟩), k, v] w fun e w' => e = .returned .nilIface ∧ R w' := by
  have H := Lib.hid h
  clear h
  go_enter Tryz.func60, Tryz.ntmps60
  go_wp2_with fail
  refine H.out.mono ?_
  rintro e w2 ⟨rfl, hr⟩
  have HR := Lib.hid hr; clear hr
  go_wp2
  go_ret
  exact ⟨rfl, HR.out⟩
theorem SetInsert_of (b : Nat) (k : Value) (R : World → Prop) (w : World) (h : Calls Tryz.prog 84 #[.pointer (some ⟨b, 0, none⟩), k, .iface 104 (.int .u8 0)] w fun e w' => e = .returned .nilIface ∧ R w') :
    Calls Tryz.prog 79 #[.pointer (some ⟨b, 0, none⟩), k] w fun e w' => e = .returned .nilIface ∧ R w' := by
  have H := Lib.hid h
  clear h
  go_enter Tryz.func79, Tryz.ntmps79
  go_wp2_with fail
  refine H.out.mono ?_
  rintro e w2 ⟨rfl, hr⟩
  have HR := Lib.hid hr; clear hr
  go_wp2
  go_ret
  exact ⟨rfl, HR.out⟩
theorem DictLen_any (b n : Nat) (w : World) (h : w.cell? ⟨b, 42, none⟩ = some (.int .u32 n)) (hn : n ≤ 8) :
    Calls Tryz.prog 61 #[.pointer (some ⟨b, 0, none⟩)] w fun e w' => e = .returned (.int .i64 n) ∧ w' = w := by
  have h0 : (0 : Int) ≤ (n : Int) := by omega
  go_enter Tryz.func61, Tryz.ntmps61
  go_wp2
  go_ret
  exact ⟨rfl, rfl⟩
theorem SetLen_any (b n : Nat) (w : World) (h : w.cell? ⟨b, 42, none⟩ = some (.int .u32 n)) (hn : n ≤ 8) :
    Calls Tryz.prog 80 #[.pointer (some ⟨b, 0, none⟩)] w fun e w' => e = .returned (.int .i64 n) ∧ w' = w := by
  have h0 : (0 : Int) ≤ (n : Int) := by omega
  go_enter Tryz.func80, Tryz.ntmps80
  go_wp2
  go_ret
  exact ⟨rfl, rfl⟩

theorem keysOf_getD : ∀ (l : List Tr) (i : Nat), l.length % 2 = 0 → (keysOf l).getD i .non = l.getD (2 * i) .non
  | [], i, _ => by simp [keysOf]
  | [x], i, h => by simp at h
  | k :: v :: l, 0, _ => by simp [keysOf]
  | k :: v :: l, i + 1, h => by
    have := keysOf_getD l i (by simp at h; omega)
    show (k :: keysOf l).getD (i + 1) .non = (k :: v :: l).getD (2 * (i + 1)) .non
    rw [show 2 * (i + 1) = 2 * i + 1 + 1 by omega, List.getD_cons_succ, List.getD_cons_succ, List.getD_cons_succ]
    exact this
theorem valsOf_getD : ∀ (l : List Tr) (i : Nat), l.length % 2 = 0 → (valsOf l).getD i .non = l.getD (2 * i + 1) .non
  | [], i, _ => by simp [valsOf]
  | [x], i, h => by simp at h
  | k :: v :: l, 0, _ => by simp [valsOf]
  | k :: v :: l, i + 1, h => by
    have := valsOf_getD l i (by simp at h; omega)
    show (v :: valsOf l).getD (i + 1) .non = (k :: v :: l).getD (2 * (i + 1) + 1) .non
    rw [show 2 * (i + 1) + 1 = (2 * i + 1) + 1 + 1 by omega, List.getD_cons_succ, List.getD_cons_succ, List.getD_cons_succ]
    exact this
theorem keysOf_length : ∀ (l : List Tr), (keysOf l).length = l.length / 2
  | [] => rfl
  | [x] => by simp [keysOf]
  | k :: v :: l => by
    have := keysOf_length l
    simp only [keysOf, List.length_cons, this]; omega
theorem valsOf_length : ∀ (l : List Tr), (valsOf l).length = l.length / 2
  | [] => rfl
  | [x] => by simp [valsOf]
  | k :: v :: l => by
    have := valsOf_length l
    simp only [valsOf, List.length_cons, this]; omega
theorem Apart.get {d : Nat} : ∀ {l : List Tr}, Apart d l → ∀ i j (h : i < j) (hj : j < l.length), eqv d (l.getD i .non) (l.getD j .non) = false
  | [], _, i, j, _, hj => by simp at hj
  | x :: l, h, 0, j + 1, _, hj => by
    have hj' : j < l.length := by simpa using hj
    have := h.1 (l[j]) (List.getElem_mem hj')
    simpa [hj'] using this
  | x :: l, h, i + 1, j + 1, hij, hj => by
    have := Apart.get h.2 i j (by omega) (by simpa using hj)
    simpa using this
theorem htCell_congr {b n : Nat} {laid : Bool} {H H' : Nat → Nat} {K K' V V' : Nat → Value} (h : ∀ i, i < n → H i = H' i ∧ K i = K' i ∧ V i = V' i) (j : Nat) : htCell b laid n H K V j = htCell b laid n H' K' V' j := by
  unfold htCell
  split
  · rfl
  · split
    · unfold htEnt
      split
      · obtain ⟨h1, h2, h3⟩ := h (7 - (j - 1) / 5) (by omega)
        rw [h1, h2, h3]
      · rfl
    · rfl

/-- the cells of an empty table -/
abbrev htZero : Array Value := #[Value.slice none 0 0, Value.int IntKind.u32 0, Value.nilIface, Value.nilIface, Value.pointer none, Value.pointer none, Value.int IntKind.u32 0, Value.nilIface, Value.nilIface, Value.pointer none, Value.pointer none, Value.int IntKind.u32 0, Value.nilIface, Value.nilIface, Value.pointer none, Value.pointer none, Value.int IntKind.u32 0, Value.nilIface, Value.nilIface, Value.pointer none, Value.pointer none, Value.int IntKind.u32 0, Value.nilIface, Value.nilIface, Value.pointer none, Value.pointer none, Value.int IntKind.u32 0, Value.nilIface, Value.nilIface, Value.pointer none, Value.pointer none, Value.int IntKind.u32 0, Value.nilIface, Value.nilIface, Value.pointer none, Value.pointer none, Value.int IntKind.u32 0, Value.nilIface, Value.nilIface, Value.pointer none, Value.pointer none, Value.pointer none, Value.int IntKind.u32 0, Value.int IntKind.u32 0, Value.pointer none, Value.pointer none, Value.bool false]
theorem htZero_cells (b : Nat) (H : Nat → Nat) (K V : Nat → Value) : ∀ j, j < 47 → htZero.getD j undef = htCell b false 0 H K V j := by
  intro j hj
  rcases (show j = 0 ∨ j = 1 ∨ j = 2 ∨ j = 3 ∨ j = 4 ∨ j = 5 ∨ j = 6 ∨ j = 7 ∨ j = 8 ∨ j = 9 ∨ j = 10 ∨ j = 11 ∨ j = 12 ∨ j = 13 ∨ j = 14 ∨ j = 15 ∨ j = 16 ∨ j = 17 ∨ j = 18 ∨ j = 19 ∨ j = 20 ∨ j = 21 ∨ j = 22 ∨ j = 23 ∨ j = 24 ∨ j = 25 ∨ j = 26 ∨ j = 27 ∨ j = 28 ∨ j = 29 ∨ j = 30 ∨ j = 31 ∨ j = 32 ∨ j = 33 ∨ j = 34 ∨ j = 35 ∨ j = 36 ∨ j = 37 ∨ j = 38 ∨ j = 39 ∨ j = 40 ∨ j = 41 ∨ j = 42 ∨ j = 43 ∨ j = 44 ∨ j = 45 ∨ j = 46 by omega) with rfl | rfl | rfl | rfl | rfl | rfl | rfl | rfl | rfl | rfl | rfl | rfl | rfl | rfl | rfl | rfl | rfl | rfl | rfl | rfl | rfl | rfl | rfl | rfl | rfl | rfl | rfl | rfl | rfl | rfl | rfl | rfl | rfl | rfl | rfl | rfl | rfl | rfl | rfl | rfl | rfl | rfl | rfl | rfl | rfl | rfl | rfl <;> rfl
theorem StarAt.iface {w : World} {d : Nat} {v : Value} {T : Tr} (h : StarAt w d v T) : ∃ t u, v = .iface t u := by
  cases d with
  | zero => exact h.elim
  | succ d =>
    cases T with
    | non => exact ⟨_, _, h⟩
    | bool b => exact ⟨_, _, h⟩
    | int n V => obtain ⟨u, e, _⟩ := h; exact ⟨_, _, e⟩
    | flt B => exact ⟨_, _, h.1⟩
    | str s => exact ⟨_, _, h.1⟩
    | byt s => exact ⟨_, _, h.1⟩
    | tup l => obtain ⟨s, e, _⟩ := h; exact ⟨_, _, e⟩
    | lst l => obtain ⟨b, s, e, _⟩ := h; exact ⟨_, _, e⟩
    | dic l => obtain ⟨b, e, _⟩ := h; exact ⟨_, _, e⟩
    | set l => obtain ⟨b, e, _⟩ := h; exact ⟨_, _, e⟩

/-- a table on its way: k entries, their keys' trees and values' trees told by functions; all made in or before the world w -/
def TabUp (R : Value → Tr → Prop) (w : World) (t : TypeId) (d b k : Nat) (kt : Nat → Tr) (Q : Nat → Value → Prop) (wr : World) : Prop :=
  ∃ (K V : Nat → Value) (laid : Bool), (laid = true ∨ k = 0) ∧ Row wr b t 47 (htCell b laid k (fun i => nzH (hashT d (kt i))) K V) ∧ (∀ i, i < k → R (K i) (kt i) ∧ Q i (V i)) ∧ Below w.heap.size w wr
theorem TabUp.drew {R : Value → Tr → Prop} {w : World} {t : TypeId} {d b k : Nat} {kt : Nat → Tr} {Q : Nat → Value → Prop} {wr : World} (h : TabUp R w t d b k kt Q wr) : TabUp R w t d b k kt Q wr.drew := by
  obtain ⟨K, V, laid, h1, h2, h3, h4⟩ := h
  exact ⟨K, V, laid, h1, h2.drew, h3, h4.drew⟩
theorem TabUp.begin {w wr : World} (R : Value → Tr → Prop) (t : TypeId) (d : Nat) (kt : Nat → Tr) (Q : Nat → Value → Prop) (h : wr = w.alloc (.cells htZero t)) : TabUp R w t d w.heap.size 0 kt Q wr := by
  subst h
  exact ⟨fun _ => .nilIface, fun _ => .nilIface, false, .inr rfl, (Row.lit w t htZero).congr (htZero_cells _ _ _ _), fun i hi => absurd hi (by omega), (Below.refl _ _).alloc (Nat.le_refl _) _⟩
theorem TabUp.len {R : Value → Tr → Prop} {w : World} {t : TypeId} {d b k : Nat} {kt : Nat → Tr} {Q : Nat → Value → Prop} {wr : World} (h : TabUp R w t d b k kt Q wr) : wr.cell? ⟨b, 42, none⟩ = some (.int .u32 k) := by
  obtain ⟨K, V, laid, h1, h2, h3, h4⟩ := h
  exact h2.cell (i := 42) (by omega)

/-- one entry more -/
theorem insert_up (R : Value → Tr → Prop) (t d b k : Nat) (kt : Nat → Tr) (Q : Nat → Value → Prop) (w wr : World) (kv : Value) (tv : Nat) (uv : Value) (hb : w.heap.size ≤ b) (hd : d ≤ 10) (hk : k ≤ 7)
    (hR : ∀ u T, R u T → StarAt w d u T) (h : TabUp R w t d b k kt Q wr) (hkv : R kv (kt k)) (hq : Q k (.iface tv uv)) (hK : ∀ i, i ≤ k → KeyT d (kt i) ∧ Slim d (kt i)) (hA : ∀ i, i < k → eqv d (kt i) (kt k) = false) (hkt : KT w) (hcl : CL w) :
    Calls Tryz.prog 84 #[.pointer (some ⟨b, 0, none⟩), kv, .iface tv uv] wr fun e w' => e = .returned .nilIface ∧ TabUp R w t d b (k + 1) kt Q w' := by
  obtain ⟨K, V, laid, h1, h2, h3, h4⟩ := h
  have hbel : ∀ W, Chg b wr W → Below w.heap.size w W := fun W hc => Chg.below h4 h4.size hc hb
  refine (insert_new t b k laid _ K V kv tv uv (hashT d (kt k)) wr hk h1 (fun i _ => ⟨nzH_pos _, nzH_lt (hashT_lt d _)⟩) (hashT_lt d _) h2
    (fun W hc => Hash_any d kv (kt k) W ((hR _ _ hkv).below (hbel W hc)) (hK k (Nat.le_refl _)).1 (hK k (Nat.le_refl _)).2)
    (fun i hi W hc _ => by
      have := Equal_key d kv (K i) (kt k) (kt i) W hd ((hR _ _ hkv).below (hbel W hc)) ((hR _ _ (h3 i hi).1).below (hbel W hc)) (hK k (Nat.le_refl _)).1 (hK i (by omega)).1 (hK k (Nat.le_refl _)).2 (hK i (by omega)).2 (hkt.below (hbel W hc)) (hcl.below (hbel W hc))
      rwa [eqv_comm d (kt k) (kt i) (hK k (Nat.le_refl _)).1 (hK i (by omega)).1, hA i hi] at this)).mono ?_
  rintro e w' ⟨rfl, hr, hc⟩
  refine ⟨rfl, _, _, true, .inl rfl, hr.congr (fun j _ => htCell_congr (H' := fun i => nzH (hashT d (kt i))) (K' := fun i => if i = k then kv else K i) (V' := fun i => if i = k then .iface tv uv else V i) (fun i hi => ?_) j), fun i hi => ?_, hbel w' hc⟩
  · refine ⟨?_, rfl, rfl⟩
    by_cases e : i = k
    · subst e; simp
    · simp [e]
  · by_cases e : i = k
    · subst e; simp only [if_true]; exact ⟨hkv, hq⟩
    · simp only [e, if_false]; exact h3 i (by omega)

theorem TabUp.tab {R : Value → Tr → Prop} {w wr : World} {t : TypeId} {d b : Nat} {kt : Nat → Tr} {Q : Nat → Value → Prop} {ks vs : List Tr} {q : Value → Tr → Prop} (h : TabUp R w t d b ks.length kt Q wr) (h8 : ks.length ≤ 8) (hl : vs.length = ks.length) (hk : ∀ i (h : i < ks.length), kt i = ks[i]) (hq : ∀ i (h : i < vs.length) u, Q i u → q u vs[i]) :
    TabAt wr t b R q d ks vs := by
  obtain ⟨K, V, laid, h1, h2, h3, h4⟩ := h
  refine ⟨K, V, laid, h8, hl, h1.imp id (fun e => List.eq_nil_of_length_eq_zero e), h2.congr (fun j _ => htCell_congr (fun i hi => ⟨?_, rfl, rfl⟩) j), fun i hi hi2 => ⟨?_, hq i hi2 _ (h3 i hi).2⟩⟩
  · rw [hk i hi]
    simp [hi]
  · have := (h3 i hi).1
    rwa [hk i hi] at this

set_option maxRecDepth 100000 in
set_option maxHeartbeats 2000000 in
theorem dict_any (R : Value → Tr → Prop) (d : Nat) (s : Value) (l : List Tr) (w : World) (hd : d ≤ 10) (he : l.length % 2 = 0) (hl : l.length ≤ 16) (hR : ∀ u T, R u T → StarAt w d u T) (hs : ElemsAt w R s l)
    (hK : ∀ k ∈ keysOf l, KeyT d k ∧ Slim d k) (hA : Apart d (keysOf l)) (hkt : KT w) (hcl : CL w) :
    Calls Tryz.prog 86 #[s] w fun e w' => ∃ b, e = .returned (.tuple #[.pointer (some ⟨b, 0, none⟩), .bool true]) ∧ w.heap.size ≤ b ∧ TabAt w' 143 b R R d (keysOf l) (valsOf l) ∧ Below w.heap.size w w' := by
  obtain ⟨kt, hkt'⟩ : ∃ kt : Nat → Tr, kt = fun i => l.getD (2 * i) .non := ⟨_, rfl⟩
  obtain ⟨Q, hQ⟩ : ∃ Q : Nat → Value → Prop, Q = fun i v => R v (l.getD (2 * i + 1) .non) := ⟨_, rfl⟩
  have hkey : ∀ i, i < l.length / 2 → KeyT d (kt i) ∧ Slim d (kt i) := fun i hi => by
    have e : kt i = (keysOf l).getD i .non := by rw [keysOf_getD l i he, hkt']
    have hi' : i < (keysOf l).length := by rw [keysOf_length]; exact hi
    rw [e]
    have := hK ((keysOf l)[i]) (List.getElem_mem hi')
    simpa [hi'] using this
  have hap : ∀ i j, i < j → j < l.length / 2 → eqv d (kt i) (kt j) = false := fun i j hij hj => by
    have := hA.get i j hij (by rw [keysOf_length]; exact hj)
    rw [keysOf_getD l i he, keysOf_getD l j he] at this
    rw [hkt']; exact this
  have HEND := Lib.hid (fun (W : World) (h : TabUp R w 143 d w.heap.size (l.length / 2) kt Q W) => TabUp.tab (ks := keysOf l) (vs := valsOf l) (q := R) (by rw [keysOf_length]; exact h) (by rw [keysOf_length]; omega) (by rw [keysOf_length, valsOf_length])
    (fun i hi => by rw [hkt']; show l.getD (2 * i) .non = _; rw [← keysOf_getD l i he]; simp [hi])
    (fun i hi u hu => by
      rw [hQ] at hu
      have hu' : R u (l.getD (2 * i + 1) .non) := hu
      rw [← valsOf_getD l i he] at hu'
      simpa [hi] using hu'))
  have HBEG := Lib.hid (fun (W : World) (h : W = w.alloc (.cells htZero 143)) => TabUp.begin R 143 d kt Q h)
  have HRR := Lib.hid hR
  have HKEY := Lib.hid hkey; have HAP := Lib.hid hap; have HKT := Lib.hid hkt; have HCL := Lib.hid hcl
  clear hK hA hkey hap hkt hcl
  rcases hs with ⟨rfl, a, c, rfl⟩ | ⟨h0, g, p, c, rfl, hc, hc2, hg, hk⟩
  · clear hkt' hQ
    go_enter Tryz.func86, Tryz.ntmps86
    go_wp2
    obtain ⟨w1, hw1⟩ : ∃ w1, w1 = w.alloc (.cells htZero 143) := ⟨_, rfl⟩
    have hu := HBEG.out w1 hw1
    rw [show w.alloc (.cells _ 143) = w1 from hw1.symm]
    have HU := Lib.hid hu
    have HLEN := Lib.hid (DictLen_any w.heap.size 0 w1 hu.len (by omega))
    clear hw1 hu HBEG
    refine wp_loop_rounds 1 ?_
    rw [rounds_succ]
    go_wp2_with fail
    refine HLEN.out.mono ?_
    rintro e w2 ⟨rfl, rfl⟩
    go_wp2
    go_ret2
    exact ⟨_, rfl, Nat.le_refl _, HEND.out _ HU.out, HU.out.choose_spec.choose_spec.choose_spec.2.2.2⟩
  · have HINS := Lib.hid (fun (k : Nat) (wr : World) (kv : Value) (tv : Nat) (uv : Value) (hk7 : k ≤ 7) (hk2 : k < l.length / 2) (h : TabUp R w 143 d w.heap.size k kt Q wr) (h1 : R kv (kt k)) (h2 : Q k (.iface tv uv)) =>
      SetKey_of w.heap.size kv (.iface tv uv) _ wr (insert_up R 143 d w.heap.size k kt Q w wr kv tv uv (Nat.le_refl _) hd hk7 HRR.out h h1 h2 (fun i hi => HKEY.out i (by omega)) (fun i hi => HAP.out i k hi hk2) HKT.out HCL.out))
    have HKS := Lib.hid (fun (k : Nat) (hk2 : k < l.length / 2) => show ∃ u v tv uv, w.cell? ⟨g, p + 2 * k, none⟩ = some u ∧ w.cell? ⟨g, p + (2 * k + 1), none⟩ = some v ∧ R u (kt k) ∧ v = .iface tv uv ∧ Q k v by
      obtain ⟨u, hu, hpu⟩ := hk (2 * k) (by omega)
      obtain ⟨v, hv, hpv⟩ := hk (2 * k + 1) (by omega)
      obtain ⟨tv, uv, e⟩ := (hR _ _ hpv).iface
      refine ⟨u, v, tv, uv, hu, hv, ?_, e, ?_⟩
      · rw [hkt']; simpa [show 2 * k < l.length by omega] using hpu
      · rw [hQ]; simpa [show 2 * k + 1 < l.length by omega] using hpv)
    clear hk hkt' hQ HKEY HAP HKT HCL
    obtain ⟨n, hn⟩ : ∃ n, n = l.length := ⟨_, rfl⟩
    rw [← hn] at HINS HKS HEND h0 hc he hl ⊢
    clear hn
    go_enter Tryz.func86, Tryz.ntmps86
    go_wp2
    obtain ⟨w1, hw1⟩ : ∃ w1, w1 = w.alloc (.cells htZero 143) := ⟨_, rfl⟩
    have HU1 := Lib.hid (HBEG.out w1 hw1)
    rw [show w.alloc (.cells _ 143) = w1 from hw1.symm]
    clear hw1 HBEG
    go_loopw [5] (fun i wr => ∃ k j : Nat, j = 2 * k ∧ j ≤ n ∧ i = .int .i64 j ∧ TabUp R w 143 d w.heap.size k kt Q wr) (fun i _ => n - (intOf i).toNat)
    case atStart => exact ⟨0, 0, rfl, by omega, rfl, HU1.out⟩
    case round =>
      obtain ⟨k, j, hjk, hj, rfl, hu⟩ := hrel
      have HU := Lib.hid hu; have HJK := Lib.hid hjk
      clear hu hjk HU1
      have hw1 : IntKind.i64.wrap ((j : Int) + 1) = (j : Int) + 1 := by simp only [IntKind.wrap_i64]; omega
      by_cases hlt : j + 1 < n
      · have hlt' : (j : Int) + 1 < (n : Int) := by omega
        have hj1 : (j : Int) < (n : Int) := by omega
        have hj0 : (0 : Int) ≤ (j : Int) + 1 := by omega
        have htn : ((j : Int) + 1).toNat = j + 1 := by omega
        obtain ⟨u, v, tv, uv, c1, c2, hsu, hv, hqv⟩ := HKS.out k (by have := HJK.out; omega)
        rw [← HJK.out] at c1 c2
        have HC1 := Lib.hid c1; have HC2 := Lib.hid c2
        have HC := Lib.hid (HINS.out k wr.drew u tv uv (by have := HJK.out; omega) (by have := HJK.out; omega) HU.out.drew hsu (hv ▸ hqv))
        have HBC := Lib.hid (HU.out.drew.choose_spec.choose_spec.choose_spec.2.2.2)
        rw [← hv] at HC
        have HV := Lib.hid hv
        clear c1 c2 hsu hv hqv
        go_wp2
        go_region_held3 (fun W => Below w.heap.size w W ∧ W.cell? ⟨g, p + j, none⟩ = some u ∧ W.cell? ⟨g, p + (j + 1), none⟩ = some v) (first | exact ⟨HBC.out, (HBC.out.cell (p := ⟨g, p + j, none⟩) hg).trans HC1.out, (HBC.out.cell (p := ⟨g, p + (j + 1), none⟩) hg).trans HC2.out⟩) (first | (go_simp; go_at_call 60; refine HC.out.mono ?_; rintro e w5 ⟨rfl, hu5⟩; have HU5 := Lib.hid hu5; have HBC := Lib.hid (HU5.out.choose_spec.choose_spec.choose_spec.2.2.2); clear hu5))
        all_goals go_wp2
        all_goals go_round
        case rel => exact ⟨k + 1, j + 2, by have := HJK.out; omega, by omega, by go_num, HU5.out⟩
        case measure => simp [intOf]; omega
      · have hge : ¬ ((j : Int) + 1 < (n : Int)) := by omega
        have HKN := Lib.hid (show k = n / 2 by have := HJK.out; omega)
        have hk8 : k ≤ 8 := by have := HJK.out; omega
        have hm : IntKind.i64.wrap (2 * (k : Int)) = 2 * (k : Int) := by simp only [IntKind.wrap_i64]; omega
        have hmn : (2 * (k : Int) == (n : Int)) = true := by have := HJK.out; simp; omega
        have HLEN := Lib.hid (DictLen_any w.heap.size k wr HU.out.len hk8)
        have hge2 : decide ((j : Int) + 1 < (n : Int)) = false := by simp; omega
        go_wp2_with fail
        refine HLEN.out.mono ?_
        rintro e w2 ⟨rfl, rfl⟩
        go_wp2
        go_ret2
        exact ⟨_, rfl, Nat.le_refl _, HEND.out _ (HKN.out ▸ HU.out), HU.out.choose_spec.choose_spec.choose_spec.2.2.2⟩

set_option maxRecDepth 100000 in
set_option maxHeartbeats 2000000 in
theorem set_any (R : Value → Tr → Prop) (d : Nat) (s : Value) (l : List Tr) (w : World) (hd : d ≤ 10) (hl : l.length ≤ 8) (hR : ∀ u T, R u T → StarAt w d u T) (hs : ElemsAt w R s l)
    (hK : ∀ k ∈ l, KeyT d k ∧ Slim d k) (hA : Apart d l) (hkt : KT w) (hcl : CL w) :
    Calls Tryz.prog 57 #[s] w fun e w' => ∃ b, e = .returned (.tuple #[.pointer (some ⟨b, 0, none⟩), .bool true]) ∧ w.heap.size ≤ b ∧ TabAt w' 169 b R (fun u _ => u = .iface 104 (.int .u8 0)) d l l ∧ Below w.heap.size w w' := by
  obtain ⟨kt, hkt'⟩ : ∃ kt : Nat → Tr, kt = fun i => l.getD i .non := ⟨_, rfl⟩
  obtain ⟨Q, hQ⟩ : ∃ Q : Nat → Value → Prop, Q = fun i v => v = .iface 104 (.int .u8 0) := ⟨_, rfl⟩
  have hkey : ∀ i, i < l.length → KeyT d (kt i) ∧ Slim d (kt i) := fun i hi => by
    rw [hkt']
    have := hK (l[i]) (List.getElem_mem hi)
    simpa [hi] using this
  have hap : ∀ i j, i < j → j < l.length → eqv d (kt i) (kt j) = false := fun i j hij hj => by
    have := hA.get i j hij hj
    rw [hkt']; exact this
  have HEND := Lib.hid (fun (W : World) (h : TabUp R w 169 d w.heap.size l.length kt Q W) => TabUp.tab (ks := l) (vs := l) (q := fun u _ => u = .iface 104 (.int .u8 0)) h hl rfl
    (fun i hi => by rw [hkt']; simp [hi])
    (fun i hi u hu => by rw [hQ] at hu; exact hu))
  have HBEG := Lib.hid (fun (W : World) (h : W = w.alloc (.cells htZero 169)) => TabUp.begin R 169 d kt Q h)
  have HRR := Lib.hid hR
  have HKEY := Lib.hid hkey; have HAP := Lib.hid hap; have HKT := Lib.hid hkt; have HCL := Lib.hid hcl
  have HQ := Lib.hid (show ∀ k, Q k (.iface 104 (.int .u8 0)) from fun k => by rw [hQ])
  clear hK hA hkey hap hkt hcl
  rcases hs with ⟨rfl, a, c, rfl⟩ | ⟨h0, g, p, c, rfl, hc, hc2, hg, hk⟩
  · clear hkt' hQ
    go_enter Tryz.func57, Tryz.ntmps57
    go_wp2
    obtain ⟨w1, hw1⟩ : ∃ w1, w1 = w.alloc (.cells htZero 169) := ⟨_, rfl⟩
    have hu := HBEG.out w1 hw1
    rw [show w.alloc (.cells _ 169) = w1 from hw1.symm]
    have HU := Lib.hid hu
    have HLEN := Lib.hid (SetLen_any w.heap.size 0 w1 hu.len (by omega))
    clear hw1 hu HBEG
    refine wp_loop_rounds 1 ?_
    rw [rounds_succ]
    go_wp2_with fail
    refine HLEN.out.mono ?_
    rintro e w2 ⟨rfl, rfl⟩
    go_wp2
    go_ret2
    exact ⟨_, rfl, Nat.le_refl _, HEND.out _ HU.out, HU.out.choose_spec.choose_spec.choose_spec.2.2.2⟩
  · have HINS := Lib.hid (fun (k : Nat) (wr : World) (kv : Value) (hk7 : k ≤ 7) (hk2 : k < l.length) (h : TabUp R w 169 d w.heap.size k kt Q wr) (h1 : R kv (kt k)) =>
      SetInsert_of w.heap.size kv _ wr (insert_up R 169 d w.heap.size k kt Q w wr kv 104 (.int .u8 0) (Nat.le_refl _) hd hk7 HRR.out h h1 (HQ.out k) (fun i hi => HKEY.out i (by omega)) (fun i hi => HAP.out i k hi hk2) HKT.out HCL.out))
    have HKS := Lib.hid (fun (k : Nat) (hk2 : k < l.length) => show ∃ u, w.cell? ⟨g, p + k, none⟩ = some u ∧ R u (kt k) by
      obtain ⟨u, hu, hpu⟩ := hk k hk2
      exact ⟨u, hu, by rw [hkt']; simpa [hk2] using hpu⟩)
    clear hk hkt' hQ HKEY HAP HKT HCL HQ
    obtain ⟨n, hn⟩ : ∃ n, n = l.length := ⟨_, rfl⟩
    rw [← hn] at HINS HKS HEND h0 hc hl ⊢
    clear hn
    go_enter Tryz.func57, Tryz.ntmps57
    go_wp2
    obtain ⟨w1, hw1⟩ : ∃ w1, w1 = w.alloc (.cells htZero 169) := ⟨_, rfl⟩
    have HU1 := Lib.hid (HBEG.out w1 hw1)
    rw [show w.alloc (.cells _ 169) = w1 from hw1.symm]
    clear hw1 HBEG
    go_loopw [10] (fun i wr => ∃ k : Nat, k ≤ n ∧ i = .int .i64 k ∧ TabUp R w 169 d w.heap.size k kt Q wr) (fun i _ => n - (intOf i).toNat)
    case atStart => exact ⟨0, by omega, rfl, HU1.out⟩
    case round =>
      obtain ⟨k, hk, rfl, hu⟩ := hrel
      have HU := Lib.hid hu
      clear hu HU1
      by_cases hlt : k < n
      · have hlt' : (k : Int) < (n : Int) := by omega
        obtain ⟨u, c1, hsu⟩ := HKS.out k hlt
        have HC := Lib.hid (HINS.out k wr u (by omega) hlt HU.out hsu)
        have c1' := (HU.out.choose_spec.choose_spec.choose_spec.2.2.2.cell (p := ⟨g, p + k, none⟩) hg).trans c1
        clear c1 hsu
        go_wp2_with fail
        refine HC.out.mono ?_
        rintro e w5 ⟨rfl, hu5⟩
        have HU5 := Lib.hid hu5; clear hu5
        go_wp2
        go_round
        case rel => exact ⟨k + 1, by omega, by go_num, HU5.out⟩
        case measure => simp [intOf]; omega
      · have hkn : k = n := by omega
        subst hkn
        have HLEN := Lib.hid (SetLen_any w.heap.size k wr HU.out.len hl)
        go_wp2_with fail
        refine HLEN.out.mono ?_
        rintro e w2 ⟨rfl, rfl⟩
        go_wp2
        go_ret2
        exact ⟨_, by first | rfl | simp, Nat.le_refl _, HEND.out _ HU.out, HU.out.choose_spec.choose_spec.choose_spec.2.2.2⟩
end Go.Proofs.YtpcleebnfgnhdaaGreatDoor

/- Walks: a value of the package is made of one of the specification: slices of values. -/
set_option linter.unusedVariables false
set_option linter.unusedSimpArgs false
namespace Go.Proofs.YtpcleebnfgnhdaaGreatDoor
open Go.RowKit
open Num

/-- P holds of every world in which the blocks from B on are as they are in w -/
def NewIn (B : Nat) (w : World) (P : World → Prop) : Prop := ∀ W, w.heap.size ≤ W.heap.size → (∀ b, B ≤ b → b < w.heap.size → W.heap[b]? = w.heap[b]?) → P W
theorem NewIn.self {B : Nat} {w : World} {P : World → Prop} (h : NewIn B w P) : P w := h w (Nat.le_refl _) (fun _ _ _ => rfl)
theorem NewIn.le {B B' : Nat} {w : World} {P : World → Prop} (h : NewIn B w P) (hB : B' ≤ B) : NewIn B' w P := fun W h1 h2 => h W h1 (fun b hb => h2 b (by omega))
theorem NewIn.chg {B g : Nat} {w w' : World} {P : World → Prop} (h : NewIn B w P) (hc : Chg g w w') (hg : g < B) : NewIn B w' P := fun W h1 h2 =>
  h W (Nat.le_trans hc.size h1) (fun b hb hl => (h2 b hb (Nat.lt_of_lt_of_le hl hc.size)).trans (hc.block b hl (by omega)))
theorem NewIn.below {B : Nat} {w w' : World} {P : World → Prop} (h : NewIn B w P) (hb : Below w.heap.size w w') : NewIn B w' P := fun W h1 h2 =>
  h W (Nat.le_trans hb.size h1) (fun b hB hl => (h2 b hB (Nat.lt_of_lt_of_le hl hb.size)).trans (hb.block b hl))
theorem NewIn.later {B : Nat} {w w' : World} {P : World → Prop} (h : NewIn B w P) (hb : Below w.heap.size w w') : P w' := (h.below hb).self
theorem NewIn.imp {B : Nat} {w : World} {P Q : World → Prop} (h : NewIn B w P) (hPQ : ∀ W, P W → Q W) : NewIn B w Q := fun W h1 h2 => hPQ W (h W h1 h2)

theorem IntIs.newIn {w : World} {B : Nat} {v : Value} {neg : Bool} {V : Nat} (h : IntIs w B v neg V) : NewIn B w fun W => IntIs W 0 v neg V := fun W h1 h2 => by
  rcases h with h | ⟨h1', b, s, n, g, c, f, hv, hbb, hh, h0, hN, hn, hs, hg, hnc, hc, hr, hf⟩
  · exact .inl h
  · exact .inr ⟨h1', b, s, n, g, c, f, hv, by omega, (h2 b hbb (Array.getElem?_eq_some_iff.1 hh).1).trans hh, h0, hN, hn, hs, by omega, hnc, hc, hr.keep (h2 g hg hr.lt), hf⟩
/-- the elements of a new slice -/
theorem ElemsAt.newIn {w : World} {B : Nat} {F : World → Value → Tr → Prop} {s : Value} {l : List Tr} (h : ElemsAt w (fun u T => NewIn B w fun W => F W u T) s l) (hs : ∀ a n c, s = .slice (some a) n c → 0 < n → B ≤ a.block) : NewIn B w fun W => ElemsAt W (F W) s l := fun W h1 h2 => by
  rcases h with h | ⟨h0, g, p, c, e, hc, hc2, hg, hk⟩
  · exact .inl h
  · refine .inr ⟨h0, g, p, c, e, hc, hc2, by omega, fun i hi => ?_⟩
    obtain ⟨u, hu, hp⟩ := hk i hi
    exact ⟨u, (World.cell?_of_block (w := w) (a := ⟨g, p + i, none⟩) (h2 g (hs _ _ _ e h0) hg)).trans hu, hp W h1 h2⟩
theorem TabAt.newIn {w w' : World} {B : Nat} {t : TypeId} {b d : Nat} {F G : World → Value → Tr → Prop} {ks vs : List Tr} (h : TabAt w' t b (fun u T => NewIn B w fun W => F W u T) (fun u T => NewIn B w fun W => G W u T) d ks vs) (hB : B ≤ b) (hb : Below w.heap.size w w') :
    NewIn B w' fun W => TabAt W t b (F W) (G W) d ks vs := fun W h1 h2 => by
  obtain ⟨K, V, laid, a1, a2, a3, hr, hk⟩ := h
  have hl := hr.lt
  exact ⟨K, V, laid, a1, a2, a3, hr.keep (h2 b hB hl), fun i x y => ⟨((hk i x y).1.below hb) W h1 h2, ((hk i x y).2.below hb) W h1 h2⟩⟩

theorem ValAt.shape {w : World} {d : Nat} {v : Value} {T : Tr} (h : ValAt w d v T) : ∃ k n a m c b s a2 m2 c2, v = .agg #[.int .i64 k, .bool n, .slice a m c, .int .u64 b, .string s, .slice a2 m2 c2] := by
  have hk : ∀ {P : Value → Tr → Prop} {ks : Value} {l : List Tr}, KidsAt w P ks l → ∃ a m c, ks = .slice a m c := fun h => by
    rcases h with ⟨_, a, c, e⟩ | ⟨_, g, p, c, e, _⟩
    · exact ⟨a, 0, c, e⟩
    · exact ⟨_, _, c, e⟩
  cases d with
  | zero => exact h.elim
  | succ d =>
    cases T with
    | non => exact ⟨_, _, _, _, _, _, _, _, _, _, h⟩
    | bool b => exact ⟨_, _, _, _, _, _, _, _, _, _, h⟩
    | int n V =>
      obtain ⟨s, m, e, hm, _⟩ := h
      obtain ⟨a, c, rfl⟩ := hm.shape
      exact ⟨_, _, _, _, _, _, _, _, _, _, e⟩
    | flt B => exact ⟨_, _, _, _, _, _, _, _, _, _, h.1⟩
    | str s => exact ⟨_, _, _, _, _, _, _, _, _, _, h.1⟩
    | byt s => exact ⟨_, _, _, _, _, _, _, _, _, _, h.1⟩
    | lst l => obtain ⟨ks, e, h2⟩ := h; obtain ⟨a, m, c, rfl⟩ := hk h2; exact ⟨_, _, _, _, _, _, _, _, _, _, e⟩
    | tup l => obtain ⟨ks, e, h2⟩ := h; obtain ⟨a, m, c, rfl⟩ := hk h2; exact ⟨_, _, _, _, _, _, _, _, _, _, e⟩
    | dic l => obtain ⟨ks, e, h2⟩ := h; obtain ⟨a, m, c, rfl⟩ := hk h2; exact ⟨_, _, _, _, _, _, _, _, _, _, e⟩
    | set l => obtain ⟨ks, e, h2⟩ := h; obtain ⟨a, m, c, rfl⟩ := hk h2; exact ⟨_, _, _, _, _, _, _, _, _, _, e⟩

theorem valInfo : (Tryz.prog.info? 59).map (fun i => (i.zero, i.size, i.bytes)) = some (some .nilIface, 1, 16) := by kernel_rfl
theorem valsUnder : Tryz.prog.underlying 53 = some (.slice 59) := by kernel_rfl
theorem run_make_vals (c : Nat) (hc : c ≤ 1099511627776) : ∀ W : World, (Instr.makeSlice 53 (.int .i64 0) (.int .i64 (c : Int))).run Tryz.prog W =
    .ok (.slice (some ⟨W.heap.size, 0, none⟩) 0 c) (W.alloc (.cells (madeCells #[.nilIface] c) 59)) := by
  intro W
  obtain ⟨i0, hi, hzz⟩ := Option.map_eq_some_iff.1 valInfo
  simp only [Prod.mk.injEq] at hzz
  obtain ⟨hz0, hz1, hz2⟩ := hzz
  have h := run_make (P := Tryz.prog) W 53 59 i0 .nilIface valsUnder hi hz0 .i64 .i64 0 (c : Int) (by omega) (by omega) (by rw [hz2]; omega) (by omega)
  simp only [Int.toNat_natCast, hz1, Nat.mul_one] at h
  exact h
/-- append of one value to a slice that has room -/
theorem wpList_append_one {P : Program} {w : World} {ops : Array Oper} {rest : List Oper} {o : Oper} {a : Act} {Q : Exit → Act → World → Prop} (hgd : o.guard = none) (s x : Operand) (t : TypeId)
    (ho : o.op = .call { callee := .builtin .append, args := #[s, x], argTypes := #[t, t] }) (e : TypeId) (i : TypeInfo) (ht : P.underlying t = some (.slice e)) (hi : P.info? e = some i) (hz : i.size = 1)
    (b n cap : Nat) (hs : a.eval s = .slice (some ⟨b, 0, none⟩) n cap) (g c : Nat) (hx : a.eval x = .slice (some ⟨g, 0, none⟩) 1 c) (v : Value) (hc : w.cell? ⟨g, 0, none⟩ = some v) (h1 : v.oneCell' = true)
    (hroom : n + 1 ≤ cap) (hcell : (w.cell? ⟨b, n, none⟩).isSome = true) (hf : w.frozen? ⟨b, n, none⟩ = false)
    (h : wpList P ops Q rest (a.put o.dst (.slice (some ⟨b, 0, none⟩) (n + 1) cap)) (w.setCell ⟨b, n, none⟩ v)) : wpList P ops Q (o :: rest) a w := by
  have hr := run_append_room_cells (P := P) w t o.type e i ht hi b 0 n cap ⟨g, 0, none⟩ 1 c [v] (by simp [hz]) (fun j u hj => by
    match j, hj with
    | 0, hj => obtain rfl : v = u := by simpa using hj
               rw [add_at]; exact hc
    | j + 1, hj => simp at hj) (by simpa using h1) hroom (fun j hj => by
      obtain rfl : j = 0 := by simp at hj; omega
      simpa [hz] using hcell) (fun j hj => by
      obtain rfl : j = 0 := by simp at hj; omega
      simpa [hz] using hf)
  simp only [World.setCells, hz, Nat.mul_one, Nat.zero_add] at hr
  refine wpList_plain hgd fun K hK => ?_
  unfold Oper.wp execOp
  simp only [ho, resolve, invoke, builtin, Sem.run_bind, Sem.run_pure, Result.andThen_ok, List.map_toArray, List.map_cons, List.map_nil, hs, hx, hr]
  exact hK _ _ h

/-- what 'value' leaves -/
def ValIs (d : Nat) (T : Tr) (w : World) (e : Ending) (w' : World) : Prop := ∃ u, e = .returned (.tuple #[u, .bool true]) ∧ (NewIn w.heap.size w' fun W => StarAt W d u T) ∧ Below w.heap.size w w'

/-- the values made so far -/
def MadeUp (w : World) (d n k : Nat) (lt : Nat → Tr) (wr : World) : Prop :=
  ∃ X : Nat → Value, Row wr w.heap.size 59 n (fun i => if i < k then X i else .nilIface) ∧ (∀ i, i < k → NewIn (w.heap.size + 1) wr fun W => StarAt W d (X i) (lt i)) ∧ Below w.heap.size w wr
theorem MadeUp.begin {w wr : World} {d n : Nat} {lt : Nat → Tr} (h : wr = w.alloc (.cells (madeCells #[.nilIface] n) 59)) : MadeUp w d n 0 lt wr := by
  subst h
  exact ⟨fun _ => .nilIface, (Row.made w _ n _).congr (fun i hi => by simp), fun i hi => absurd hi (by omega), (Below.refl _ _).alloc (Nat.le_refl _) _⟩
theorem MadeUp.step {w wr w5 w6 : World} {d n k : Nat} {lt : Nat → Tr} {u : Value} {B : Nat} (h : MadeUp w d n k lt wr) (hk : k < n) (hb : Below wr.heap.size wr w5) (hB : wr.heap.size ≤ B) (hu : NewIn B w5 fun W => StarAt W d u (lt k)) (hb6 : Below w5.heap.size w5 w6) :
    MadeUp w d n (k + 1) lt (w6.setCell ⟨w.heap.size, k, none⟩ u) := by
  obtain ⟨X, hr, hX, hbw⟩ := h
  have hlt := hr.lt
  have hr6 := (hr.below hb hlt).below hb6 (Nat.lt_of_lt_of_le hlt hb.size)
  refine ⟨fun i => if i = k then u else X i, (hr6.set k u).congr (fun i hi => ?_), fun i hi => ?_, ?_⟩
  · by_cases e : i = k
    · subst e; simp
    · simp only [e, if_false]
      by_cases h1 : i < k
      · rw [if_pos h1, if_pos (by omega)]
      · rw [if_neg h1, if_neg (by omega)]
  · have hc : Chg w.heap.size w6 (w6.setCell ⟨w.heap.size, k, none⟩ u) := (Chg.refl _ _).set k u
    by_cases e : i = k
    · subst e
      simp only [if_true]
      exact ((hu.below hb6).le (by omega)).chg hc (by omega)
    · simp only [e, if_false]
      exact (((hX i (by omega)).below hb).below hb6).chg hc (by omega)
  · exact ((hbw.trans (hb.mono hbw.size)).trans (hb6.mono (Nat.le_trans hbw.size hb.size))).setCell (Nat.le_refl _) _
theorem MadeUp.done {w wr : World} {d n : Nat} {lt : Nat → Tr} {l : List Tr} (h : MadeUp w d n n lt wr) (h0 : 0 < n) (hn : n = l.length) (hn2 : n ≤ 1099511627776) (hl : ∀ i (h : i < l.length), l[i] = lt i) : ElemsAt wr (fun u T => NewIn w.heap.size wr fun W => StarAt W d u T) (.slice (some ⟨w.heap.size, 0, none⟩) n n) l := by
  obtain ⟨X, hr, hX, hbw⟩ := h
  refine .inr ⟨by omega, w.heap.size, 0, n, by rw [hn], by omega, by omega, hr.lt, fun i hi => ⟨X i, ?_, ?_⟩⟩
  · rw [Nat.zero_add, hr.cell (by omega), if_pos (by omega)]
  · rw [hl i hi]
    exact (hX i (by omega)).le (by omega)

set_option maxRecDepth 100000 in
set_option maxHeartbeats 2000000 in
theorem values_any (d : Nat) (ks : Value) (l : List Tr) (w : World) (hl : l.length ≤ 1000000) (hks : KidsAt w (ValAt w d) ks l)
    (hV : ∀ u T W, T ∈ l → ValAt W d u T → Below w.heap.size w W → Calls Tryz.prog 67 #[u] W (ValIs d T W)) :
    Calls Tryz.prog 44 #[ks] w fun e w' => ∃ s, e = .returned (.tuple #[s, .bool true]) ∧ ElemsAt w' (fun u T => NewIn w.heap.size w' fun W => StarAt W d u T) s l ∧ (∀ a n c, s = .slice (some a) n c → 0 < n → w.heap.size ≤ a.block) ∧ Below w.heap.size w w' := by
  have hmk := run_make_vals l.length (by omega)
  rcases hks with ⟨rfl, a, c, rfl⟩ | ⟨h0, g, p, c, rfl, hc, hc2, hg, hk⟩
  · have hmk : ∀ W : World, (Instr.makeSlice 53 (.int .i64 0) (.int .i64 0)).run Tryz.prog W = .ok (.slice (some ⟨W.heap.size, 0, none⟩) 0 0) (W.alloc (.cells (madeCells #[.nilIface] 0) 59)) := run_make_vals 0 (by omega)
    go_enter Tryz.func44, Tryz.ntmps44
    go_wp2
    refine wp_loop_rounds 1 ?_
    rw [rounds_succ]
    go_wp2
    go_ret2
    exact ⟨_, rfl, .inl ⟨rfl, _, _, rfl⟩, fun a n c e h => (by injection e with _ e; omega), (Below.refl _ _).alloc (Nat.le_refl _) _⟩
  · have HVV := Lib.hid (fun (k : Nat) (hkl : k < l.length) => show ∃ c0 c1 a m cc c3 c4 a2 m2 cc2, w.cell? ⟨g, p + k * 6, none⟩ = some (.int .i64 c0) ∧ w.cell? ⟨g, p + k * 6 + 1, none⟩ = some (.bool c1) ∧ w.cell? ⟨g, p + k * 6 + 2, none⟩ = some (.slice a m cc) ∧ w.cell? ⟨g, p + k * 6 + 3, none⟩ = some (.int .u64 c3) ∧ w.cell? ⟨g, p + k * 6 + 4, none⟩ = some (.string c4) ∧ w.cell? ⟨g, p + k * 6 + 5, none⟩ = some (.slice a2 m2 cc2) ∧
        ∀ W, Below w.heap.size w W → Calls Tryz.prog 67 #[.agg #[.int .i64 c0, .bool c1, .slice a m cc, .int .u64 c3, .string c4, .slice a2 m2 cc2]] W (ValIs d l[k] W) by
      obtain ⟨u, hu, hp⟩ := hk k hkl
      obtain ⟨k0, k1, a, m, cc, k3, k4, a2, m2, cc2, e⟩ := hp.shape
      obtain ⟨x0, x1, x2, x3, x4, x5, e2, y0, y1, y2, y3, y4, y5⟩ := hu
      rw [e] at e2
      injection e2 with e2
      injection e2 with e2
      injection e2 with q0 e2; injection e2 with q1 e2; injection e2 with q2 e2; injection e2 with q3 e2; injection e2 with q4 e2; injection e2 with q5 e2
      subst q0; subst q1; subst q2; subst q3; subst q4; subst q5
      exact ⟨k0, k1, a, m, cc, k3, k4, a2, m2, cc2, y0, y1, y2, y3, y4, y5, fun W hb => by rw [← e]; exact hV u l[k] W (List.getElem_mem hkl) (hp.below hb) hb⟩)
    obtain ⟨lt, hlt⟩ : ∃ lt : Nat → Tr, lt = fun i => l.getD i .non := ⟨_, rfl⟩
    have HLT := Lib.hid (show ∀ i (h : i < l.length), l[i] = lt i from fun i h => by rw [hlt]; simp [h])
    clear hk hV hlt
    obtain ⟨n, hn⟩ : ∃ n, n = l.length := ⟨_, rfl⟩
    have HN := Lib.hid hn
    rw [← hn] at h0 hc hl hmk ⊢
    clear hn
    have hu1 := valsUnder
    obtain ⟨i0, hi, hzz⟩ := Option.map_eq_some_iff.1 valInfo
    simp only [Prod.mk.injEq] at hzz
    have HI := Lib.hid (And.intro hi hzz.2.1)
    clear hi hzz hu1
    go_enter Tryz.func44, Tryz.ntmps44
    go_wp2
    obtain ⟨w1, hw1⟩ : ∃ w1, w1 = w.alloc (.cells (madeCells #[.nilIface] n) 59) := ⟨_, rfl⟩
    rw [← hw1]
    have HU1 := Lib.hid (MadeUp.begin (d := d) (lt := lt) hw1)
    clear hw1 hmk
    go_loopw [4, 14] (fun o i wr => ∃ k : Nat, k ≤ n ∧ i = .int .i64 k ∧ o = .slice (some ⟨w.heap.size, 0, none⟩) k n ∧ MadeUp w d n k lt wr) (fun _ i _ => n - (intOf i).toNat)
    case atStart => exact ⟨0, by omega, rfl, rfl, HU1.out⟩
    case round =>
      obtain ⟨k, hk, rfl, rfl, hu⟩ := hrel
      have HU := Lib.hid hu
      clear hu HU1
      by_cases hlt : k < n
      · have hlt' : (k : Int) < (n : Int) := by omega
        have hb := HU.out.choose_spec.2.2
        have hgs : w.heap.size < wr.heap.size := HU.out.choose_spec.1.lt
        obtain ⟨c0, c1, a, m, cc, c3, c4, a2, m2, cc2, y0, y1, y2, y3, y4, y5, hcall⟩ := HVV.out k (by have := HN.out; omega)
        rw [HLT.out k (by have := HN.out; omega)] at hcall
        have d0 := (hb.cell (p := ⟨g, p + k * 6, none⟩) hg).trans y0
        have d1 := (hb.cell (p := ⟨g, p + k * 6 + 1, none⟩) hg).trans y1
        have d2 := (hb.cell (p := ⟨g, p + k * 6 + 2, none⟩) hg).trans y2
        have d3 := (hb.cell (p := ⟨g, p + k * 6 + 3, none⟩) hg).trans y3
        have d4 := (hb.cell (p := ⟨g, p + k * 6 + 4, none⟩) hg).trans y4
        have d5 := (hb.cell (p := ⟨g, p + k * 6 + 5, none⟩) hg).trans y5
        have HC := Lib.hid (hcall (wr.alloc (.cells #[.int .i64 c0, .bool c1, .slice a m cc, .int .u64 c3, .string c4, .slice a2 m2 cc2] 32)) (hb.alloc hb.size _))
        have HGS := Lib.hid hgs
        clear hb hcall y0 y1 y2 y3 y4 y5 hgs
        go_wp2_with fail
        refine HC.out.mono ?_
        rintro e w5 ⟨u, rfl, hnew, hb5⟩
        obtain ⟨tu, uu, hiu⟩ := hnew.self.iface
        subst hiu
        have hb15 : Below wr.heap.size wr w5 := ((Below.refl _ _).alloc (Nat.le_refl _) _).trans (hb5.mono (by simp))
        have HB15 := Lib.hid hb15; have HNEW := Lib.hid hnew
        have HST := Lib.hid (HU.out.step hlt hb15 (by simp) hnew ((Below.refl w5.heap.size w5).alloc (Nat.le_refl _) (.cells #[.iface tu uu] 59)))
        have HRW := Lib.hid ((HU.out.choose_spec.1.below hb15 HU.out.choose_spec.1.lt).alloc (.cells #[.iface tu uu] 59))
        clear hnew hb5 hb15 d0 d1 d2 d3 d4 d5
        go_wp2_with ((with_reducible show wpList _ _ _ _ _ _); refine wpList_append_one rfl (.tmp 25) (.tmp 27) 53 rfl 59 i0 valsUnder HI.out.1 HI.out.2 w.heap.size k n rfl w5.heap.size 1 rfl (.iface tu uu) ?hc rfl ?hroom ?hcell (HRW.out.frozen k) ?_)
        case hc => exact (cell_of_row _ _ 0 _ _ (0, 0) (heap_alloc_new w5 _)).trans rfl
        case hroom => omega
        case hcell => rw [HRW.out.cell hlt]; rfl
        go_wp2
        go_round
        case rel => exact ⟨k + 1, by omega, by go_num, rfl, HST.out⟩
        case measure => simp [intOf]; omega
      · have hkn : k = n := by omega
        subst hkn
        go_wp2
        go_ret2
        exact ⟨_, rfl, HU.out.done h0 HN.out (by omega) HLT.out, fun a n c e h => (by injection e with e _; injection e with e; rw [← e]; exact Nat.le_refl _), HU.out.choose_spec.2.2⟩
end Go.Proofs.YtpcleebnfgnhdaaGreatDoor

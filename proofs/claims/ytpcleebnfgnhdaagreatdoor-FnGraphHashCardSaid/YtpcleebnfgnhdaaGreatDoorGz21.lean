import Derived.Test.YtpcleebnfgnhdaaGreatDoorGz20
/- Walks: CompareDepth of None and None, of two floats, of two types that never meet. -/
set_option linter.unusedVariables false
set_option linter.unusedSimpArgs false
namespace Go.Proofs.YtpcleebnfgnhdaaGreatDoor
open Go.RowKit
open Num

theorem asI_none (v : Value) (w : World) : (Instr.typeAssert (.iface 104 v) 59 110 true).run Tryz.prog w = .ok (.tuple #[.agg #[.int .i64 0, .pointer none], .bool false]) w := by kernel_rfl
theorem asF_none (v : Value) (w : World) : (Instr.typeAssert (.iface 104 v) 59 112 true).run Tryz.prog w = .ok (.tuple #[.float .f64 0, .bool false]) w := by kernel_rfl
theorem asI_bool (v : Value) (w : World) : (Instr.typeAssert (.iface 105 v) 59 110 true).run Tryz.prog w = .ok (.tuple #[.agg #[.int .i64 0, .pointer none], .bool false]) w := by kernel_rfl
theorem asF_bool (v : Value) (w : World) : (Instr.typeAssert (.iface 105 v) 59 112 true).run Tryz.prog w = .ok (.tuple #[.float .f64 0, .bool false]) w := by kernel_rfl
theorem asI_int (v : Value) (w : World) : (Instr.typeAssert (.iface 110 v) 59 110 true).run Tryz.prog w = .ok (.tuple #[v, .bool true]) w := by kernel_rfl
theorem asF_int (v : Value) (w : World) : (Instr.typeAssert (.iface 110 v) 59 112 true).run Tryz.prog w = .ok (.tuple #[.float .f64 0, .bool false]) w := by kernel_rfl
theorem asI_flt (v : Value) (w : World) : (Instr.typeAssert (.iface 112 v) 59 110 true).run Tryz.prog w = .ok (.tuple #[.agg #[.int .i64 0, .pointer none], .bool false]) w := by kernel_rfl
theorem asF_flt (v : Value) (w : World) : (Instr.typeAssert (.iface 112 v) 59 112 true).run Tryz.prog w = .ok (.tuple #[v, .bool true]) w := by kernel_rfl
theorem asI_str (v : Value) (w : World) : (Instr.typeAssert (.iface 96 v) 59 110 true).run Tryz.prog w = .ok (.tuple #[.agg #[.int .i64 0, .pointer none], .bool false]) w := by kernel_rfl
theorem asF_str (v : Value) (w : World) : (Instr.typeAssert (.iface 96 v) 59 112 true).run Tryz.prog w = .ok (.tuple #[.float .f64 0, .bool false]) w := by kernel_rfl
theorem asI_byt (v : Value) (w : World) : (Instr.typeAssert (.iface 114 v) 59 110 true).run Tryz.prog w = .ok (.tuple #[.agg #[.int .i64 0, .pointer none], .bool false]) w := by kernel_rfl
theorem asF_byt (v : Value) (w : World) : (Instr.typeAssert (.iface 114 v) 59 112 true).run Tryz.prog w = .ok (.tuple #[.float .f64 0, .bool false]) w := by kernel_rfl
theorem asI_tup (v : Value) (w : World) : (Instr.typeAssert (.iface 121 v) 59 110 true).run Tryz.prog w = .ok (.tuple #[.agg #[.int .i64 0, .pointer none], .bool false]) w := by kernel_rfl
theorem asF_tup (v : Value) (w : World) : (Instr.typeAssert (.iface 121 v) 59 112 true).run Tryz.prog w = .ok (.tuple #[.float .f64 0, .bool false]) w := by kernel_rfl
theorem asI_lst (v : Value) (w : World) : (Instr.typeAssert (.iface 115 v) 59 110 true).run Tryz.prog w = .ok (.tuple #[.agg #[.int .i64 0, .pointer none], .bool false]) w := by kernel_rfl
theorem asF_lst (v : Value) (w : World) : (Instr.typeAssert (.iface 115 v) 59 112 true).run Tryz.prog w = .ok (.tuple #[.float .f64 0, .bool false]) w := by kernel_rfl
theorem asI_dic (v : Value) (w : World) : (Instr.typeAssert (.iface 122 v) 59 110 true).run Tryz.prog w = .ok (.tuple #[.agg #[.int .i64 0, .pointer none], .bool false]) w := by kernel_rfl
theorem asF_dic (v : Value) (w : World) : (Instr.typeAssert (.iface 122 v) 59 112 true).run Tryz.prog w = .ok (.tuple #[.float .f64 0, .bool false]) w := by kernel_rfl
theorem asI_set (v : Value) (w : World) : (Instr.typeAssert (.iface 124 v) 59 110 true).run Tryz.prog w = .ok (.tuple #[.agg #[.int .i64 0, .pointer none], .bool false]) w := by kernel_rfl
theorem asF_set (v : Value) (w : World) : (Instr.typeAssert (.iface 124 v) 59 112 true).run Tryz.prog w = .ok (.tuple #[.float .f64 0, .bool false]) w := by kernel_rfl

theorem none_none (w : World) : (binOp .eql 59 (.iface 104 (.int .u8 0)) (.iface 104 (.int .u8 0))).run Tryz.prog w = .ok (.bool true) w := by kernel_rfl
set_option maxRecDepth 100000 in
set_option maxHeartbeats 1000000 in
theorem CompareDepth_none (D : Nat) (hD : 1 ≤ D) (w : World) :
    Calls Tryz.prog 154 #[.int .i8 37, .iface 104 (.int .u8 0), .iface 104 (.int .u8 0), .int .i64 D] w fun e w' => e = .returned (.tuple #[.bool true, .nilIface]) ∧ Below w.heap.size w w' := by
  have HST := Lib.hid (sameType_any 0 0 (.iface 104 (.int .u8 0)) (.iface 104 (.int .u8 0)) .non .non w rfl rfl)
  rw [show decide (Tr.kind .non = Tr.kind .non) = true from rfl] at HST
  have h1 := comp_none (.int .u8 0)
  have h2 := tot_none (.int .u8 0)
  have hq : ∀ W : World, (binOp .eql 59 (.iface 104 (.int .u8 0)) (.iface 104 (.int .u8 0))).run Tryz.prog W = .ok (.bool true) W := fun W => none_none W
  have hD1 : (1 : Int) ≤ (D : Int) := by omega
  have hD2 : ¬ ((D : Int) < 1) := by omega
  go_enter Tryz.func154, Tryz.ntmps154
  go_wp2_with fail
  refine HST.out.mono ?_
  rintro e w2 ⟨rfl, hb2⟩
  have HB2 := Lib.hid hb2; clear hb2
  go_wp2
  go_ret2
  exact ⟨rfl, HB2.out⟩

set_option maxRecDepth 100000 in
set_option maxHeartbeats 1000000 in
theorem CompareDepth_ff (A B D : Nat) (hD : 1 ≤ D) (hA : A < 18446744073709551616) (hB : B < 18446744073709551616) (w : World) :
    Calls Tryz.prog 154 #[.int .i8 37, .iface 112 (.float .f64 A), .iface 112 (.float .f64 B), .int .i64 D] w fun e w' => e = .returned (.tuple #[.bool (feq A B), .nilIface]) ∧ Below w.heap.size w w' := by
  have HST := Lib.hid (sameType_any 0 0 (.iface 112 (.float .f64 A)) (.iface 112 (.float .f64 B)) (.flt A) (.flt B) w ⟨rfl, hA⟩ ⟨rfl, hB⟩)
  rw [show decide (Tr.kind (.flt A) = Tr.kind (.flt B)) = true from rfl] at HST
  have h1 := comp_flt (.float .f64 A)
  have h2 := tot_flt (.float .f64 A)
  have HC := Lib.hid (fun W : World => Cmp_flt A B hA hB (D : Int) W)
  have hm : ∀ W : World, (method 527 112 (.float .f64 A) "Cmp").run Tryz.prog W = .ok (322, .float .f64 A) W := fun W => by kernel_rfl
  have hD1 : (1 : Int) ≤ (D : Int) := by omega
  have hD2 : ¬ ((D : Int) < 1) := by omega
  go_enter Tryz.func154, Tryz.ntmps154
  go_wp2_with fail
  refine HST.out.mono ?_
  rintro e w2 ⟨rfl, hb2⟩
  have HB2 := Lib.hid hb2; clear hb2
  go_wp2_with fail
  refine (HC.out _).mono ?_
  rintro e w3 ⟨c, rfl, hc, rfl⟩
  go_wp2_with fail
  refine (threeway_eql c _).mono ?_
  rintro e w3 ⟨rfl, rfl⟩
  rw [hc]
  go_wp2
  go_ret2
  exact ⟨rfl, HB2.out⟩

set_option maxRecDepth 100000 in
set_option maxHeartbeats 1000000 in
/-- two values of two types, the first no number -/
theorem CompareDepth_diff (d e D : Nat) (hD : 1 ≤ D) (t : Nat) (u y : Value) (X Y : Tr) (w : World) (hx : StarAt w (d + 1) (.iface t u) X) (hy : StarAt w (e + 1) y Y) (hk : X.kind ≠ Y.kind)
    (hI : ∀ W : World, (Instr.typeAssert (.iface t u) 59 110 true).run Tryz.prog W = .ok (.tuple #[.agg #[.int .i64 0, .pointer none], .bool false]) W)
    (hF : ∀ W : World, (Instr.typeAssert (.iface t u) 59 112 true).run Tryz.prog W = .ok (.tuple #[.float .f64 0, .bool false]) W) :
    Calls Tryz.prog 154 #[.int .i8 37, .iface t u, y, .int .i64 D] w fun e w' => e = .returned (.tuple #[.bool false, .nilIface]) ∧ Below w.heap.size w w' := by
  have HST := Lib.hid (sameType_any d e (.iface t u) y X Y w hx hy)
  rw [decide_eq_false hk] at HST
  have hD1 : (1 : Int) ≤ (D : Int) := by omega
  have hD2 : ¬ ((D : Int) < 1) := by omega
  clear hx hy hk
  go_enter Tryz.func154, Tryz.ntmps154
  go_wp2_with fail
  refine HST.out.mono ?_
  rintro e w2 ⟨rfl, hb2⟩
  have HB2 := Lib.hid hb2; clear hb2
  go_wp2
  go_ret2
  exact ⟨rfl, HB2.out⟩
end Go.Proofs.YtpcleebnfgnhdaaGreatDoor

/- Walks: EqualDepth; two slices of values compared, element by element. -/
set_option linter.unusedVariables false
set_option linter.unusedSimpArgs false
namespace Go.Proofs.YtpcleebnfgnhdaaGreatDoor
open Go.RowKit
open Num

theorem EqualDepth_of (x y : Value) (D : Int) (r : Bool) (w : World)
    (h : Calls Tryz.prog 154 #[.int .i8 37, x, y, .int .i64 D] w fun e w' => e = .returned (.tuple #[.bool r, .nilIface]) ∧ Below w.heap.size w w') :
    Calls Tryz.prog 133 #[x, y, .int .i64 D] w fun e w' => e = .returned (.tuple #[.bool r, .nilIface]) ∧ Below w.heap.size w w' := by
  have H := Lib.hid h
  clear h
  go_enter Tryz.func133, Tryz.ntmps133
  go_wp2_with fail
  refine H.out.mono ?_
  rintro e w2 ⟨rfl, hb⟩
  have HB := Lib.hid hb; clear hb
  go_wp2
  go_ret2
  exact ⟨rfl, HB.out⟩

theorem allTwo_len {f : Tr → Tr → Bool} : ∀ (l m : List Tr), allTwo f l m = true → l.length = m.length
  | [], [], _ => rfl
  | [], _ :: _, h => by cases h
  | _ :: _, [], h => by cases h
  | x :: l, y :: m, h => by
    simp only [allTwo, Bool.and_eq_true] at h
    simp [allTwo_len l m h.2]
theorem allTwo_all {f : Tr → Tr → Bool} : ∀ (l m : List Tr), l.length = m.length → (∀ i (h : i < l.length) (h2 : i < m.length), f l[i] m[i] = true) → allTwo f l m = true
  | [], [], _, _ => rfl
  | [], _ :: _, h, _ => by cases h
  | _ :: _, [], h, _ => by cases h
  | x :: l, y :: m, h, hf => by
    simp only [allTwo, Bool.and_eq_true]
    exact ⟨hf 0 (by simp) (by simp), allTwo_all l m (by simpa using h) (fun i a b => by have := hf (i + 1) (by simpa using a) (by simpa using b); simpa using this)⟩
theorem allTwo_not {f : Tr → Tr → Bool} : ∀ (l m : List Tr) (i : Nat) (h : i < l.length) (h2 : i < m.length), f l[i] m[i] = false → allTwo f l m = false
  | [], _, _, h, _, _ => by simp at h
  | _ :: _, [], _, _, h, _ => by simp at h
  | x :: l, y :: m, 0, _, _, hf => by
    simp only [List.getElem_cons_zero] at hf
    simp [allTwo, hf]
  | x :: l, y :: m, i + 1, h, h2, hf => by
    simp only [List.getElem_cons_succ] at hf
    simp [allTwo, allTwo_not l m i (by simpa using h) (by simpa using h2) hf]

set_option maxRecDepth 100000 in
set_option maxHeartbeats 20000000 in
theorem sliceCompare_any (P Q : Value → Tr → Prop) (f : Tr → Tr → Bool) (D : Nat) (hD : 1 ≤ D) (hD2 : D ≤ 1000000) (s t : Value) (l m : List Tr) (hl : l.length ≤ 1000000) (hm : m.length ≤ 1000000) (w : World)
    (hs : ElemsAt w P s l) (ht : ElemsAt w Q t m)
    (hP : ∀ u v x y W, x ∈ l → y ∈ m → P u x → Q v y → Below w.heap.size w W → Calls Tryz.prog 133 #[u, v, .int .i64 ((D : Int) - 1)] W fun e w' => e = .returned (.tuple #[.bool (f x y), .nilIface]) ∧ Below W.heap.size W w') :
    Calls Tryz.prog 348 #[.int .i8 37, s, t, .int .i64 D] w fun e w' => e = .returned (.tuple #[.bool (allTwo f l m), .nilIface]) ∧ Below w.heap.size w w' := by
  have hs' : ∃ a c, s = .slice a l.length c := by
    rcases hs with ⟨rfl, a, c, rfl⟩ | ⟨_, g, p, c, rfl, _⟩
    · exact ⟨a, c, rfl⟩
    · exact ⟨_, c, rfl⟩
  have ht' : ∃ a c, t = .slice a m.length c := by
    rcases ht with ⟨rfl, a, c, rfl⟩ | ⟨_, g, p, c, rfl, _⟩
    · exact ⟨a, c, rfl⟩
    · exact ⟨_, c, rfl⟩
  by_cases hn : l.length = m.length
  · rcases hs with ⟨rfl, a, c, rfl⟩ | ⟨h0, g, p, c, rfl, hc, hc2, hg, hk⟩
    · have hm0 : m = [] := List.eq_nil_of_length_eq_zero (by simpa using hn.symm)
      subst hm0
      obtain ⟨a2, c2, rfl⟩ := ht'
      clear ht hs' hP
      go_enter Tryz.func348, Tryz.ntmps348
      go_wp2
      refine wp_loop_rounds 1 ?_
      rw [rounds_succ]
      go_wp2_with fail
      refine (threeway_eql _ _).mono ?_
      rintro e w2 ⟨rfl, rfl⟩
      go_wp2
      go_ret2
      exact ⟨rfl, Below.refl _ _⟩
    · rcases ht with ⟨rfl, _⟩ | ⟨h1, g2, p2, c2, rfl, hd, hd2, hg2, hk2⟩
      · simp only [List.length_nil] at hn; omega
      · have HK := Lib.hid hk; have HK2 := Lib.hid hk2; have HP := Lib.hid hP
        have HN := Lib.hid hn
        clear hk hk2 hP hs' ht'
        rw [← hn] at h1 hd ⊢
        obtain ⟨n, hnn⟩ : ∃ n, n = l.length := ⟨_, rfl⟩
        have HNN := Lib.hid hnn
        rw [← hnn] at hl h0 hc h1 hd ⊢
        clear hnn hn hm
        obtain ⟨R, hR⟩ : ∃ R, R = allTwo f l m := ⟨_, rfl⟩
        rw [← hR]
        have HR := Lib.hid hR
        clear hR
        go_enter Tryz.func348, Tryz.ntmps348
        go_wp2
        go_loopw [10] (fun i wr => ∃ k : Nat, k ≤ n ∧ i = .int .i64 k ∧ Below w.heap.size w wr ∧ Hid (∀ j (a : j < l.length) (b : j < m.length), j < k → f l[j] m[j] = true)) (fun i _ => n - (intOf i).toNat)
        case atStart => exact ⟨0, by omega, rfl, Below.refl _ _, Lib.hid (fun j _ _ h => absurd h (by omega))⟩
        case round =>
          obtain ⟨k, hk, rfl, hb, HA⟩ := hrel
          have HB := Lib.hid hb; clear hb
          by_cases he : k = n
          · subst he
            have hRt : R = true := by
              rw [HR.out]
              exact allTwo_all l m HN.out (fun i a b => HA.out i a b (by have := HNN.out; omega))
            subst hRt
            go_wp2_with fail
            refine (threeway_eql _ _).mono ?_
            rintro e w2 ⟨rfl, rfl⟩
            go_wp2
            go_ret2
            exact ⟨by simp, HB.out⟩
          · have hlt : (k : Int) < (n : Int) := by omega
            have hkl : k < l.length := by have := HNN.out; omega
            have hkm : k < m.length := by have := HNN.out; have := HN.out; omega
            obtain ⟨u, hu, hpu⟩ := HK.out k hkl
            obtain ⟨v, hv, hpv⟩ := HK2.out k hkm
            have d0 : wr.drew.cell? ⟨g, p + k, none⟩ = some u := (HB.out.cell (p := ⟨g, p + k, none⟩) hg).trans hu
            have d1 : wr.drew.cell? ⟨g2, p2 + k, none⟩ = some v := (HB.out.cell (p := ⟨g2, p2 + k, none⟩) hg2).trans hv
            have HC := Lib.hid (HP.out u v l[k] m[k] wr.drew (List.getElem_mem hkl) (List.getElem_mem hkm) hpu hpv HB.out.drew)
            obtain ⟨r, hr⟩ : ∃ r, r = f l[k] m[k] := ⟨_, rfl⟩
            rw [← hr] at HC
            have HRK := Lib.hid hr
            have hDw : IntKind.i64.wrap ((D : Int) - 1) = (D : Int) - 1 := by simp only [IntKind.wrap_i64]; omega
            have HU := Lib.hid hu; have HV := Lib.hid hv
            clear hr hu hv hpu hpv d0 d1
            cases r
            · have hRf : R = false := by
                rw [HR.out]
                exact allTwo_not l m k hkl hkm HRK.out.symm
              subst hRf
              go_wp2
              go_region_held3 (fun W => Below w.heap.size w W ∧ W.cell? ⟨g, p + k, none⟩ = some u ∧ W.cell? ⟨g2, p2 + k, none⟩ = some v) (first | (refine (fun hb => ⟨hb, (hb.cell (p := ⟨g, p + k, none⟩) hg).trans HU.out, (hb.cell (p := ⟨g2, p2 + k, none⟩) hg2).trans HV.out⟩) ?_; repeat (first | with_reducible exact HBC.out | with_reducible exact HB.out | with_reducible refine Below.drew ?_))) (first | (go_simp; go_at_call 133; refine HC.out.mono ?_; rintro e w5 ⟨rfl, hb5⟩; have HBC := Lib.hid (HB.out.drew.trans (hb5.mono HB.out.drew.size)); clear hb5))
              all_goals go_wp2
              all_goals go_ret2
              all_goals exact ⟨rfl, HBC.out⟩
            · go_wp2
              go_region_held3 (fun W => Below w.heap.size w W ∧ W.cell? ⟨g, p + k, none⟩ = some u ∧ W.cell? ⟨g2, p2 + k, none⟩ = some v) (first | (refine (fun hb => ⟨hb, (hb.cell (p := ⟨g, p + k, none⟩) hg).trans HU.out, (hb.cell (p := ⟨g2, p2 + k, none⟩) hg2).trans HV.out⟩) ?_; repeat (first | with_reducible exact HBC.out | with_reducible exact HB.out | with_reducible refine Below.drew ?_))) (first | (go_simp; go_at_call 133; refine HC.out.mono ?_; rintro e w5 ⟨rfl, hb5⟩; have HBC := Lib.hid (HB.out.drew.trans (hb5.mono HB.out.drew.size)); clear hb5))
              all_goals go_wp2
              all_goals go_round
              case rel => exact ⟨k + 1, by omega, by go_num, HBC.out, Lib.hid (fun j a b hj => by
                  by_cases e : j = k
                  · subst e; exact HRK.out.symm
                  · exact HA.out j a b (by omega))⟩
              case measure => simp [intOf]; omega
  · have hR : allTwo f l m = false := by
      cases h : allTwo f l m
      · rfl
      · exact absurd (allTwo_len l m h) hn
    rw [hR]
    obtain ⟨a1, c1, rfl⟩ := hs'
    obtain ⟨a2, c2, rfl⟩ := ht'
    have hni : ((l.length : Int) != (m.length : Int)) = true := by simp; omega
    clear hs ht hP hR
    go_enter Tryz.func348, Tryz.ntmps348
    go_wp2
    go_ret2
    exact ⟨rfl, Below.refl _ _⟩
end Go.Proofs.YtpcleebnfgnhdaaGreatDoor

/- Walks: two ints of the package compared. -/
set_option linter.unusedVariables false
set_option linter.unusedSimpArgs false
namespace Go.Proofs.YtpcleebnfgnhdaaGreatDoor
open Go.RowKit
open Num

theorem signum64_any (z : Int) (h1 : -9223372036854775807 ≤ z) (h2 : z ≤ 9223372036854775807) (w : World) : Calls Tryz.prog 320 #[.int .i64 z] w fun e w' => e = .returned (.int .i64 (icmp z 0)) ∧ w' = w := by
  rcases Int.lt_trichotomy z 0 with h | rfl | h
  · have e1 : z / 9223372036854775808 = -1 := by omega
    have e2 : -z / 9223372036854775808 = 0 := by omega
    have e3 : icmp z 0 = -1 := by unfold icmp; rw [if_pos h]
    rw [e3]
    clear e3
    go_enter Tryz.func320, Tryz.ntmps320
    go_wp2
    go_ret
    exact ⟨ret_int (by decide +kernel), rfl⟩
  · go_enter Tryz.func320, Tryz.ntmps320
    go_wp2
    go_ret
    exact ⟨ret_int (by decide +kernel), rfl⟩
  · have e1 : z / 9223372036854775808 = 0 := by omega
    have e0 : IntKind.u64.wrap (-z) = 18446744073709551616 - z := by simp only [IntKind.wrap_u64]; omega
    have e2 : (18446744073709551616 - z) / 9223372036854775808 = 1 := by omega
    have e3 : icmp z 0 = 1 := by unfold icmp; rw [if_neg (by omega), if_pos h]
    rw [e3]
    clear e3
    go_enter Tryz.func320, Tryz.ntmps320
    go_wp2
    go_ret
    exact ⟨ret_int (by decide +kernel), rfl⟩

/-- an integer's object in block b -/
def BigAt (w : World) (b : Nat) (neg : Bool) (V : Nat) : Prop := ∃ s n, w.heap[b]? = some (.cells #[.bool neg, s] 212 (0, 0)) ∧ Words w s n V
theorem BigAt.below {w w' : World} {b : Nat} {neg : Bool} {V : Nat} (h : BigAt w b neg V) (hb : Below w.heap.size w w') : BigAt w' b neg V := by
  obtain ⟨s, n, h1, h2⟩ := h
  exact ⟨s, n, (hb.block b (Array.getElem?_eq_some_iff.1 h1).1).trans h1, h2.below hb⟩
theorem IntIs.big {w : World} {base : Nat} {v : Value} {neg : Bool} {V : Nat} (h : IntIs w base v neg V) (hs : sm neg V = false) : ∃ b, v = .agg #[.int .i64 0, .pointer (some ⟨b, 0, none⟩)] ∧ BigAt w b neg V := by
  rcases h with ⟨h1, _⟩ | ⟨h1, b, s, n, g, c, f, rfl, hbb, hh, h0, hN, hn, rfl, hbg, hnc, hc, hr, hf⟩
  · rw [hs] at h1; cases h1
  · exact ⟨b, rfl, _, n, hh, hN, hn, .inr ⟨h0, g, 0, c, rfl, hr.lt, fun i hi => by rw [Nat.zero_add, hr.cell (by omega), hf i hi]⟩⟩
theorem wd_ext {X Y n : Nat} (hx : X < 2 ^ (64 * n)) (hy : Y < 2 ^ (64 * n)) (h : ∀ i, i < n → wd X i = wd Y i) : X = Y := by
  refine Nat.eq_of_testBit_eq fun k => ?_
  by_cases hk : k < 64 * n
  · have e := h (k / 64) (by omega)
    have e1 := wd_bit X (k / 64) (k % 64)
    have e2 := wd_bit Y (k / 64) (k % 64)
    rw [show 64 * (k / 64) + k % 64 = k by omega] at e1 e2
    have hk2 : k % 64 < 64 := Nat.mod_lt _ (by decide)
    rw [e, e2] at e1
    simpa [hk2] using e1.symm
  · rw [Nat.testBit_lt_two_pow (Nat.lt_of_lt_of_le hx (Nat.pow_le_pow_right (by decide) (by omega))), Nat.testBit_lt_two_pow (Nat.lt_of_lt_of_le hy (Nat.pow_le_pow_right (by decide) (by omega)))]
theorem BigAt.uniq {w : World} {b : Nat} {neg neg' : Bool} {V V' : Nat} (h : BigAt w b neg V) (h' : BigAt w b neg' V') : neg = neg' ∧ V = V' := by
  obtain ⟨s, n, h1, h2⟩ := h
  obtain ⟨s', n', h1', h2'⟩ := h'
  rw [h1] at h1'
  injection h1' with e
  injection e with e
  injection e with e
  injection e with e1 e
  injection e with e2 e
  injection e1 with e1
  subst e1; subst e2
  refine ⟨rfl, ?_⟩
  obtain ⟨N, hn, hw⟩ := h2
  obtain ⟨N', hn', hw'⟩ := h2'
  rcases hw with ⟨rfl, a, c, rfl⟩ | ⟨h0, g, p, c, rfl, hg, hc⟩
  · rcases hw' with ⟨rfl, _⟩ | ⟨h0', g', p', c', q, _⟩
    · rw [N.zero_iff.1 rfl, N'.zero_iff.1 rfl]
    · injection q with _ q; omega
  · rcases hw' with ⟨rfl, a', c', q⟩ | ⟨h0', g', p', c', q, hg', hc'⟩
    · injection q with _ q; omega
    · injection q with q1 q2 q3
      injection q1 with q1
      injection q1 with q4 q5
      subst q2; subst q4; subst q5
      refine wd_ext N.1 N'.1 (fun i hi => ?_)
      have := (hc i hi).symm.trans (hc' i hi)
      injection this with this
      injection this with _ this
      omega

theorem icmp_self (x : Int) : icmp x x = 0 := by unfold icmp; rw [if_neg (by omega), if_neg (by omega)]
set_option maxRecDepth 100000 in
theorem Cmp_self (b : Nat) (w : World) :
    Calls Tryz.prog 173 #[.pointer (some ⟨b, 0, none⟩), .pointer (some ⟨b, 0, none⟩)] w fun e w' => e = .returned (.int .i64 0) ∧ Below w.heap.size w w' := by
  obtain ⟨j, hj, hjs⟩ := info_Int
  have hp := fun W : World => run_eql_ptr_same (P := Tryz.prog) (w := W) (⟨b, 0, none⟩ : Addr) under_pInt hj
  go_enter Tryz.func173, Tryz.ntmps173
  go_wp2
  go_ret
  exact ⟨rfl, Below.refl _ _⟩

theorem bigCmp_any (b1 b2 : Nat) (xn yn : Bool) (X Y : Nat) (w : World) (h1 : BigAt w b1 xn X) (h2 : BigAt w b2 yn Y) (hx : xn = true → 0 < X) (hy : yn = true → 0 < Y) :
    Calls Tryz.prog 173 #[.pointer (some ⟨b1, 0, none⟩), .pointer (some ⟨b2, 0, none⟩)] w fun e w' => e = .returned (.int .i64 (icmp (sI xn X) (sI yn Y))) ∧ Below w.heap.size w w' := by
  by_cases hb : b1 = b2
  · subst hb
    obtain ⟨rfl, rfl⟩ := h1.uniq h2
    rw [icmp_self]
    exact Cmp_self b1 w
  · obtain ⟨s, n, hs, ws⟩ := h1
    obtain ⟨t, m, ht, wt⟩ := h2
    refine (Cmp_any b1 0 b2 0 _ _ n m X Y xn yn _ _ s t w hs ht hb rfl rfl rfl rfl ws wt hx hy).mono ?_
    rintro e w' ⟨rfl, k, rfl⟩
    exact ⟨rfl, belowN (Below.refl _ _) k⟩

/-- the integer as an object: that of the value, or a new one -/
theorem bigInt_any (base : Nat) (v : Value) (neg : Bool) (V : Nat) (w : World) (h : IntIs w base v neg V) (hneg : neg = true → 0 < V) :
    Calls Tryz.prog 319 #[v] w fun e w' => ∃ b, e = .returned (.pointer (some ⟨b, 0, none⟩)) ∧ BigAt w' b neg V ∧ Below w.heap.size w w' := by
  cases hs : sm neg V
  · obtain ⟨b, rfl, hb⟩ := h.big hs
    have HG := Lib.hid (fun W => get_any 0 (some ⟨b, 0, none⟩) W)
    have HB := Lib.hid hb
    clear h hb hs
    go_enter Tryz.func319, Tryz.ntmps319
    go_wp2_with fail
    refine (HG.out _).mono ?_
    rintro e w2 ⟨rfl, hb2⟩
    have hb : Below w.heap.size w w2 := ((Below.refl _ _).alloc (Nat.le_refl _) _).trans (hb2.mono (by simp))
    clear hb2
    go_wp2
    go_ret
    exact ⟨b, rfl, HB.out.below hb, hb⟩
  · rcases h with ⟨_, rfl⟩ | ⟨h, _⟩
    case inr => rw [hs] at h; cases h
    have hV := sm_bound hs
    obtain ⟨z, hz⟩ : ∃ z : Int, z = (if neg then -(V : Int) else (V : Int)) := ⟨_, rfl⟩
    have HZ := Lib.hid hz
    rw [← hz]
    have HG := Lib.hid (fun W => get_any z none W)
    clear hz hs
    go_enter Tryz.func319, Tryz.ntmps319
    go_wp2_with fail
    refine (HG.out _).mono ?_
    rintro e w2 ⟨rfl, hb2⟩
    have hb : Below w.heap.size w w2 := ((Below.refl _ _).alloc (Nat.le_refl _) _).trans (hb2.mono (by simp))
    clear hb2
    go_wp2_with fail
    by_cases hV0 : V = 0
    · subst hV0
      have hn0 : neg = false := by cases neg; rfl; exact absurd (hneg rfl) (by omega)
      subst hn0
      have hz0 : z = 0 := by have := HZ.out; simpa using this
      subst hz0
      refine (NewInt_zero w2).mono ?_
      rintro e w3 ⟨rfl, rfl⟩
      go_wp2
      go_ret
      exact ⟨w2.heap.size, rfl, ⟨_, 0, heap_alloc_new w2 _, ⟨by simp, fun h => absurd h (by omega)⟩, by omega, .inl ⟨rfl, _, _, rfl⟩⟩, hb.alloc hb.size _⟩
    · have hob : ∀ ng, BigAt ((w2.alloc (.cells #[.int .u64 (V : Int)] 246)).alloc (.cells #[.bool ng, .slice (some ⟨w2.heap.size, 0, none⟩) 1 1] 212)) (w2.heap.size + 1) ng V := fun ng => by
        refine ⟨_, 1, by have := heap_alloc_new (w2.alloc (.cells #[.int .u64 (V : Int)] 246)) (.cells #[.bool ng, .slice (some ⟨w2.heap.size, 0, none⟩) 1 1] 212); simpa using this, nw_one (by omega) (by omega), by omega, .inr ⟨by omega, w2.heap.size, 0, 1, rfl, by simp; omega, fun i hi => ?_⟩⟩
        obtain rfl : i = 0 := by omega
        have h := (Below.heap_alloc (w2.alloc (.cells #[.int .u64 (V : Int)] 246)) (.cells #[.bool ng, .slice (some ⟨w2.heap.size, 0, none⟩) 1 1] 212) w2.heap.size (by simp)).trans (heap_alloc_new w2 _)
        rw [cell_of_row _ _ 0 _ _ (0, 0) h, wd_zero_small (by omega)]; rfl
      have HO := Lib.hid hob
      clear hob
      cases neg
      · have hz0 : z = (V : Int) := by have := HZ.out; simpa using this
        subst hz0
        refine (NewInt_pos V w2 (by omega) (by omega)).mono ?_
        rintro e w3 ⟨rfl, rfl⟩
        go_wp2
        go_ret
        exact ⟨w2.heap.size + 1, rfl, HO.out false, (hb.alloc hb.size _).alloc (by have := hb.size; simp; omega) _⟩
      · have hz0 : z = -(V : Int) := by have := HZ.out; simpa using this
        subst hz0
        refine (NewInt_neg V w2 (by omega) (by omega)).mono ?_
        rintro e w3 ⟨rfl, rfl⟩
        go_wp2
        go_ret
        exact ⟨w2.heap.size + 1, rfl, HO.out true, (hb.alloc hb.size _).alloc (by have := hb.size; simp; omega) _⟩

theorem box2 {w W : World} {b T : Nat} {x y : Value} (h : w.heap[b]? = some (.cells #[x, y] T (0, 0))) (hb : Below w.heap.size w W) : W.cell? ⟨b, 0, none⟩ = some x ∧ W.cell? ⟨b, 1, none⟩ = some y :=
  ⟨(cell_of_row _ _ 0 _ _ (0, 0) ((hb.block _ (Array.getElem?_eq_some_iff.1 h).1).trans h)).trans rfl, (cell_of_row _ _ 1 _ _ (0, 0) ((hb.block _ (Array.getElem?_eq_some_iff.1 h).1).trans h)).trans rfl⟩
theorem two_new (w : World) (A B : Obj) : ((w.alloc A).alloc B).heap[w.heap.size]? = some A ∧ ((w.alloc A).alloc B).heap[w.heap.size + 1]? = some B ∧ Below w.heap.size w ((w.alloc A).alloc B) ∧ ((w.alloc A).alloc B).heap.size = w.heap.size + 2 :=
  ⟨(Below.heap_alloc (w.alloc A) B w.heap.size (by simp)).trans (heap_alloc_new w A), by have := heap_alloc_new (w.alloc A) B; simpa using this, ((Below.refl _ _).alloc (Nat.le_refl _) _).alloc (by simp) _, by simp⟩

theorem must_int (v : Value) (w : World) : (Instr.typeAssert (.iface 110 v) 59 110 false).run Tryz.prog w = .ok v w := by kernel_rfl

set_option maxRecDepth 100000 in
set_option maxHeartbeats 1000000 in
theorem IntCmp_any (base base' : Nat) (D : Int) (v u : Value) (neg neg' : Bool) (V V' : Nat) (w : World) (hI : IntIs w base v neg V) (hJ : IntIs w base' u neg' V') (hn : neg = true → 0 < V) (hn' : neg' = true → 0 < V') :
    Calls Tryz.prog 313 #[v, .iface 110 u, .int .i64 D] w fun e w' => e = .returned (.tuple #[.int .i64 (icmp (sI neg V) (sI neg' V')), .nilIface]) ∧ Below w.heap.size w w' := by
  have HB1 := Lib.hid (fun (W : World) (hb : Below w.heap.size w W) => bigInt_any base v neg V W (hI.below hb) hn)
  have HB2 := Lib.hid (fun (W : World) (hb : Below w.heap.size w W) => bigInt_any base' u neg' V' W (hJ.below hb) hn')
  have hm := must_int u
  obtain ⟨R, hR⟩ : ∃ R, R = icmp (sI neg V) (sI neg' V') := ⟨_, rfl⟩
  have HR := Lib.hid hR
  rw [← hR]
  clear hR
  obtain ⟨z1, p1, rfl⟩ := hI.shape
  obtain ⟨z2, p2, rfl⟩ := hJ.shape
  have HG1 := Lib.hid (fun W => get_any z1 p1 W)
  have HG2 := Lib.hid (fun W => get_any z2 p2 W)
  by_cases hp : p1 = none ∧ p2 = none
  · obtain ⟨rfl, rfl⟩ := hp
    have e1 : z1 = sI neg V ∧ -2147483648 ≤ z1 ∧ z1 ≤ 2147483647 := by
      rcases hI with ⟨hs, q⟩ | ⟨_, b, s, n, g, c, f, q, _⟩
      · injection q with q; injection q with q; injection q with q _; injection q with _ q
        subst q
        exact ⟨rfl, (lowW_small neg V hs).2⟩
      · injection q with q; injection q with q; injection q with _ q; injection q with q _; injection q with q; cases q
    have e2 : z2 = sI neg' V' ∧ -2147483648 ≤ z2 ∧ z2 ≤ 2147483647 := by
      rcases hJ with ⟨hs, q⟩ | ⟨_, b, s, n, g, c, f, q, _⟩
      · injection q with q; injection q with q; injection q with q _; injection q with _ q
        subst q
        exact ⟨rfl, (lowW_small neg' V' hs).2⟩
      · injection q with q; injection q with q; injection q with _ q; injection q with q _; injection q with q; cases q
    have hRR : R = icmp (z1 - z2) 0 := by
      rw [HR.out, ← e1.1, ← e2.1]
      unfold icmp
      split <;> (try split) <;> (try split) <;> (try split) <;> omega
    have hw : IntKind.i64.wrap (z1 - z2) = z1 - z2 := by simp only [IntKind.wrap_i64]; omega
    have HS := Lib.hid (fun W => signum64_any (z1 - z2) (by omega) (by omega) W)
    rw [← hRR] at HS
    clear e1 e2 hRR hI hJ HB1 HB2
    go_enter Tryz.func313, Tryz.ntmps313
    go_wp2_with fail
    obtain ⟨w1, hw1⟩ : ∃ w1, w1 = (w.alloc (.cells #[.int .i64 z1, .pointer none] 110)).alloc (.cells #[.int .i64 z2, .pointer none] 110) := ⟨_, rfl⟩
    rw [← hw1]
    obtain ⟨r0, r1, hb1, hs1⟩ := two_new w (.cells #[.int .i64 z1, .pointer none] 110) (.cells #[.int .i64 z2, .pointer none] 110)
    rw [← hw1] at r0 r1 hb1 hs1
    have HB1 := Lib.hid hb1; have HR0 := Lib.hid r0; have HR1 := Lib.hid r1; have HS1 := Lib.hid hs1
    clear hw1 r0 r1 hb1 hs1
    refine (HG1.out _).mono ?_
    rintro e w2 ⟨rfl, hb2⟩
    have c0 := (cell_of_row _ _ 0 _ _ (0, 0) ((hb2.block (w.heap.size + 1) (by rw [HS1.out]; omega)).trans HR1.out)).trans rfl
    have c1 := (cell_of_row _ _ 1 _ _ (0, 0) ((hb2.block (w.heap.size + 1) (by rw [HS1.out]; omega)).trans HR1.out)).trans rfl
    have HB2 := Lib.hid (HB1.out.trans (hb2.mono HB1.out.size)); clear hb2
    go_wp2_with fail
    refine (HG2.out _).mono ?_
    rintro e w3 ⟨rfl, hb3⟩
    have HB3 := Lib.hid (HB2.out.trans (hb3.mono HB2.out.size)); clear hb3
    go_wp2_with fail
    refine (HS.out _).mono ?_
    rintro e w4 ⟨rfl, rfl⟩
    go_wp2
    go_ret2
    exact ⟨rfl, HB3.out⟩
  · have HCM := Lib.hid (fun (b1 b2 : Nat) (W : World) (h1 : BigAt W b1 neg V) (h2 : BigAt W b2 neg' V') => bigCmp_any b1 b2 neg neg' V V' W h1 h2 hn hn')
    rw [← HR.out] at HCM
    clear hI hJ
    have hx : (∃ a, p1 = some a) ∨ (p1 = none ∧ ∃ a, p2 = some a) := by
      cases p1 with
      | some a => exact .inl ⟨a, rfl⟩
      | none =>
        cases p2 with
        | some a => exact .inr ⟨rfl, a, rfl⟩
        | none => exact absurd ⟨rfl, rfl⟩ hp
    clear hp
    obtain ⟨w1, hw1⟩ : ∃ w1, w1 = (w.alloc (.cells #[.int .i64 z1, .pointer p1] 110)).alloc (.cells #[.int .i64 z2, .pointer p2] 110) := ⟨_, rfl⟩
    obtain ⟨r0, r1, hb1, hs1⟩ := two_new w (.cells #[.int .i64 z1, .pointer p1] 110) (.cells #[.int .i64 z2, .pointer p2] 110)
    rw [← hw1] at r0 r1 hb1 hs1
    have HW1 := Lib.hid hw1
    have HB0 := Lib.hid hb1; have HR0 := Lib.hid r0; have HR1 := Lib.hid r1
    have HI1 := Lib.hid (fun (W : World) (hb : Below w1.heap.size w1 W) => HB1.out W (HB0.out.trans (hb.mono HB0.out.size)))
    have HI2 := Lib.hid (fun (W : World) (hb : Below w1.heap.size w1 W) => HB2.out W (HB0.out.trans (hb.mono HB0.out.size)))
    have HX := Lib.hid hx
    clear hw1 r0 r1 hb1 hs1 HB1 HB2 hx
    go_enter Tryz.func313, Tryz.ntmps313
    go_wp2_with fail
    rw [← HW1.out]
    refine (HG1.out _).mono ?_
    rintro e w2 ⟨rfl, hb2⟩
    obtain ⟨c0, c1⟩ := box2 HR1.out hb2
    have HB2 := Lib.hid hb2; clear hb2
    go_wp2_with fail
    refine (HG2.out _).mono ?_
    rintro e w3 ⟨rfl, hb3⟩
    have HBC := Lib.hid ((HB2.out.trans (hb3.mono HB2.out.size)).drew); clear hb3 c0 c1
    rcases HX.out with ⟨a, rfl⟩ | ⟨rfl, a, rfl⟩
    · go_wp2
      go_region_held3 (fun W => Below w1.heap.size w1 W ∧ (W.cell? ⟨w.heap.size, 0, none⟩ = some (.int .i64 z1) ∧ W.cell? ⟨w.heap.size, 1, none⟩ = some (.pointer (some a))) ∧ (W.cell? ⟨w.heap.size + 1, 0, none⟩ = some (.int .i64 z2) ∧ W.cell? ⟨w.heap.size + 1, 1, none⟩ = some (.pointer p2))) (first | exact ⟨HBC.out, box2 HR0.out HBC.out, box2 HR1.out HBC.out⟩) (first | (go_simp; go_at_call 173; refine (HCM.out _ _ _ HBA.out HBB.out).mono ?_; rintro e w5 ⟨rfl, hb5⟩; have HBC := Lib.hid (HBC.out.trans (hb5.mono HBC.out.size)); clear hb5) | (go_simp; go_at_call 319; with_reducible refine (HI1.out _ HBC.out).mono ?_; rintro e w5 ⟨b1, rfl, hA, hb5⟩; have HBA := Lib.hid hA; (try (have HBB := Lib.hid (HBB.out.below hb5))); have HBC := Lib.hid (HBC.out.trans (hb5.mono HBC.out.size)); clear hb5 hA) | (go_simp; go_at_call 319; with_reducible refine (HI2.out _ HBC.out).mono ?_; rintro e w5 ⟨b2, rfl, hA, hb5⟩; have HBB := Lib.hid hA; (try (have HBA := Lib.hid (HBA.out.below hb5))); have HBC := Lib.hid (HBC.out.trans (hb5.mono HBC.out.size)); clear hb5 hA))
      all_goals go_wp2
      all_goals go_ret2
      all_goals exact ⟨rfl, HB0.out.trans (HBC.out.mono HB0.out.size)⟩
    · go_wp2
      go_region_held3 (fun W => Below w1.heap.size w1 W ∧ (W.cell? ⟨w.heap.size, 0, none⟩ = some (.int .i64 z1) ∧ W.cell? ⟨w.heap.size, 1, none⟩ = some (.pointer none)) ∧ (W.cell? ⟨w.heap.size + 1, 0, none⟩ = some (.int .i64 z2) ∧ W.cell? ⟨w.heap.size + 1, 1, none⟩ = some (.pointer (some a)))) (first | exact ⟨HBC.out, box2 HR0.out HBC.out, box2 HR1.out HBC.out⟩) (first | (go_simp; go_at_call 173; refine (HCM.out _ _ _ HBA.out HBB.out).mono ?_; rintro e w5 ⟨rfl, hb5⟩; have HBC := Lib.hid (HBC.out.trans (hb5.mono HBC.out.size)); clear hb5) | (go_simp; go_at_call 319; with_reducible refine (HI1.out _ HBC.out).mono ?_; rintro e w5 ⟨b1, rfl, hA, hb5⟩; have HBA := Lib.hid hA; (try (have HBB := Lib.hid (HBB.out.below hb5))); have HBC := Lib.hid (HBC.out.trans (hb5.mono HBC.out.size)); clear hb5 hA) | (go_simp; go_at_call 319; with_reducible refine (HI2.out _ HBC.out).mono ?_; rintro e w5 ⟨b2, rfl, hA, hb5⟩; have HBB := Lib.hid hA; (try (have HBA := Lib.hid (HBA.out.below hb5))); have HBC := Lib.hid (HBC.out.trans (hb5.mono HBC.out.size)); clear hb5 hA))
      all_goals go_wp2
      all_goals go_ret2
      all_goals exact ⟨rfl, HB0.out.trans (HBC.out.mono HB0.out.size)⟩
end Go.Proofs.YtpcleebnfgnhdaaGreatDoor

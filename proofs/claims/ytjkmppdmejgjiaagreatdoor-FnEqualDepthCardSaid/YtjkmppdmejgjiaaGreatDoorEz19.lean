import Derived.Test.YtjkmppdmejgjiaaGreatDoorEz18
import Derived.Test.YtjkmppdmejgjiaaGreatDoorEz5
import Derived.Test.YtjkmppdmejgjiaaGreatDoorEz4
import Derived.Test.YtjkmppdmejgjiaaGreatDoorEz2
import Derived.Lib.Bytealg
import Derived.Stop.Asserts
/- Walks: the hashes of None, of a bool, an int. -/
set_option linter.unusedVariables false
set_option linter.unusedSimpArgs false
namespace Go.Proofs.YtjkmppdmejgjiaaGreatDoor
open Go.RowKit
open Num

theorem finite_le (B : Nat) (hB : B < 18446744073709551616) :
    (FloatKind.f64.format.order (B % 9223372036854775808) 9218868437227405311 == some .lt || FloatKind.f64.format.order (B % 9223372036854775808) 9218868437227405311 == some .eq) = decide (fexp B ≠ 2047) := by
  show (Ieee.double.order (B % 9223372036854775808) 9218868437227405311 == some .lt || Ieee.double.order (B % 9223372036854775808) 9218868437227405311 == some .eq) = _
  have hA : B % 9223372036854775808 < 9223372036854775808 := Nat.mod_lt _ (by decide)
  have ex : fexp (B % 9223372036854775808) = fexp B := by unfold fexp; omega
  have ef : ffrac (B % 9223372036854775808) = ffrac B := by unfold ffrac; omega
  by_cases hf : fexp B = 2047
  · by_cases h0 : ffrac B = 0
    · have hg := gt_max _ hA (by rw [ex, ef]; simp [h0])
      rw [ex] at hg
      simp only [hf, decide_true, beq_iff_eq] at hg
      rw [hg]; simp [hf]
    · unfold Ieee.Format.order
      rw [read_nan _ (by omega) (by rw [ex]; exact hf) (by rw [ef]; exact h0)]
      simp [Ieee.Datum.order, hf]
  · have hg := gt_max _ hA (by rw [ex, ef]; simp [hf])
    rw [ex] at hg
    have hs : ∃ o, Ieee.double.order (B % 9223372036854775808) 9218868437227405311 = some o := by
      unfold Ieee.Format.order
      rw [read_double _ (by omega) (by rw [ex]; exact hf), read_max, signed_cmp]
      exact ⟨_, rfl⟩
    obtain ⟨o, ho⟩ := hs
    rw [ho] at hg ⊢
    cases o
    · simp [hf]
    · simp [hf]
    · simp [hf] at hg

theorem isFinite_any (B : Nat) (hB : B < 18446744073709551616) (w : World) :
    Calls Tryz.prog 283 #[.float .f64 B] w fun e w' => e = .returned (.bool (decide (fexp B ≠ 2047))) ∧ w' = w := by
  have HA := Lib.hid (fun W : World => Abs_any B hB W)
  have hle := finite_le B hB
  obtain ⟨o, ho⟩ : ∃ o, o = decide (fexp B ≠ 2047) := ⟨_, rfl⟩
  rw [← ho] at hle ⊢
  clear ho
  go_enter Tryz.func283, Tryz.ntmps283
  go_wp2_with fail
  refine (HA.out _).mono ?_
  rintro e w2 ⟨rfl, rfl⟩
  go_wp2
  go_ret
  exact ⟨rfl, rfl⟩

theorem Hash_none (v : Value) (w : World) :
    Calls Tryz.prog 255 #[v] w fun e w' => e = .returned (.tuple #[.int .u32 0, .nilIface]) ∧ w' = w := by
  go_enter Tryz.func255, Tryz.ntmps255
  go_wp2
  go_ret2
  exact ⟨rfl, rfl⟩

theorem b2i_any (b : Bool) (w : World) :
    Calls Tryz.prog 265 #[.bool b] w fun e w' => e = .returned (.int .i64 (b.toNat : Int)) ∧ w' = w := by
  cases b
  all_goals
    go_enter Tryz.func265, Tryz.ntmps265
    go_wp2
    go_ret
    exact ⟨rfl, rfl⟩

theorem Hash_bool (b : Bool) (w : World) :
    Calls Tryz.prog 261 #[.bool b] w fun e w' => e = .returned (.tuple #[.int .u32 (b.toNat : Int), .nilIface]) ∧ w' = w := by
  have HB := Lib.hid (fun W : World => b2i_any b W)
  have hw : IntKind.u32.wrap (b.toNat : Int) = (b.toNat : Int) := by cases b <;> rfl
  obtain ⟨k, hk⟩ : ∃ k : Int, k = (b.toNat : Int) := ⟨_, rfl⟩
  rw [← hk] at hw HB ⊢
  clear hk
  go_enter Tryz.func261, Tryz.ntmps261
  go_wp2_with fail
  refine (HB.out _).mono ?_
  rintro e w2 ⟨rfl, rfl⟩
  go_wp2
  go_ret2
  exact ⟨by first | rfl | rw [hw], rfl⟩

theorem lowW_small (neg : Bool) (V : Nat) (h : sm neg V = true) : lowW (sI neg V) = ((sI neg V) % 18446744073709551616).toNat ∧ -2147483648 ≤ sI neg V ∧ sI neg V ≤ 2147483647 := by
  have hb : -2147483648 ≤ sI neg V ∧ sI neg V ≤ 2147483647 := by
    unfold sm at h
    unfold sI
    cases neg
    · simp at h ⊢; omega
    · simp at h ⊢; omega
  exact ⟨by unfold lowW; rw [if_pos hb], hb.1, hb.2⟩
theorem lowW_big (neg : Bool) (V : Nat) (h : sm neg V = false) : lowW (sI neg V) = V % 18446744073709551616 := by
  have hb : ¬ (-2147483648 ≤ sI neg V ∧ sI neg V ≤ 2147483647) := by
    unfold sm at h
    unfold sI
    cases neg
    · simp at h ⊢; omega
    · simp at h ⊢; omega
  unfold lowW
  rw [if_neg hb]
  unfold sI
  cases neg <;> simp

theorem Bits_any (b o : Nat) (s : Value) (w : World) (x1 : w.cell? ⟨b, o + 1, none⟩ = some s) :
    Calls Tryz.prog 275 #[.pointer (some ⟨b, o, none⟩)] w fun e w' => e = .returned s ∧ w' = w := by
  go_enter Tryz.func275, Tryz.ntmps275
  go_wp2
  go_ret
  exact ⟨rfl, rfl⟩

theorem hash_lit (z : Int) (l : Nat) (h : lowW z = l) (hl : l < 18446744073709551616) : 12582917 * (IntKind.u64.wrap ((l : Int) + 3) % 4294967296) % 4294967296 = (hashZ z : Int) := by
  unfold hashZ
  rw [h]
  simp only [IntKind.wrap_u64]
  omega

set_option maxRecDepth 100000 in
theorem Hash_int (base : Nat) (v : Value) (neg : Bool) (V : Nat) (w : World) (hI : IntIs w base v neg V) :
    Calls Tryz.prog 269 #[v] w fun e w' => e = .returned (.tuple #[.int .u32 (hashZ (sI neg V)), .nilIface]) ∧ Below w.heap.size w w' := by
  rcases hI with ⟨hs, rfl⟩ | ⟨hs, b, s, n, g, c, f, rfl, hbb, hh, h0, hN, hn, rfl, hbg, hnc, hc, hr, hf⟩
  · obtain ⟨h1, h2, h3⟩ := lowW_small neg V hs
    obtain ⟨z, hz⟩ : ∃ z, z = sI neg V := ⟨_, rfl⟩
    have hz2 : (if neg then -(V : Int) else (V : Int)) = z := by rw [hz]; rfl
    rw [hz2]
    rw [← hz] at h1 h2 h3 ⊢
    have hl := hash_lit z _ h1 (by omega)
    have hl2 : IntKind.u64.wrap z = ((z % 18446744073709551616).toNat : Int) := by simp only [IntKind.wrap_u64]; omega
    rw [← hl2] at hl
    have HL := Lib.hid hl
    clear hz hz2 h1 hl hl2 h2 h3
    have HG := Lib.hid (fun W : World => get_any z none W)
    go_enter Tryz.func269, Tryz.ntmps269
    go_wp2_with fail
    refine (HG.out _).mono ?_
    rintro e w2 ⟨rfl, hb2⟩
    have HB2 := Lib.hid hb2; clear hb2
    go_wp2
    go_ret2
    exact ⟨by rw [← HL.out]; rfl, ((Below.refl _ _).alloc (Nat.le_refl _) _).trans (HB2.out.mono (by simp))⟩
  · have h1 := lowW_big neg V hs
    have hl := hash_lit (sI neg V) _ h1 (Nat.mod_lt _ (by decide))
    have hf0 := hf 0 h0
    rw [show wd V 0 = V % 18446744073709551616 by unfold wd; simp] at hf0
    obtain ⟨l, hl'⟩ : ∃ l : Int, l = ((V % 18446744073709551616 : Nat) : Int) := ⟨_, rfl⟩
    rw [← hl'] at hl hf0
    obtain ⟨k, hk⟩ : ∃ k : Int, k = (hashZ (sI neg V) : Int) := ⟨_, rfl⟩
    rw [← hk] at hl ⊢
    have HL := Lib.hid hl
    have hcell := (hr.cell (i := 0) (by omega))
    rw [hf0] at hcell
    have hb1 : b < w.heap.size := (Array.getElem?_eq_some_iff.1 hh).1
    have hg1 : g < w.heap.size := hr.lt
    have hnpos : 0 < (n : Int) := by omega
    have x1 : w.cell? ⟨b, 0 + 1, none⟩ = some (.slice (some ⟨g, 0, none⟩) n c) := (cell_of_row w b 1 _ _ (0, 0) hh).trans rfl
    have HC := Lib.hid hcell; have HX := Lib.hid x1
    clear hk hl hl' hf0 hf hr hh hN hs h1 hcell x1
    have HG := Lib.hid (fun W : World => get_any 0 (some ⟨b, 0, none⟩) W)
    go_enter Tryz.func269, Tryz.ntmps269
    go_wp2_with fail
    refine (HG.out _).mono ?_
    rintro e w2 ⟨rfl, hb2⟩
    have hb3 := ((Below.refl _ _).alloc (Nat.le_refl _) _).trans (hb2.mono (by simp))
    have HB3 := Lib.hid hb3; clear hb2 hb3
    go_wp2_with fail
    refine (Bits_any b 0 _ _ ((HB3.out.cell (p := ⟨b, 1, none⟩) hb1).trans HX.out)).mono ?_
    rintro e w3 ⟨rfl, rfl⟩
    have c0 := (HB3.out.cell (p := ⟨g, 0, none⟩) hg1).trans HC.out
    go_wp2
    go_ret2
    exact ⟨by rw [← HL.out]; rfl, HB3.out⟩

end Go.Proofs.YtjkmppdmejgjiaaGreatDoor

/- What lies in memory: a value of the package, of a tree. -/
set_option linter.unusedVariables false
set_option linter.unusedSimpArgs false
namespace Go.Proofs.YtjkmppdmejgjiaaGreatDoor
open Go.RowKit
open Num

/-- a hash table of n entries in block b, of a type: the keys and values it holds -/
def TabAt (w : World) (t : TypeId) (b : Nat) (P : Value → Tr → Prop) (Q : Value → Tr → Prop) (d : Nat) (ks vs : List Tr) : Prop :=
  ∃ K V : Nat → Value, ∃ laid : Bool, ks.length ≤ 8 ∧ vs.length = ks.length ∧ (laid = true ∨ ks = []) ∧
    Row w b t 47 (htCell b laid ks.length (fun i => nzH (hashT d (ks.getD i .non))) K V) ∧
    ∀ i (h : i < ks.length) (h2 : i < vs.length), P (K i) ks[i] ∧ Q (V i) vs[i]
/-- the values of a dict's kids -/
def valsOf : List Tr → List Tr
  | _ :: v :: l => v :: valsOf l
  | _ => []
/-- a value of the package, of so many levels -/
def StarAt (w : World) : Nat → Value → Tr → Prop
  | 0, _, _ => False
  | d + 1, v, T =>
    match T with
    | .non => v = .iface 99 (.int .u8 0)
    | .bool b => v = .iface 100 (.bool b)
    | .int n V => ∃ u, v = .iface 105 u ∧ IntIs w 0 u n V ∧ (n = true → 0 < V) ∧ ∀ k, Nw k V → k ≤ 1048576
    | .flt B => v = .iface 107 (.float .f64 B) ∧ B < 18446744073709551616
    | .str s => v = .iface 109 (.string s) ∧ s.size ≤ 60
    | .byt s => v = .iface 110 (.string s) ∧ s.size ≤ 60
    | .lst l => ∃ b s, v = .iface 76 (.pointer (some ⟨b, 0, none⟩)) ∧ w.heap[b]? = some (.cells #[s, .bool false, .int .u32 0] 112 (0, 0)) ∧ ElemsAt w (StarAt w d) s l
    | .tup l => ∃ s, v = .iface 78 s ∧ ElemsAt w (StarAt w d) s l
    | .dic l => ∃ b, v = .iface 79 (.pointer (some ⟨b, 0, none⟩)) ∧ l.length % 2 = 0 ∧ TabAt w 128 b (StarAt w d) (StarAt w d) d (keysOf l) (valsOf l)
    | .set l => ∃ b, v = .iface 82 (.pointer (some ⟨b, 0, none⟩)) ∧ TabAt w 131 b (StarAt w d) (fun u _ => u = .iface 99 (.int .u8 0)) d l l

theorem TabAt.below {w w' : World} {t : TypeId} {b : Nat} {P P' Q Q' : Value → Tr → Prop} {d : Nat} {ks vs : List Tr} (h : TabAt w t b P Q d ks vs) (hb : Below w.heap.size w w') (hP : ∀ u x, P u x → P' u x) (hQ : ∀ u x, Q u x → Q' u x) : TabAt w' t b P' Q' d ks vs := by
  obtain ⟨K, V, laid, h1, h2, h3, hr, hk⟩ := h
  exact ⟨K, V, laid, h1, h2, h3, hr.keep (hb.block _ hr.lt), fun i a c => ⟨hP _ _ (hk i a c).1, hQ _ _ (hk i a c).2⟩⟩
theorem StarAt.below {w w' : World} (hb : Below w.heap.size w w') : ∀ (d : Nat) (v : Value) (T : Tr), StarAt w d v T → StarAt w' d v T
  | 0, _, _, h => h
  | d + 1, v, T, h => by
    cases T with
    | non => exact h
    | bool b => exact h
    | int n V => obtain ⟨u, e, h1, h2⟩ := h; exact ⟨u, e, h1.below hb, h2⟩
    | flt B => exact h
    | str s => exact h
    | byt s => exact h
    | lst l => obtain ⟨b, s, e, h1, h2⟩ := h; exact ⟨b, s, e, (hb.block _ (Array.getElem?_eq_some_iff.1 h1).1).trans h1, h2.below hb (fun u t => StarAt.below hb d u t)⟩
    | tup l => obtain ⟨s, e, h2⟩ := h; exact ⟨s, e, h2.below hb (fun u t => StarAt.below hb d u t)⟩
    | dic l => obtain ⟨b, e, h1, h2⟩ := h; exact ⟨b, e, h1, h2.below hb (fun u t => StarAt.below hb d u t) (fun u t => StarAt.below hb d u t)⟩
    | set l => obtain ⟨b, e, h2⟩ := h; exact ⟨b, e, h2.below hb (fun u t => StarAt.below hb d u t) (fun _ _ q => q)⟩
end Go.Proofs.YtjkmppdmejgjiaaGreatDoor

/- Walks: equality of two values of one type: bools, texts, floats. -/
set_option linter.unusedVariables false
set_option linter.unusedSimpArgs false
namespace Go.Proofs.YtjkmppdmejgjiaaGreatDoor
open Go.RowKit
open Num

theorem threeway_eql (c : Int) (w : World) : Calls Tryz.prog 56 #[.int .i8 37, .int .i64 c] w fun e w' => e = .returned (.bool (c == 0)) ∧ w' = w := by
  go_enter Tryz.func56, Tryz.ntmps56
  go_wp2
  go_ret
  exact ⟨by first | rfl | simp, rfl⟩
theorem must_bool (v : Value) (w : World) : (Instr.typeAssert (.iface 100 v) 50 100 false).run Tryz.prog w = .ok v w := by kernel_rfl
theorem must_str (v : Value) (w : World) : (Instr.typeAssert (.iface 109 v) 50 109 false).run Tryz.prog w = .ok v w := by kernel_rfl
theorem must_byt (v : Value) (w : World) : (Instr.typeAssert (.iface 110 v) 50 110 false).run Tryz.prog w = .ok v w := by kernel_rfl
theorem must_flt (v : Value) (w : World) : (Instr.typeAssert (.iface 107 v) 50 107 false).run Tryz.prog w = .ok v w := by kernel_rfl

theorem Cst_bool (a b : Bool) (D : Int) (w : World) :
    Calls Tryz.prog 259 #[.bool a, .int .i8 37, .iface 100 (.bool b), .int .i64 D] w fun e w' => e = .returned (.tuple #[.bool (a == b), .nilIface]) ∧ w' = w := by
  have m1 := must_bool (.bool b)
  have HA := Lib.hid (fun W : World => b2i_any a W)
  have HB := Lib.hid (fun W : World => b2i_any b W)
  have hz : (((a.toNat : Int) - (b.toNat : Int)) == 0) = (a == b) := by cases a <;> cases b <;> rfl
  have hr : -1 ≤ (a.toNat : Int) - (b.toNat : Int) ∧ (a.toNat : Int) - (b.toNat : Int) ≤ 1 := by cases a <;> cases b <;> decide
  rw [← hz]
  clear hz
  generalize (a.toNat : Int) = x at *
  generalize (b.toNat : Int) = y at *
  have h1 := hr.1
  have h2 := hr.2
  have HT := Lib.hid (fun W : World => threeway_eql (x - y) W)
  clear hr
  go_enter Tryz.func259, Tryz.ntmps259
  go_wp2_with fail
  refine (HA.out _).mono ?_
  rintro e w2 ⟨rfl, rfl⟩
  go_wp2_with fail
  refine (HB.out _).mono ?_
  rintro e w2 ⟨rfl, rfl⟩
  go_wp2_with fail
  refine (HT.out _).mono ?_
  rintro e w2 ⟨rfl, rfl⟩
  go_wp2
  go_ret2
  exact ⟨rfl, rfl⟩

theorem compare_zero : ∀ (a b : List UInt8), (Go.Lib.compareBytes a b == 0) = (a == b)
  | [], [] => rfl
  | [], _ :: _ => rfl
  | _ :: _, [] => rfl
  | a :: l, b :: m => by
    show ((if a < b then -1 else if b < a then 1 else Go.Lib.compareBytes l m) == 0) = (a == b && l == m)
    by_cases h1 : a < b
    · rw [if_pos h1]
      have : (a == b) = false := by
        rw [beq_eq_false_iff_ne]; intro q; subst q; exact absurd h1 (UInt8.lt_irrefl _)
      rw [this]; rfl
    · rw [if_neg h1]
      by_cases h2 : b < a
      · rw [if_pos h2]
        have : (a == b) = false := by
          rw [beq_eq_false_iff_ne]; intro q; subst q; exact absurd h2 (UInt8.lt_irrefl _)
        rw [this]; rfl
      · rw [if_neg h2, compare_zero l m]
        have : a = b := UInt8.le_antisymm (UInt8.not_lt.1 h2) (UInt8.not_lt.1 h1)
        subst this
        simp
theorem bytes_dec (a b : ByteArray) : (Go.Lib.compareBytes a.data.toList b.data.toList == 0) = decide (a = b) := by
  rw [compare_zero, Bool.eq_iff_iff, beq_iff_eq, decide_eq_true_iff]
  constructor
  · intro h
    have := Array.toList_inj.1 h
    cases a; cases b; simp_all
  · intro h; rw [h]

theorem nan_left (A B : Nat) (hA : A < 18446744073709551616) (h : fexp A = 2047 ∧ ffrac A ≠ 0) : Ieee.double.order A B = none := by
  unfold Ieee.Format.order
  rw [read_nan A hA h.1 h.2]
  simp [Ieee.Datum.order]
theorem nan_right (A B : Nat) (hB : B < 18446744073709551616) (h : fexp B = 2047 ∧ ffrac B ≠ 0) : Ieee.double.order A B = none := by
  unfold Ieee.Format.order
  rw [read_nan B hB h.1 h.2]
  cases Ieee.double.read A <;> simp [Ieee.Datum.order]
theorem some_of (A B : Nat) (hA : A < 18446744073709551616) (hB : B < 18446744073709551616) (h1 : ¬ (fexp A = 2047 ∧ ffrac A ≠ 0)) (h2 : ¬ (fexp B = 2047 ∧ ffrac B ≠ 0)) : ∃ o, Ieee.double.order A B = some o := by
  unfold Ieee.Format.order
  have hr : ∀ C, C < 18446744073709551616 → ¬ (fexp C = 2047 ∧ ffrac C ≠ 0) → (∃ s m i, Ieee.double.read C = .number s m i) ∨ ∃ s, Ieee.double.read C = .infinity s := by
    intro C hC h
    by_cases hf : fexp C = 2047
    · have h0 : ffrac C = 0 := Decidable.byContradiction fun q => h ⟨hf, q⟩
      exact .inr ⟨_, read_inf C hC hf h0⟩
    · exact .inl ⟨_, _, _, read_double C hC hf⟩
  rcases hr A hA h1 with ⟨s, m, i, e⟩ | ⟨s, e⟩ <;> rcases hr B hB h2 with ⟨t, n, j, f⟩ | ⟨t, f⟩ <;> rw [e, f]
  · rw [signed_cmp]; exact ⟨_, rfl⟩
  · cases t <;> exact ⟨_, rfl⟩
  · cases s <;> exact ⟨_, rfl⟩
  · cases s <;> cases t <;> exact ⟨_, rfl⟩
theorem self_ok (B : Nat) (hB : B < 18446744073709551616) : (FloatKind.f64.format.order B B == some .eq) = decide (¬ (fexp B = 2047 ∧ ffrac B ≠ 0)) := by
  show (Ieee.double.order B B == some .eq) = _
  rw [order_self B hB]
  split <;> simp_all

set_option maxRecDepth 100000 in
theorem floatCmp_any (A B : Nat) (hA : A < 18446744073709551616) (hB : B < 18446744073709551616) (w : World) :
    Calls Tryz.prog 282 #[.float .f64 A, .float .f64 B] w fun e w' => ∃ c : Int, e = .returned (.int .i64 c) ∧ (c == 0) = feq A B ∧ w' = w := by
  have sA := self_ok A hA
  have sB := self_ok B hB
  by_cases nA : fexp A = 2047 ∧ ffrac A ≠ 0
  · have hn : FloatKind.f64.format.order A B = none := nan_left A B hA nA
    have hf : feq A B = decide (fexp B = 2047 ∧ ffrac B ≠ 0) := by
      unfold feq
      rw [show Ieee.double.order A B = none from hn]
      simp [nA.1, nA.2]
    rw [hf]
    rw [show decide (¬ (fexp A = 2047 ∧ ffrac A ≠ 0)) = false by simp [nA.1, nA.2]] at sA
    by_cases nB : fexp B = 2047 ∧ ffrac B ≠ 0
    · rw [show decide (¬ (fexp B = 2047 ∧ ffrac B ≠ 0)) = false by simp [nB.1, nB.2]] at sB
      rw [show decide (fexp B = 2047 ∧ ffrac B ≠ 0) = true by simp [nB.1, nB.2]]
      clear nA nB hf
      go_enter Tryz.func282, Tryz.ntmps282
      go_wp2
      go_ret
      exact ⟨_, rfl, rfl, rfl⟩
    · rw [show decide (¬ (fexp B = 2047 ∧ ffrac B ≠ 0)) = true from decide_eq_true nB] at sB
      rw [show decide (fexp B = 2047 ∧ ffrac B ≠ 0) = false from decide_eq_false nB]
      clear nA nB hf
      go_enter Tryz.func282, Tryz.ntmps282
      go_wp2
      go_ret
      exact ⟨_, rfl, rfl, rfl⟩
  · rw [show decide (¬ (fexp A = 2047 ∧ ffrac A ≠ 0)) = true from decide_eq_true nA] at sA
    have hf : feq A B = (Ieee.double.order A B == some .eq) := by
      unfold feq
      rw [decide_eq_false nA]; rfl
    rw [hf]
    by_cases nB : fexp B = 2047 ∧ ffrac B ≠ 0
    · have hn : FloatKind.f64.format.order A B = none := nan_right A B hB nB
      rw [show Ieee.double.order A B = none from hn]
      clear nA nB hf sB
      go_enter Tryz.func282, Tryz.ntmps282
      go_wp2
      go_ret
      exact ⟨_, rfl, rfl, rfl⟩
    · obtain ⟨o, ho⟩ := some_of A B hA hB nA nB
      have hn : FloatKind.f64.format.order A B = some o := ho
      rw [ho]
      clear nA nB hf sA sB ho
      cases o
      all_goals
        go_enter Tryz.func282, Tryz.ntmps282
        go_wp2
        go_ret
        exact ⟨_, rfl, rfl, rfl⟩

theorem Cmp_flt (A B : Nat) (hA : A < 18446744073709551616) (hB : B < 18446744073709551616) (D : Int) (w : World) :
    Calls Tryz.prog 276 #[.float .f64 A, .iface 107 (.float .f64 B), .int .i64 D] w fun e w' => ∃ c : Int, e = .returned (.tuple #[.int .i64 c, .nilIface]) ∧ (c == 0) = feq A B ∧ w' = w := by
  have m1 := must_flt (.float .f64 B)
  have HC := Lib.hid (fun W : World => floatCmp_any A B hA hB W)
  go_enter Tryz.func276, Tryz.ntmps276
  go_wp2_with fail
  refine (HC.out _).mono ?_
  rintro e w2 ⟨c, rfl, hc, rfl⟩
  go_wp2
  go_ret2
  exact ⟨_, rfl, hc, rfl⟩

theorem Cst_str (a b : ByteArray) (D : Int) (w : World) :
    Calls Tryz.prog 288 #[.string a, .int .i8 37, .iface 109 (.string b), .int .i64 D] w fun e w' => e = .returned (.tuple #[.bool (decide (a = b)), .nilIface]) ∧ w' = w := by
  have m1 := must_str (.string b)
  rw [← bytes_dec a b]
  have HS := Lib.hid (fun W : World => Tryz.strings_Compare a b W)
  have HT := Lib.hid (fun W : World => threeway_eql (Lib.compareBytes a.data.toList b.data.toList) W)
  go_enter Tryz.func288, Tryz.ntmps288
  go_wp2_with fail
  refine (HS.out _).mono ?_
  rintro e w2 ⟨rfl, rfl⟩
  go_wp2_with fail
  refine (HT.out _).mono ?_
  rintro e w2 ⟨rfl, rfl⟩
  go_wp2
  go_ret2
  exact ⟨rfl, rfl⟩
theorem Cst_byt (a b : ByteArray) (D : Int) (w : World) :
    Calls Tryz.prog 299 #[.string a, .int .i8 37, .iface 110 (.string b), .int .i64 D] w fun e w' => e = .returned (.tuple #[.bool (decide (a = b)), .nilIface]) ∧ w' = w := by
  have m1 := must_byt (.string b)
  rw [← bytes_dec a b]
  have HS := Lib.hid (fun W : World => Tryz.strings_Compare a b W)
  have HT := Lib.hid (fun W : World => threeway_eql (Lib.compareBytes a.data.toList b.data.toList) W)
  go_enter Tryz.func299, Tryz.ntmps299
  go_wp2_with fail
  refine (HS.out _).mono ?_
  rintro e w2 ⟨rfl, rfl⟩
  go_wp2_with fail
  refine (HT.out _).mono ?_
  rintro e w2 ⟨rfl, rfl⟩
  go_wp2
  go_ret2
  exact ⟨rfl, rfl⟩
end Go.Proofs.YtjkmppdmejgjiaaGreatDoor

/- Walks: the name of a value's type; sameType. -/
set_option linter.unusedVariables false
set_option linter.unusedSimpArgs false
namespace Go.Proofs.YtjkmppdmejgjiaaGreatDoor
open Go.RowKit
open Num

theorem ty_none (v : Value) (w : World) : Calls Tryz.prog 258 #[v] w fun e w' => e = .returned (.string ⟨#[78, 111, 110, 101, 84, 121, 112, 101]⟩) ∧ Below w.heap.size w w' := by
  go_enter Tryz.func258, Tryz.ntmps258
  go_wp2
  go_ret
  exact ⟨rfl, Below.refl _ _⟩
theorem type_of_none (v : Value) (w : World) : (method 416 99 v "Type").run Tryz.prog w = .ok (258, v) w := by kernel_rfl
theorem enty_none (a : Array Value) (w : World) : (callFunc 258 a).run Tryz.prog w = .ok (.enter 258 a) w := by kernel_rfl
theorem ty_bool (v : Value) (w : World) : Calls Tryz.prog 264 #[v] w fun e w' => e = .returned (.string ⟨#[98, 111, 111, 108]⟩) ∧ Below w.heap.size w w' := by
  go_enter Tryz.func264, Tryz.ntmps264
  go_wp2
  go_ret
  exact ⟨rfl, Below.refl _ _⟩
theorem type_of_bool (v : Value) (w : World) : (method 416 100 v "Type").run Tryz.prog w = .ok (264, v) w := by kernel_rfl
theorem enty_bool (a : Array Value) (w : World) : (callFunc 264 a).run Tryz.prog w = .ok (.enter 264 a) w := by kernel_rfl
theorem ty_int (v : Value) (h : ∃ z p, v = .agg #[.int .i64 z, .pointer p]) (w : World) : Calls Tryz.prog 272 #[v] w fun e w' => e = .returned (.string ⟨#[105, 110, 116]⟩) ∧ Below w.heap.size w w' := by
  obtain ⟨z, p, rfl⟩ := h
  go_enter Tryz.func272, Tryz.ntmps272
  go_wp2
  go_ret
  exact ⟨rfl, (Below.refl _ _).alloc (Nat.le_refl _) _⟩
theorem type_of_int (v : Value) (w : World) : (method 416 105 v "Type").run Tryz.prog w = .ok (272, v) w := by kernel_rfl
theorem enty_int (a : Array Value) (w : World) : (callFunc 272 a).run Tryz.prog w = .ok (.enter 272 a) w := by kernel_rfl
theorem ty_flt (v : Value) (w : World) : Calls Tryz.prog 281 #[v] w fun e w' => e = .returned (.string ⟨#[102, 108, 111, 97, 116]⟩) ∧ Below w.heap.size w w' := by
  go_enter Tryz.func281, Tryz.ntmps281
  go_wp2
  go_ret
  exact ⟨rfl, Below.refl _ _⟩
theorem type_of_flt (v : Value) (w : World) : (method 416 107 v "Type").run Tryz.prog w = .ok (281, v) w := by kernel_rfl
theorem enty_flt (a : Array Value) (w : World) : (callFunc 281 a).run Tryz.prog w = .ok (.enter 281 a) w := by kernel_rfl
theorem ty_str (v : Value) (w : World) : Calls Tryz.prog 293 #[v] w fun e w' => e = .returned (.string ⟨#[115, 116, 114, 105, 110, 103]⟩) ∧ Below w.heap.size w w' := by
  go_enter Tryz.func293, Tryz.ntmps293
  go_wp2
  go_ret
  exact ⟨rfl, Below.refl _ _⟩
theorem type_of_str (v : Value) (w : World) : (method 416 109 v "Type").run Tryz.prog w = .ok (293, v) w := by kernel_rfl
theorem enty_str (a : Array Value) (w : World) : (callFunc 293 a).run Tryz.prog w = .ok (.enter 293 a) w := by kernel_rfl
theorem ty_byt (v : Value) (w : World) : Calls Tryz.prog 304 #[v] w fun e w' => e = .returned (.string ⟨#[98, 121, 116, 101, 115]⟩) ∧ Below w.heap.size w w' := by
  go_enter Tryz.func304, Tryz.ntmps304
  go_wp2
  go_ret
  exact ⟨rfl, Below.refl _ _⟩
theorem type_of_byt (v : Value) (w : World) : (method 416 110 v "Type").run Tryz.prog w = .ok (304, v) w := by kernel_rfl
theorem enty_byt (a : Array Value) (w : World) : (callFunc 304 a).run Tryz.prog w = .ok (.enter 304 a) w := by kernel_rfl
theorem ty_tup (v : Value) (w : World) : Calls Tryz.prog 224 #[v] w fun e w' => e = .returned (.string ⟨#[116, 117, 112, 108, 101]⟩) ∧ Below w.heap.size w w' := by
  go_enter Tryz.func224, Tryz.ntmps224
  go_wp2
  go_ret
  exact ⟨rfl, Below.refl _ _⟩
theorem type_of_tup (v : Value) (w : World) : (method 416 78 v "Type").run Tryz.prog w = .ok (224, v) w := by kernel_rfl
theorem enty_tup (a : Array Value) (w : World) : (callFunc 224 a).run Tryz.prog w = .ok (.enter 224 a) w := by kernel_rfl
theorem ty_lst (v : Value) (w : World) : Calls Tryz.prog 217 #[v] w fun e w' => e = .returned (.string ⟨#[108, 105, 115, 116]⟩) ∧ Below w.heap.size w w' := by
  go_enter Tryz.func217, Tryz.ntmps217
  go_wp2
  go_ret
  exact ⟨rfl, Below.refl _ _⟩
theorem type_of_lst (v : Value) (w : World) : (method 416 76 v "Type").run Tryz.prog w = .ok (217, v) w := by kernel_rfl
theorem enty_lst (a : Array Value) (w : World) : (callFunc 217 a).run Tryz.prog w = .ok (.enter 217 a) w := by kernel_rfl
theorem ty_dic (v : Value) (w : World) : Calls Tryz.prog 230 #[v] w fun e w' => e = .returned (.string ⟨#[100, 105, 99, 116]⟩) ∧ Below w.heap.size w w' := by
  go_enter Tryz.func230, Tryz.ntmps230
  go_wp2
  go_ret
  exact ⟨rfl, Below.refl _ _⟩
theorem type_of_dic (v : Value) (w : World) : (method 416 79 v "Type").run Tryz.prog w = .ok (230, v) w := by kernel_rfl
theorem enty_dic (a : Array Value) (w : World) : (callFunc 230 a).run Tryz.prog w = .ok (.enter 230 a) w := by kernel_rfl
theorem ty_set (v : Value) (w : World) : Calls Tryz.prog 239 #[v] w fun e w' => e = .returned (.string ⟨#[115, 101, 116]⟩) ∧ Below w.heap.size w w' := by
  go_enter Tryz.func239, Tryz.ntmps239
  go_wp2
  go_ret
  exact ⟨rfl, Below.refl _ _⟩
theorem type_of_set (v : Value) (w : World) : (method 416 82 v "Type").run Tryz.prog w = .ok (239, v) w := by kernel_rfl
theorem enty_set (a : Array Value) (w : World) : (callFunc 239 a).run Tryz.prog w = .ok (.enter 239 a) w := by kernel_rfl

/-- a value's Type, called through the interface, answers s -/
def TypeIs (v : Value) (w : World) (s : ByteArray) : Prop :=
  ∃ t u f, v = .iface t u ∧ (∀ W : World, (method 416 t u "Type").run Tryz.prog W = .ok (f, u) W) ∧ (∀ (a : Array Value) (W : World), (callFunc f a).run Tryz.prog W = .ok (.enter f a) W) ∧
    Calls Tryz.prog f #[u] w fun e w' => e = .returned (.string s) ∧ Below w.heap.size w w'
def tname : Tr → ByteArray
  | .non => ⟨#[78, 111, 110, 101, 84, 121, 112, 101]⟩
  | .bool _ => ⟨#[98, 111, 111, 108]⟩
  | .int _ _ => ⟨#[105, 110, 116]⟩
  | .flt _ => ⟨#[102, 108, 111, 97, 116]⟩
  | .str _ => ⟨#[115, 116, 114, 105, 110, 103]⟩
  | .byt _ => ⟨#[98, 121, 116, 101, 115]⟩
  | .tup _ => ⟨#[116, 117, 112, 108, 101]⟩
  | .lst _ => ⟨#[108, 105, 115, 116]⟩
  | .dic _ => ⟨#[100, 105, 99, 116]⟩
  | .set _ => ⟨#[115, 101, 116]⟩
theorem tname_eq (x y : Tr) : ((tname x).toList == (tname y).toList) = decide (x.kind = y.kind) := by
  rw [← beq_toListBytes]
  cases x <;> cases y <;> rfl
theorem Type_any (d : Nat) (v : Value) (T : Tr) (w : World) (h : StarAt w (d + 1) v T) : TypeIs v w (tname T) := by
  cases T with
  | non => obtain rfl := h; exact ⟨_, _, _, rfl, type_of_none _, enty_none, ty_none _ w⟩
  | bool b => obtain rfl := h; exact ⟨_, _, _, rfl, type_of_bool _, enty_bool, ty_bool _ w⟩
  | int n V => obtain ⟨u, rfl, h1, h2, h3⟩ := h; exact ⟨_, _, _, rfl, type_of_int _, enty_int, ty_int u h1.shape w⟩
  | flt B => obtain ⟨rfl, hB⟩ := h; exact ⟨_, _, _, rfl, type_of_flt _, enty_flt, ty_flt _ w⟩
  | str s => obtain ⟨rfl, hB⟩ := h; exact ⟨_, _, _, rfl, type_of_str _, enty_str, ty_str _ w⟩
  | byt s => obtain ⟨rfl, hB⟩ := h; exact ⟨_, _, _, rfl, type_of_byt _, enty_byt, ty_byt _ w⟩
  | tup l => obtain ⟨s, rfl, h1⟩ := h; exact ⟨_, _, _, rfl, type_of_tup _, enty_tup, ty_tup _ w⟩
  | lst l => obtain ⟨b, s, rfl, h1⟩ := h; exact ⟨_, _, _, rfl, type_of_lst _, enty_lst, ty_lst _ w⟩
  | dic l => obtain ⟨b, rfl, h1⟩ := h; exact ⟨_, _, _, rfl, type_of_dic _, enty_dic, ty_dic _ w⟩
  | set l => obtain ⟨b, rfl, h1⟩ := h; exact ⟨_, _, _, rfl, type_of_set _, enty_set, ty_set _ w⟩

set_option maxRecDepth 100000 in
theorem sameType_any (d e : Nat) (x y : Value) (X Y : Tr) (w : World) (hx : StarAt w (d + 1) x X) (hy : StarAt w (e + 1) y Y) :
    Calls Tryz.prog 55 #[x, y] w fun e w' => e = .returned (.bool (decide (X.kind = Y.kind))) ∧ Below w.heap.size w w' := by
  obtain ⟨t1, u1, f1, rfl, m1, e1, c1⟩ := Type_any d x X w hx
  have HY := Lib.hid (fun (W : World) (hb : Below w.heap.size w W) => Type_any e y Y W (hy.below hb))
  obtain ⟨t2, u2, f2, rfl, m2, e2, _⟩ := HY.out w (Below.refl _ _)
  have HY2 : Hid (∀ W : World, Below w.heap.size w W → Calls Tryz.prog f2 #[u2] W fun e w' => e = .returned (.string (tname Y)) ∧ Below W.heap.size W w') := Lib.hid (fun W hb => by
    obtain ⟨t3, u3, f3, q, m3, e3, c3⟩ := HY.out W hb
    injection q with q1 q2
    subst q1; subst q2
    have h1 := m2 W
    rw [m3 W] at h1
    injection h1 with h1 h2
    injection h1 with h1 h2
    subst h1
    exact c3)
  have C1 := Lib.hid c1
  have hd := tname_eq X Y
  have HD := Lib.hid hd
  clear c1 HY hd hx hy
  generalize tname X = sx at *
  generalize tname Y = sy at *
  generalize decide (X.kind = Y.kind) = dd at *
  go_enter Tryz.func55, Tryz.ntmps55
  go_wp2_with fail
  refine C1.out.mono ?_
  rintro e w2 ⟨rfl, hb2⟩
  have HB2 := Lib.hid hb2; clear hb2
  go_wp2_with fail
  refine (HY2.out _ HB2.out).mono ?_
  rintro e w3 ⟨rfl, hb3⟩
  have HB3 := Lib.hid hb3; clear hb3
  go_wp2
  go_ret
  exact ⟨by rw [← HD.out]; rfl, HB2.out.trans (HB3.out.mono HB2.out.size)⟩
end Go.Proofs.YtjkmppdmejgjiaaGreatDoor

/- Walks: CompareDepth, by the kinds of the two values. -/
set_option linter.unusedVariables false
set_option linter.unusedSimpArgs false
namespace Go.Proofs.YtjkmppdmejgjiaaGreatDoor
open Go.RowKit
open Num

theorem comp_bool (v : Value) (w : World) : (Instr.typeAssert (.iface 100 v) 50 136 true).run Tryz.prog w = .ok (.tuple #[.iface 100 v, .bool true]) w := by kernel_rfl
theorem comp_str (v : Value) (w : World) : (Instr.typeAssert (.iface 109 v) 50 136 true).run Tryz.prog w = .ok (.tuple #[.iface 109 v, .bool true]) w := by kernel_rfl
theorem comp_byt (v : Value) (w : World) : (Instr.typeAssert (.iface 110 v) 50 136 true).run Tryz.prog w = .ok (.tuple #[.iface 110 v, .bool true]) w := by kernel_rfl
theorem comp_tup (v : Value) (w : World) : (Instr.typeAssert (.iface 78 v) 50 136 true).run Tryz.prog w = .ok (.tuple #[.iface 78 v, .bool true]) w := by kernel_rfl
theorem comp_lst (v : Value) (w : World) : (Instr.typeAssert (.iface 76 v) 50 136 true).run Tryz.prog w = .ok (.tuple #[.iface 76 v, .bool true]) w := by kernel_rfl
theorem comp_dic (v : Value) (w : World) : (Instr.typeAssert (.iface 79 v) 50 136 true).run Tryz.prog w = .ok (.tuple #[.iface 79 v, .bool true]) w := by kernel_rfl
theorem comp_set (v : Value) (w : World) : (Instr.typeAssert (.iface 82 v) 50 136 true).run Tryz.prog w = .ok (.tuple #[.iface 82 v, .bool true]) w := by kernel_rfl
theorem comp_none (v : Value) (w : World) : (Instr.typeAssert (.iface 99 v) 50 136 true).run Tryz.prog w = .ok (.tuple #[.nilIface, .bool false]) w :=
  run_typeAssert_lacksB (want := (Tryz.prog.underlying 136).elim #[] (fun d => match d with | .interface ms => ms | _ => #[])) (by kernel_rfl) (by kernel_rfl) (by kernel_rfl) v _ w
theorem comp_int (v : Value) (w : World) : (Instr.typeAssert (.iface 105 v) 50 136 true).run Tryz.prog w = .ok (.tuple #[.nilIface, .bool false]) w :=
  run_typeAssert_lacksB (want := (Tryz.prog.underlying 136).elim #[] (fun d => match d with | .interface ms => ms | _ => #[])) (by kernel_rfl) (by kernel_rfl) (by kernel_rfl) v _ w
theorem comp_flt (v : Value) (w : World) : (Instr.typeAssert (.iface 107 v) 50 136 true).run Tryz.prog w = .ok (.tuple #[.nilIface, .bool false]) w :=
  run_typeAssert_lacksB (want := (Tryz.prog.underlying 136).elim #[] (fun d => match d with | .interface ms => ms | _ => #[])) (by kernel_rfl) (by kernel_rfl) (by kernel_rfl) v _ w
theorem tot_none (v : Value) (w : World) : (Instr.typeAssert (.iface 99 v) 50 140 true).run Tryz.prog w = .ok (.tuple #[.nilIface, .bool false]) w :=
  run_typeAssert_lacksB (want := (Tryz.prog.underlying 140).elim #[] (fun d => match d with | .interface ms => ms | _ => #[])) (by kernel_rfl) (by kernel_rfl) (by kernel_rfl) v _ w
theorem tot_int (v : Value) (w : World) : (Instr.typeAssert (.iface 105 v) 50 140 true).run Tryz.prog w = .ok (.tuple #[.iface 105 v, .bool true]) w := by kernel_rfl
theorem tot_flt (v : Value) (w : World) : (Instr.typeAssert (.iface 107 v) 50 140 true).run Tryz.prog w = .ok (.tuple #[.iface 107 v, .bool true]) w := by kernel_rfl

set_option maxRecDepth 100000 in
set_option maxHeartbeats 1000000 in
/-- two values of one type that has CompareSameType -/
theorem CompareDepth_same (d e D : Nat) (hD : 1 ≤ D) (t f : Nat) (u y : Value) (X Y : Tr) (r : Bool) (w : World) (hx : StarAt w (d + 1) (.iface t u) X) (hy : StarAt w (e + 1) y Y) (hk : X.kind = Y.kind)
    (ha : ∀ W : World, (Instr.typeAssert (.iface t u) 50 136 true).run Tryz.prog W = .ok (.tuple #[.iface t u, .bool true]) W)
    (hm : ∀ W : World, (method 416 t u "CompareSameType").run Tryz.prog W = .ok (f, u) W) (hen : ∀ (a : Array Value) (W : World), (callFunc f a).run Tryz.prog W = .ok (.enter f a) W)
    (hc : ∀ W : World, Below w.heap.size w W → Calls Tryz.prog f #[u, .int .i8 37, y, .int .i64 D] W fun e w' => e = .returned (.tuple #[.bool r, .nilIface]) ∧ Below W.heap.size W w') :
    Calls Tryz.prog 39 #[.int .i8 37, .iface t u, y, .int .i64 D] w fun e w' => e = .returned (.tuple #[.bool r, .nilIface]) ∧ Below w.heap.size w w' := by
  have HST := Lib.hid (sameType_any d e (.iface t u) y X Y w hx hy)
  rw [decide_eq_true hk] at HST
  have HC := Lib.hid hc
  have hD1 : (1 : Int) ≤ (D : Int) := by omega
  have hD2 : ¬ ((D : Int) < 1) := by omega
  clear hx hy hk hc
  go_enter Tryz.func39, Tryz.ntmps39
  go_wp2_with fail
  refine HST.out.mono ?_
  rintro e w2 ⟨rfl, hb2⟩
  have HB2 := Lib.hid hb2; clear hb2
  go_wp2_with fail
  refine (HC.out _ HB2.out).mono ?_
  rintro e w3 ⟨rfl, hb3⟩
  have HB3 := Lib.hid hb3; clear hb3
  go_wp2
  go_ret2
  exact ⟨rfl, HB2.out.trans (HB3.out.mono HB2.out.size)⟩
end Go.Proofs.YtjkmppdmejgjiaaGreatDoor

/- Walks: CompareDepth of None and None, of two floats, of two types that never meet. -/
set_option linter.unusedVariables false
set_option linter.unusedSimpArgs false
namespace Go.Proofs.YtjkmppdmejgjiaaGreatDoor
open Go.RowKit
open Num

theorem asI_none (v : Value) (w : World) : (Instr.typeAssert (.iface 99 v) 50 105 true).run Tryz.prog w = .ok (.tuple #[.agg #[.int .i64 0, .pointer none], .bool false]) w := by kernel_rfl
theorem asF_none (v : Value) (w : World) : (Instr.typeAssert (.iface 99 v) 50 107 true).run Tryz.prog w = .ok (.tuple #[.float .f64 0, .bool false]) w := by kernel_rfl
theorem asI_bool (v : Value) (w : World) : (Instr.typeAssert (.iface 100 v) 50 105 true).run Tryz.prog w = .ok (.tuple #[.agg #[.int .i64 0, .pointer none], .bool false]) w := by kernel_rfl
theorem asF_bool (v : Value) (w : World) : (Instr.typeAssert (.iface 100 v) 50 107 true).run Tryz.prog w = .ok (.tuple #[.float .f64 0, .bool false]) w := by kernel_rfl
theorem asI_int (v : Value) (w : World) : (Instr.typeAssert (.iface 105 v) 50 105 true).run Tryz.prog w = .ok (.tuple #[v, .bool true]) w := by kernel_rfl
theorem asF_int (v : Value) (w : World) : (Instr.typeAssert (.iface 105 v) 50 107 true).run Tryz.prog w = .ok (.tuple #[.float .f64 0, .bool false]) w := by kernel_rfl
theorem asI_flt (v : Value) (w : World) : (Instr.typeAssert (.iface 107 v) 50 105 true).run Tryz.prog w = .ok (.tuple #[.agg #[.int .i64 0, .pointer none], .bool false]) w := by kernel_rfl
theorem asF_flt (v : Value) (w : World) : (Instr.typeAssert (.iface 107 v) 50 107 true).run Tryz.prog w = .ok (.tuple #[v, .bool true]) w := by kernel_rfl
theorem asI_str (v : Value) (w : World) : (Instr.typeAssert (.iface 109 v) 50 105 true).run Tryz.prog w = .ok (.tuple #[.agg #[.int .i64 0, .pointer none], .bool false]) w := by kernel_rfl
theorem asF_str (v : Value) (w : World) : (Instr.typeAssert (.iface 109 v) 50 107 true).run Tryz.prog w = .ok (.tuple #[.float .f64 0, .bool false]) w := by kernel_rfl
theorem asI_byt (v : Value) (w : World) : (Instr.typeAssert (.iface 110 v) 50 105 true).run Tryz.prog w = .ok (.tuple #[.agg #[.int .i64 0, .pointer none], .bool false]) w := by kernel_rfl
theorem asF_byt (v : Value) (w : World) : (Instr.typeAssert (.iface 110 v) 50 107 true).run Tryz.prog w = .ok (.tuple #[.float .f64 0, .bool false]) w := by kernel_rfl
theorem asI_tup (v : Value) (w : World) : (Instr.typeAssert (.iface 78 v) 50 105 true).run Tryz.prog w = .ok (.tuple #[.agg #[.int .i64 0, .pointer none], .bool false]) w := by kernel_rfl
theorem asF_tup (v : Value) (w : World) : (Instr.typeAssert (.iface 78 v) 50 107 true).run Tryz.prog w = .ok (.tuple #[.float .f64 0, .bool false]) w := by kernel_rfl
theorem asI_lst (v : Value) (w : World) : (Instr.typeAssert (.iface 76 v) 50 105 true).run Tryz.prog w = .ok (.tuple #[.agg #[.int .i64 0, .pointer none], .bool false]) w := by kernel_rfl
theorem asF_lst (v : Value) (w : World) : (Instr.typeAssert (.iface 76 v) 50 107 true).run Tryz.prog w = .ok (.tuple #[.float .f64 0, .bool false]) w := by kernel_rfl
theorem asI_dic (v : Value) (w : World) : (Instr.typeAssert (.iface 79 v) 50 105 true).run Tryz.prog w = .ok (.tuple #[.agg #[.int .i64 0, .pointer none], .bool false]) w := by kernel_rfl
theorem asF_dic (v : Value) (w : World) : (Instr.typeAssert (.iface 79 v) 50 107 true).run Tryz.prog w = .ok (.tuple #[.float .f64 0, .bool false]) w := by kernel_rfl
theorem asI_set (v : Value) (w : World) : (Instr.typeAssert (.iface 82 v) 50 105 true).run Tryz.prog w = .ok (.tuple #[.agg #[.int .i64 0, .pointer none], .bool false]) w := by kernel_rfl
theorem asF_set (v : Value) (w : World) : (Instr.typeAssert (.iface 82 v) 50 107 true).run Tryz.prog w = .ok (.tuple #[.float .f64 0, .bool false]) w := by kernel_rfl

theorem none_none (w : World) : (binOp .eql 50 (.iface 99 (.int .u8 0)) (.iface 99 (.int .u8 0))).run Tryz.prog w = .ok (.bool true) w := by kernel_rfl
set_option maxRecDepth 100000 in
set_option maxHeartbeats 1000000 in
theorem CompareDepth_none (D : Nat) (hD : 1 ≤ D) (w : World) :
    Calls Tryz.prog 39 #[.int .i8 37, .iface 99 (.int .u8 0), .iface 99 (.int .u8 0), .int .i64 D] w fun e w' => e = .returned (.tuple #[.bool true, .nilIface]) ∧ Below w.heap.size w w' := by
  have HST := Lib.hid (sameType_any 0 0 (.iface 99 (.int .u8 0)) (.iface 99 (.int .u8 0)) .non .non w rfl rfl)
  rw [show decide (Tr.kind .non = Tr.kind .non) = true from rfl] at HST
  have h1 := comp_none (.int .u8 0)
  have h2 := tot_none (.int .u8 0)
  have hq : ∀ W : World, (binOp .eql 50 (.iface 99 (.int .u8 0)) (.iface 99 (.int .u8 0))).run Tryz.prog W = .ok (.bool true) W := fun W => none_none W
  have hD1 : (1 : Int) ≤ (D : Int) := by omega
  have hD2 : ¬ ((D : Int) < 1) := by omega
  go_enter Tryz.func39, Tryz.ntmps39
  go_wp2_with fail
  refine HST.out.mono ?_
  rintro e w2 ⟨rfl, hb2⟩
  have HB2 := Lib.hid hb2; clear hb2
  go_wp2
  go_ret2
  exact ⟨rfl, HB2.out⟩

set_option maxRecDepth 100000 in
set_option maxHeartbeats 1000000 in
theorem CompareDepth_ff (A B D : Nat) (hD : 1 ≤ D) (hA : A < 18446744073709551616) (hB : B < 18446744073709551616) (w : World) :
    Calls Tryz.prog 39 #[.int .i8 37, .iface 107 (.float .f64 A), .iface 107 (.float .f64 B), .int .i64 D] w fun e w' => e = .returned (.tuple #[.bool (feq A B), .nilIface]) ∧ Below w.heap.size w w' := by
  have HST := Lib.hid (sameType_any 0 0 (.iface 107 (.float .f64 A)) (.iface 107 (.float .f64 B)) (.flt A) (.flt B) w ⟨rfl, hA⟩ ⟨rfl, hB⟩)
  rw [show decide (Tr.kind (.flt A) = Tr.kind (.flt B)) = true from rfl] at HST
  have h1 := comp_flt (.float .f64 A)
  have h2 := tot_flt (.float .f64 A)
  have HC := Lib.hid (fun W : World => Cmp_flt A B hA hB (D : Int) W)
  have hm : ∀ W : World, (method 416 107 (.float .f64 A) "Cmp").run Tryz.prog W = .ok (276, .float .f64 A) W := fun W => by kernel_rfl
  have hD1 : (1 : Int) ≤ (D : Int) := by omega
  have hD2 : ¬ ((D : Int) < 1) := by omega
  go_enter Tryz.func39, Tryz.ntmps39
  go_wp2_with fail
  refine HST.out.mono ?_
  rintro e w2 ⟨rfl, hb2⟩
  have HB2 := Lib.hid hb2; clear hb2
  go_wp2_with fail
  refine (HC.out _).mono ?_
  rintro e w3 ⟨c, rfl, hc, rfl⟩
  go_wp2_with fail
  refine (threeway_eql c _).mono ?_
  rintro e w3 ⟨rfl, rfl⟩
  rw [hc]
  go_wp2
  go_ret2
  exact ⟨rfl, HB2.out⟩

set_option maxRecDepth 100000 in
set_option maxHeartbeats 1000000 in
/-- two values of two types, the first no number -/
theorem CompareDepth_diff (d e D : Nat) (hD : 1 ≤ D) (t : Nat) (u y : Value) (X Y : Tr) (w : World) (hx : StarAt w (d + 1) (.iface t u) X) (hy : StarAt w (e + 1) y Y) (hk : X.kind ≠ Y.kind)
    (hI : ∀ W : World, (Instr.typeAssert (.iface t u) 50 105 true).run Tryz.prog W = .ok (.tuple #[.agg #[.int .i64 0, .pointer none], .bool false]) W)
    (hF : ∀ W : World, (Instr.typeAssert (.iface t u) 50 107 true).run Tryz.prog W = .ok (.tuple #[.float .f64 0, .bool false]) W) :
    Calls Tryz.prog 39 #[.int .i8 37, .iface t u, y, .int .i64 D] w fun e w' => e = .returned (.tuple #[.bool false, .nilIface]) ∧ Below w.heap.size w w' := by
  have HST := Lib.hid (sameType_any d e (.iface t u) y X Y w hx hy)
  rw [decide_eq_false hk] at HST
  have hD1 : (1 : Int) ≤ (D : Int) := by omega
  have hD2 : ¬ ((D : Int) < 1) := by omega
  clear hx hy hk
  go_enter Tryz.func39, Tryz.ntmps39
  go_wp2_with fail
  refine HST.out.mono ?_
  rintro e w2 ⟨rfl, hb2⟩
  have HB2 := Lib.hid hb2; clear hb2
  go_wp2
  go_ret2
  exact ⟨rfl, HB2.out⟩
end Go.Proofs.YtjkmppdmejgjiaaGreatDoor

import Derived.Test.YtpcleebnfgnhdaaGreatDoorGz6
import Derived.Test.YtpcleebnfgnhdaaGreatDoorGz5
/- Plain: a key's worth: two keys are equal just if they are worth the same. -/
set_option linter.unusedVariables false
set_option linter.unusedSimpArgs false
namespace Go.Proofs.YtpcleebnfgnhdaaGreatDoor
open Go.RowKit
open Num

/-- what a key is worth -/
inductive Cn where
  | non
  | bool (b : Bool)
  | num (v : Int)
  | inf (neg : Bool)
  | nan
  | str (s : ByteArray)
  | byt (s : ByteArray)
  | tup (l : List Cn)
  | no

/-- a finite float's worth in units of 2^-1074 -/
def fval (B : Nat) : Int := sI (fneg B) (fman B * 2 ^ (fplace B + 1074).toNat)
def canonF (B : Nat) : Cn := if fexp B = 2047 then (if ffrac B ≠ 0 then .nan else .inf (fneg B)) else .num (fval B)
def canon : Nat → Tr → Cn
  | 0, _ => .no
  | d + 1, x =>
    match x with
    | .non => .non
    | .bool b => .bool b
    | .int n V => .num (sI n V * (hiP : Int))
    | .flt B => canonF B
    | .str s => .str s
    | .byt s => .byt s
    | .tup l => .tup (l.map (canon d))
    | _ => .no

theorem sI_mul (n : Bool) (V k : Nat) : sI n V * (k : Int) = sI n (V * k) := by
  unfold sI
  cases n
  · simp
  · simp [Int.neg_mul]
theorem sI_cancel (n m : Bool) (V U k : Nat) (hk : 0 < k) : sI n (V * k) = sI m (U * k) ↔ sI n V = sI m U := by
  rw [← sI_mul, ← sI_mul]
  constructor
  · intro h
    exact Int.eq_of_mul_eq_mul_right (by omega) h
  · intro h; rw [h]
theorem icmp_zero (a b : Int) : icmp a b = 0 ↔ a = b := by
  unfold icmp
  split
  · constructor <;> intro h <;> omega
  · split
    · constructor <;> intro h <;> omega
    · constructor <;> intro h <;> omega

theorem fcmp_val (n : Bool) (V B : Nat) : fcmp (sI n V) B = 0 ↔ sI n V * (hiP : Int) = fval B := by
  unfold fcmp fval
  rw [icmp_zero, sI_mul, sI_mul]
  have hp := fplace_ge B
  by_cases h : 0 ≤ fplace B
  · rw [show (-fplace B).toNat = 0 by omega, Nat.pow_zero, Nat.mul_one]
    rw [hiP_add (fplace B).toNat (fplace B + 1074).toNat (by omega), ← Nat.mul_assoc]
    exact (sI_cancel _ _ _ _ _ hiP_pos).symm
  · rw [show (fplace B).toNat = 0 by omega, Nat.pow_zero, Nat.mul_one]
    have e := hiP_split (-fplace B).toNat (fplace B + 1074).toNat (by omega)
    rw [← e, ← Nat.mul_assoc]
    exact (sI_cancel _ _ _ _ _ (Nat.two_pow_pos _)).symm

theorem signed_sI (s : Bool) (m u : Nat) : Ieee.signed s m u = sI s (m * 2 ^ u) := by
  cases s
  · rw [signed_false]; rfl
  · rw [signed_true]; rfl
theorem order_val (A B : Nat) (hA : A < 18446744073709551616) (hB : B < 18446744073709551616) (ha : fexp A ≠ 2047) (hb : fexp B ≠ 2047) : (Ieee.double.order A B == some .eq) = true ↔ fval A = fval B := by
  unfold Ieee.Format.order
  rw [read_double A hA ha, read_double B hB hb, signed_cmp, signed_sI, signed_sI]
  have h1 := fplace_ge A
  have h2 := fplace_ge B
  obtain ⟨k, hk⟩ : ∃ k : Nat, (k : Int) = min (fplace A) (fplace B) + 1074 := ⟨(min (fplace A) (fplace B) + 1074).toNat, by omega⟩
  have e1 : (fplace A + 1074).toNat = (fplace A - min (fplace A) (fplace B)).toNat + k := by omega
  have e2 : (fplace B + 1074).toNat = (fplace B - min (fplace A) (fplace B)).toNat + k := by omega
  unfold fval
  rw [e1, e2, Nat.pow_add, Nat.pow_add, ← Nat.mul_assoc, ← Nat.mul_assoc, sI_cancel _ _ _ _ _ (Nat.two_pow_pos k)]
  generalize sI _ _ = x
  generalize sI _ _ = y
  rcases Int.lt_trichotomy x y with h | h | h
  · rw [Int.compare_eq_lt.2 h]; constructor
    · intro q; cases q
    · intro q; omega
  · subst h
    rw [Int.compare_eq_eq.2 rfl]; simp
  · rw [Int.compare_eq_gt.2 h]; constructor
    · intro q; cases q
    · intro q; omega

theorem feq_val (A B : Nat) (hA : A < 18446744073709551616) (hB : B < 18446744073709551616) : feq A B = true ↔ canonF A = canonF B := by
  unfold feq canonF
  by_cases ha : fexp A = 2047
  · by_cases hb : fexp B = 2047
    · rw [if_pos ha, if_pos hb]
      by_cases ha0 : ffrac A = 0
      · by_cases hb0 : ffrac B = 0
        · rw [if_neg (by simp [ha0]), if_neg (by simp [hb0])]
          unfold Ieee.Format.order
          rw [read_inf A hA ha ha0, read_inf B hB hb hb0]
          cases fneg A <;> cases fneg B <;> simp [Ieee.Datum.order, ha0, hb0] <;> decide
        · rw [if_neg (by simp [ha0]), if_pos hb0]
          unfold Ieee.Format.order
          rw [read_inf A hA ha ha0, read_nan B hB hb hb0]
          simp [Ieee.Datum.order, ha0]
      · by_cases hb0 : ffrac B = 0
        · rw [if_pos ha0, if_neg (by simp [hb0])]
          unfold Ieee.Format.order
          rw [read_nan A hA ha ha0, read_inf B hB hb hb0]
          simp [Ieee.Datum.order, hb0]
        · rw [if_pos ha0, if_pos hb0]
          simp [ha, hb, ha0, hb0]
    · rw [if_pos ha, if_neg hb]
      unfold Ieee.Format.order
      rw [read_double B hB hb]
      by_cases ha0 : ffrac A = 0
      · rw [if_neg (by simp [ha0]), read_inf A hA ha ha0]
        cases fneg A <;> simp [Ieee.Datum.order, hb] <;> decide
      · rw [if_pos ha0, read_nan A hA ha ha0]
        simp [Ieee.Datum.order, hb]
  · by_cases hb : fexp B = 2047
    · rw [if_neg ha, if_pos hb]
      unfold Ieee.Format.order
      rw [read_double A hA ha]
      by_cases hb0 : ffrac B = 0
      · rw [if_neg (by simp [hb0]), read_inf B hB hb hb0]
        cases fneg B <;> simp [Ieee.Datum.order, ha] <;> decide
      · rw [if_pos hb0, read_nan B hB hb hb0]
        simp [Ieee.Datum.order, ha]
    · rw [if_neg ha, if_neg hb]
      have := order_val A B hA hB ha hb
      simp only [ha, hb, false_and, decide_false, Bool.false_and, Bool.false_or]
      rw [this]
      constructor
      · intro h; rw [h]
      · intro h; injection h

/-- floats are doubles' bits -/
def FltT : Nat → Tr → Prop
  | 0, _ => True
  | d + 1, x =>
    match x with
    | .flt B => B < 18446744073709551616
    | .tup l => ∀ k ∈ l, FltT d k
    | _ => True

theorem fcAll_val (n : Bool) (V B : Nat) : (fcAll (sI n V) B == 0) = true ↔ Cn.num (sI n V * (hiP : Int)) = canonF B := by
  unfold fcAll canonF
  by_cases hb : fexp B = 2047
  · rw [if_pos hb, if_pos hb]
    by_cases hb0 : ffrac B = 0
    · have hn : ¬ (ffrac B ≠ 0) := fun h => h hb0
      simp only [hb0, ne_eq, not_true_eq_false, if_false]
      cases fneg B <;> simp
    · simp [hb0]
  · rw [if_neg hb, if_neg hb]
    rw [beq_iff_eq, fcmp_val]
    constructor
    · intro h; rw [h]
    · intro h; injection h

theorem allTwo_map {f : Tr → Tr → Bool} {g : Tr → Cn} : ∀ (l m : List Tr), (∀ x ∈ l, ∀ y ∈ m, (f x y = true ↔ g x = g y)) → (allTwo f l m = true ↔ l.map g = m.map g)
  | [], [], _ => by simp [allTwo]
  | [], _ :: _, _ => by simp [allTwo]
  | _ :: _, [], _ => by simp [allTwo]
  | x :: l, y :: m, h => by
    have h1 := h x (by simp) y (by simp)
    have h2 := allTwo_map (f := f) (g := g) l m (fun a ha b hb => h a (by simp [ha]) b (by simp [hb]))
    simp only [allTwo, Bool.and_eq_true, List.map_cons, List.cons.injEq]
    rw [h1, h2]

theorem eqv_canon : ∀ (d : Nat) (x y : Tr), KeyT d x → KeyT d y → FltT d x → FltT d y → (eqv d x y = true ↔ canon d x = canon d y)
  | 0, _, _, h, _, _, _ => h.elim
  | d + 1, x, y, hx, hy, fx, fy => by
    cases x <;> cases y <;> first | (exact hx.elim) | (exact hy.elim) | skip
    all_goals simp only [eqv, canon]
    case int.int n V m U =>
      rw [beq_iff_eq]
      constructor
      · intro h; rw [h]
      · intro h
        injection h with h
        exact Int.eq_of_mul_eq_mul_right (by have := hiP_pos; omega) h
    case int.flt n V B => exact fcAll_val n V B
    case flt.int B n V => rw [fcAll_val]; exact eq_comm
    case flt.flt A B => exact feq_val A B fx fy
    case tup.tup l m =>
      rw [allTwo_map (g := canon d) l m (fun a ha b hb => eqv_canon d a b (hx a ha) (hy b hb) (fx a ha) (fy b hb))]
      constructor
      · intro h; rw [h]
      · intro h; injection h
    all_goals try (simp; done)
    all_goals (unfold canonF; split <;> (try split) <;> simp)
end Go.Proofs.YtpcleebnfgnhdaaGreatDoor

/- Plain: a key's hash; two keys of one worth have one hash. -/
set_option linter.unusedVariables false
set_option linter.unusedSimpArgs false
namespace Go.Proofs.YtpcleebnfgnhdaaGreatDoor
open Go.RowKit
open Num

/-- the low word of an int of the package: of a small one as it lies, of a big one of its magnitude -/
def lowW (z : Int) : Nat := if -2147483648 ≤ z ∧ z ≤ 2147483647 then (z % 18446744073709551616).toNat else z.natAbs % 18446744073709551616
def hashZ (z : Int) : Nat := 12582917 * ((lowW z + 3) % 18446744073709551616 % 4294967296) % 4294967296
/-- a text's hash, of its first so many bytes -/
def fnvN (s : ByteArray) : Nat → Nat
  | 0 => 2166136261
  | k + 1 => (fnvN s k ^^^ (s.data.getD k 0).toNat) * 16777619 % 4294967296
def fnv (s : ByteArray) : Nat := fnvN s s.size
/-- a tuple's factor, before element k -/
def tupM (g : Nat) : Nat → Nat
  | 0 => 1000003
  | k + 1 => (tupM g k + g) % 4294967296
/-- a tuple's hash, of its first k elements -/
def tupN (g : Nat) (H : Nat → Nat) : Nat → Nat
  | 0 => 3430008
  | k + 1 => tupN g H k ^^^ (H k * tupM g k % 4294967296)
def hashT : Nat → Tr → Nat
  | 0, _ => 0
  | d + 1, x =>
    match x with
    | .non => 0
    | .bool b => b.toNat
    | .int n V => hashZ (sI n V)
    | .flt B => if fexp B = 2047 then 1618033 else hashZ (sI (fneg B) (fwhole B))
    | .str s => fnv s
    | .byt s => fnv s
    | .tup l => tupN ((82520 + 2 * l.length) % 4294967296) (fun i => (l.map (hashT d)).getD i 0) l.length
    | _ => 0
/-- zero is no hash -/
def nzH (h : Nat) : Nat := if h = 0 then 1 else h

theorem hashZ_lt (z : Int) : hashZ z < 4294967296 := Nat.mod_lt _ (by decide)
theorem fnvN_lt (s : ByteArray) : ∀ k, fnvN s k < 4294967296
  | 0 => by show 2166136261 < _; decide
  | k + 1 => Nat.mod_lt _ (by decide)
theorem fnv_lt (s : ByteArray) : fnv s < 4294967296 := fnvN_lt s _
theorem tupM_lt (g : Nat) : ∀ k, tupM g k < 4294967296
  | 0 => by show 1000003 < _; decide
  | k + 1 => Nat.mod_lt _ (by decide)
theorem tupN_lt (g : Nat) (H : Nat → Nat) : ∀ k, tupN g H k < 4294967296
  | 0 => by show 3430008 < _; decide
  | k + 1 => Nat.xor_lt_two_pow (n := 32) (tupN_lt g H k) (Nat.mod_lt _ (by decide))
theorem hashT_lt : ∀ (d : Nat) (x : Tr), hashT d x < 4294967296
  | 0, _ => by show 0 < _; decide
  | d + 1, x => by
    cases x <;> simp only [hashT]
    case bool b => cases b <;> decide
    case int n V => exact hashZ_lt _
    case flt B => split
                  · decide
                  · exact hashZ_lt _
    case str s => exact fnv_lt s
    case byt s => exact fnv_lt s
    case tup l => exact tupN_lt _ _ _
    all_goals decide
theorem nzH_pos (h : Nat) : 0 < nzH h := by unfold nzH; split <;> omega
theorem nzH_lt {h : Nat} (hl : h < 4294967296) : nzH h < 4294967296 := by unfold nzH; split <;> omega

theorem fval_whole (B : Nat) : (fman B * 2 ^ (fplace B + 1074).toNat) / hiP = fwhole B := by
  have hp := fplace_ge B
  unfold fwhole
  by_cases h : 0 ≤ fplace B
  · rw [if_pos h, hiP_add (fplace B).toNat (fplace B + 1074).toNat (by omega), ← Nat.mul_assoc, Nat.mul_div_cancel _ hiP_pos]
  · rw [if_neg h, ← hiP_split (-fplace B).toNat (fplace B + 1074).toNat (by omega), Nat.mul_div_mul_right _ _ (Nat.two_pow_pos _)]
theorem sI_tdiv (n : Bool) (V k : Nat) : (sI n V).tdiv (k : Int) = sI n (V / k) := by
  unfold sI
  cases n
  · simp
  · simp [Int.neg_tdiv]
theorem fval_tdiv (B : Nat) : (fval B).tdiv (hiP : Int) = sI (fneg B) (fwhole B) := by
  unfold fval
  rw [sI_tdiv, fval_whole]
theorem num_tdiv (z : Int) : (z * (hiP : Int)).tdiv (hiP : Int) = z := Int.mul_tdiv_cancel _ (by have := hiP_pos; omega)

theorem map_hash {f : Tr → Nat} {g : Tr → Cn} : ∀ (l m : List Tr), (∀ x ∈ l, ∀ y ∈ m, g x = g y → f x = f y) → l.map g = m.map g → l.map f = m.map f
  | [], [], _, _ => rfl
  | [], _ :: _, _, h => by cases h
  | _ :: _, [], _, h => by cases h
  | x :: l, y :: m, h, e => by
    injection e with e1 e2
    rw [List.map_cons, List.map_cons, h x (by simp) y (by simp) e1, map_hash l m (fun a ha b hb => h a (by simp [ha]) b (by simp [hb])) e2]

theorem hash_canonF (n : Bool) (V B : Nat) (h : Cn.num (sI n V * (hiP : Int)) = canonF B) : hashZ (sI n V) = (if fexp B = 2047 then 1618033 else hashZ (sI (fneg B) (fwhole B))) := by
  unfold canonF at h
  split at h
  · split at h <;> cases h
  · rename_i hb
    injection h with h
    rw [if_neg hb, ← fval_tdiv, ← h, num_tdiv]

/-- two keys of one worth have one hash -/
theorem hash_canon : ∀ (d : Nat) (x y : Tr), KeyT d x → KeyT d y → canon d x = canon d y → hashT d x = hashT d y
  | 0, _, _, h, _, _ => h.elim
  | d + 1, x, y, hx, hy, h => by
    cases x <;> cases y <;> first | (exact hx.elim) | (exact hy.elim) | skip
    all_goals simp only [canon] at h
    all_goals first | (cases h; done) | skip
    all_goals simp only [hashT]
    case bool.bool a b => injection h with h; rw [h]
    case int.int n V m U =>
      injection h with h
      rw [← num_tdiv (sI n V), h, num_tdiv]
    case int.flt n V B => exact hash_canonF n V B h
    case flt.int B n V => exact (hash_canonF n V B h.symm).symm
    case flt.flt A B =>
      unfold canonF at h
      split at h
      · rename_i ha
        split at h
        · split at h
          · rename_i hb; rw [if_pos ha, if_pos hb]
          · cases h
        · split at h
          · rename_i hb; rw [if_pos ha, if_pos hb]
          · cases h
      · rename_i ha
        split at h
        · split at h <;> cases h
        · rename_i hb
          injection h with h
          rw [if_neg ha, if_neg hb, ← fval_tdiv, h, fval_tdiv]
    case str.str a b => injection h with h; rw [h]
    case byt.byt a b => injection h with h; rw [h]
    case tup.tup l m =>
      injection h with h
      have hl : l.length = m.length := by simpa using congrArg List.length h
      rw [map_hash (f := hashT d) l m (fun a ha b hb e => hash_canon d a b (hx a ha) (hy b hb) e) h, hl]
    all_goals (exfalso; revert h; unfold canonF; split <;> (try split) <;> intro h <;> cases h)

/-- equal keys have one hash -/
theorem hash_eqv (d : Nat) (x y : Tr) (hx : KeyT d x) (hy : KeyT d y) (fx : FltT d x) (fy : FltT d y) (h : eqv d x y = true) : hashT d x = hashT d y :=
  hash_canon d x y hx hy ((eqv_canon d x y hx hy fx fy).1 h)
/-- what is equal to one of two equal keys is equal to the other -/
theorem eqv_trans (d : Nat) (x y z : Tr) (hx : KeyT d x) (hy : KeyT d y) (hz : KeyT d z) (fx : FltT d x) (fy : FltT d y) (fz : FltT d z) (h : eqv d x y = true) : eqv d x z = eqv d y z := by
  have e := (eqv_canon d x y hx hy fx fy).1 h
  rw [Bool.eq_iff_iff, eqv_canon d x z hx hz fx fz, eqv_canon d y z hy hz fy fz, e]
theorem eqv_refl (d : Nat) (x : Tr) (hx : KeyT d x) (fx : FltT d x) : eqv d x x = true := (eqv_canon d x x hx hx fx fx).2 rfl
end Go.Proofs.YtpcleebnfgnhdaaGreatDoor

/- What lies in memory: a value of the package, of a tree. -/
set_option linter.unusedVariables false
set_option linter.unusedSimpArgs false
namespace Go.Proofs.YtpcleebnfgnhdaaGreatDoor
open Go.RowKit
open Num

/-- a hash table of n entries in block b, of a type: the keys and values it holds -/
def TabAt (w : World) (t : TypeId) (b : Nat) (P : Value → Tr → Prop) (Q : Value → Tr → Prop) (d : Nat) (ks vs : List Tr) : Prop :=
  ∃ K V : Nat → Value, ∃ laid : Bool, ks.length ≤ 8 ∧ vs.length = ks.length ∧ (laid = true ∨ ks = []) ∧
    Row w b t 47 (htCell b laid ks.length (fun i => nzH (hashT d (ks.getD i .non))) K V) ∧
    ∀ i (h : i < ks.length) (h2 : i < vs.length), P (K i) ks[i] ∧ Q (V i) vs[i]
/-- the values of a dict's kids -/
def valsOf : List Tr → List Tr
  | _ :: v :: l => v :: valsOf l
  | _ => []
/-- a value of the package, of so many levels -/
def StarAt (w : World) : Nat → Value → Tr → Prop
  | 0, _, _ => False
  | d + 1, v, T =>
    match T with
    | .non => v = .iface 104 (.int .u8 0)
    | .bool b => v = .iface 105 (.bool b)
    | .int n V => ∃ u, v = .iface 110 u ∧ IntIs w 0 u n V ∧ (n = true → 0 < V) ∧ ∀ k, Nw k V → k ≤ 1048576
    | .flt B => v = .iface 112 (.float .f64 B) ∧ B < 18446744073709551616
    | .str s => v = .iface 96 (.string s) ∧ s.size ≤ 60
    | .byt s => v = .iface 114 (.string s) ∧ s.size ≤ 60
    | .lst l => ∃ b s, v = .iface 115 (.pointer (some ⟨b, 0, none⟩)) ∧ w.heap[b]? = some (.cells #[s, .bool false, .int .u32 0] 162 (0, 0)) ∧ ElemsAt w (StarAt w d) s l
    | .tup l => ∃ s, v = .iface 121 s ∧ ElemsAt w (StarAt w d) s l
    | .dic l => ∃ b, v = .iface 122 (.pointer (some ⟨b, 0, none⟩)) ∧ l.length % 2 = 0 ∧ TabAt w 143 b (StarAt w d) (StarAt w d) d (keysOf l) (valsOf l)
    | .set l => ∃ b, v = .iface 124 (.pointer (some ⟨b, 0, none⟩)) ∧ TabAt w 169 b (StarAt w d) (fun u _ => u = .iface 104 (.int .u8 0)) d l l

theorem TabAt.below {w w' : World} {t : TypeId} {b : Nat} {P P' Q Q' : Value → Tr → Prop} {d : Nat} {ks vs : List Tr} (h : TabAt w t b P Q d ks vs) (hb : Below w.heap.size w w') (hP : ∀ u x, P u x → P' u x) (hQ : ∀ u x, Q u x → Q' u x) : TabAt w' t b P' Q' d ks vs := by
  obtain ⟨K, V, laid, h1, h2, h3, hr, hk⟩ := h
  exact ⟨K, V, laid, h1, h2, h3, hr.keep (hb.block _ hr.lt), fun i a c => ⟨hP _ _ (hk i a c).1, hQ _ _ (hk i a c).2⟩⟩
theorem StarAt.below {w w' : World} (hb : Below w.heap.size w w') : ∀ (d : Nat) (v : Value) (T : Tr), StarAt w d v T → StarAt w' d v T
  | 0, _, _, h => h
  | d + 1, v, T, h => by
    cases T with
    | non => exact h
    | bool b => exact h
    | int n V => obtain ⟨u, e, h1, h2⟩ := h; exact ⟨u, e, h1.below hb, h2⟩
    | flt B => exact h
    | str s => exact h
    | byt s => exact h
    | lst l => obtain ⟨b, s, e, h1, h2⟩ := h; exact ⟨b, s, e, (hb.block _ (Array.getElem?_eq_some_iff.1 h1).1).trans h1, h2.below hb (fun u t => StarAt.below hb d u t)⟩
    | tup l => obtain ⟨s, e, h2⟩ := h; exact ⟨s, e, h2.below hb (fun u t => StarAt.below hb d u t)⟩
    | dic l => obtain ⟨b, e, h1, h2⟩ := h; exact ⟨b, e, h1, h2.below hb (fun u t => StarAt.below hb d u t) (fun u t => StarAt.below hb d u t)⟩
    | set l => obtain ⟨b, e, h2⟩ := h; exact ⟨b, e, h2.below hb (fun u t => StarAt.below hb d u t) (fun _ _ q => q)⟩
end Go.Proofs.YtpcleebnfgnhdaaGreatDoor

/- Walks: the hashes of None, of a bool, an int. -/
set_option linter.unusedVariables false
set_option linter.unusedSimpArgs false
namespace Go.Proofs.YtpcleebnfgnhdaaGreatDoor
open Go.RowKit
open Num

theorem finite_le (B : Nat) (hB : B < 18446744073709551616) :
    (FloatKind.f64.format.order (B % 9223372036854775808) 9218868437227405311 == some .lt || FloatKind.f64.format.order (B % 9223372036854775808) 9218868437227405311 == some .eq) = decide (fexp B ≠ 2047) := by
  show (Ieee.double.order (B % 9223372036854775808) 9218868437227405311 == some .lt || Ieee.double.order (B % 9223372036854775808) 9218868437227405311 == some .eq) = _
  have hA : B % 9223372036854775808 < 9223372036854775808 := Nat.mod_lt _ (by decide)
  have ex : fexp (B % 9223372036854775808) = fexp B := by unfold fexp; omega
  have ef : ffrac (B % 9223372036854775808) = ffrac B := by unfold ffrac; omega
  by_cases hf : fexp B = 2047
  · by_cases h0 : ffrac B = 0
    · have hg := gt_max _ hA (by rw [ex, ef]; simp [h0])
      rw [ex] at hg
      simp only [hf, decide_true, beq_iff_eq] at hg
      rw [hg]; simp [hf]
    · unfold Ieee.Format.order
      rw [read_nan _ (by omega) (by rw [ex]; exact hf) (by rw [ef]; exact h0)]
      simp [Ieee.Datum.order, hf]
  · have hg := gt_max _ hA (by rw [ex, ef]; simp [hf])
    rw [ex] at hg
    have hs : ∃ o, Ieee.double.order (B % 9223372036854775808) 9218868437227405311 = some o := by
      unfold Ieee.Format.order
      rw [read_double _ (by omega) (by rw [ex]; exact hf), read_max, signed_cmp]
      exact ⟨_, rfl⟩
    obtain ⟨o, ho⟩ := hs
    rw [ho] at hg ⊢
    cases o
    · simp [hf]
    · simp [hf]
    · simp [hf] at hg

theorem isFinite_any (B : Nat) (hB : B < 18446744073709551616) (w : World) :
    Calls Tryz.prog 329 #[.float .f64 B] w fun e w' => e = .returned (.bool (decide (fexp B ≠ 2047))) ∧ w' = w := by
  have HA := Lib.hid (fun W : World => Abs_any B hB W)
  have hle := finite_le B hB
  obtain ⟨o, ho⟩ : ∃ o, o = decide (fexp B ≠ 2047) := ⟨_, rfl⟩
  rw [← ho] at hle ⊢
  clear ho
  go_enter Tryz.func329, Tryz.ntmps329
  go_wp2_with fail
  refine (HA.out _).mono ?_
  rintro e w2 ⟨rfl, rfl⟩
  go_wp2
  go_ret
  exact ⟨rfl, rfl⟩

theorem Hash_none (v : Value) (w : World) :
    Calls Tryz.prog 301 #[v] w fun e w' => e = .returned (.tuple #[.int .u32 0, .nilIface]) ∧ w' = w := by
  go_enter Tryz.func301, Tryz.ntmps301
  go_wp2
  go_ret2
  exact ⟨rfl, rfl⟩

theorem b2i_any (b : Bool) (w : World) :
    Calls Tryz.prog 311 #[.bool b] w fun e w' => e = .returned (.int .i64 (b.toNat : Int)) ∧ w' = w := by
  cases b
  all_goals
    go_enter Tryz.func311, Tryz.ntmps311
    go_wp2
    go_ret
    exact ⟨rfl, rfl⟩

theorem Hash_bool (b : Bool) (w : World) :
    Calls Tryz.prog 307 #[.bool b] w fun e w' => e = .returned (.tuple #[.int .u32 (b.toNat : Int), .nilIface]) ∧ w' = w := by
  have HB := Lib.hid (fun W : World => b2i_any b W)
  have hw : IntKind.u32.wrap (b.toNat : Int) = (b.toNat : Int) := by cases b <;> rfl
  obtain ⟨k, hk⟩ : ∃ k : Int, k = (b.toNat : Int) := ⟨_, rfl⟩
  rw [← hk] at hw HB ⊢
  clear hk
  go_enter Tryz.func307, Tryz.ntmps307
  go_wp2_with fail
  refine (HB.out _).mono ?_
  rintro e w2 ⟨rfl, rfl⟩
  go_wp2
  go_ret2
  exact ⟨by first | rfl | rw [hw], rfl⟩

theorem lowW_small (neg : Bool) (V : Nat) (h : sm neg V = true) : lowW (sI neg V) = ((sI neg V) % 18446744073709551616).toNat ∧ -2147483648 ≤ sI neg V ∧ sI neg V ≤ 2147483647 := by
  have hb : -2147483648 ≤ sI neg V ∧ sI neg V ≤ 2147483647 := by
    unfold sm at h
    unfold sI
    cases neg
    · simp at h ⊢; omega
    · simp at h ⊢; omega
  exact ⟨by unfold lowW; rw [if_pos hb], hb.1, hb.2⟩
theorem lowW_big (neg : Bool) (V : Nat) (h : sm neg V = false) : lowW (sI neg V) = V % 18446744073709551616 := by
  have hb : ¬ (-2147483648 ≤ sI neg V ∧ sI neg V ≤ 2147483647) := by
    unfold sm at h
    unfold sI
    cases neg
    · simp at h ⊢; omega
    · simp at h ⊢; omega
  unfold lowW
  rw [if_neg hb]
  unfold sI
  cases neg <;> simp

theorem Bits_any (b o : Nat) (s : Value) (w : World) (x1 : w.cell? ⟨b, o + 1, none⟩ = some s) :
    Calls Tryz.prog 321 #[.pointer (some ⟨b, o, none⟩)] w fun e w' => e = .returned s ∧ w' = w := by
  go_enter Tryz.func321, Tryz.ntmps321
  go_wp2
  go_ret
  exact ⟨rfl, rfl⟩

theorem hash_lit (z : Int) (l : Nat) (h : lowW z = l) (hl : l < 18446744073709551616) : 12582917 * (IntKind.u64.wrap ((l : Int) + 3) % 4294967296) % 4294967296 = (hashZ z : Int) := by
  unfold hashZ
  rw [h]
  simp only [IntKind.wrap_u64]
  omega

set_option maxRecDepth 100000 in
theorem Hash_int (base : Nat) (v : Value) (neg : Bool) (V : Nat) (w : World) (hI : IntIs w base v neg V) :
    Calls Tryz.prog 315 #[v] w fun e w' => e = .returned (.tuple #[.int .u32 (hashZ (sI neg V)), .nilIface]) ∧ Below w.heap.size w w' := by
  rcases hI with ⟨hs, rfl⟩ | ⟨hs, b, s, n, g, c, f, rfl, hbb, hh, h0, hN, hn, rfl, hbg, hnc, hc, hr, hf⟩
  · obtain ⟨h1, h2, h3⟩ := lowW_small neg V hs
    obtain ⟨z, hz⟩ : ∃ z, z = sI neg V := ⟨_, rfl⟩
    have hz2 : (if neg then -(V : Int) else (V : Int)) = z := by rw [hz]; rfl
    rw [hz2]
    rw [← hz] at h1 h2 h3 ⊢
    have hl := hash_lit z _ h1 (by omega)
    have hl2 : IntKind.u64.wrap z = ((z % 18446744073709551616).toNat : Int) := by simp only [IntKind.wrap_u64]; omega
    rw [← hl2] at hl
    have HL := Lib.hid hl
    clear hz hz2 h1 hl hl2 h2 h3
    have HG := Lib.hid (fun W : World => get_any z none W)
    go_enter Tryz.func315, Tryz.ntmps315
    go_wp2_with fail
    refine (HG.out _).mono ?_
    rintro e w2 ⟨rfl, hb2⟩
    have HB2 := Lib.hid hb2; clear hb2
    go_wp2
    go_ret2
    exact ⟨by rw [← HL.out]; rfl, ((Below.refl _ _).alloc (Nat.le_refl _) _).trans (HB2.out.mono (by simp))⟩
  · have h1 := lowW_big neg V hs
    have hl := hash_lit (sI neg V) _ h1 (Nat.mod_lt _ (by decide))
    have hf0 := hf 0 h0
    rw [show wd V 0 = V % 18446744073709551616 by unfold wd; simp] at hf0
    obtain ⟨l, hl'⟩ : ∃ l : Int, l = ((V % 18446744073709551616 : Nat) : Int) := ⟨_, rfl⟩
    rw [← hl'] at hl hf0
    obtain ⟨k, hk⟩ : ∃ k : Int, k = (hashZ (sI neg V) : Int) := ⟨_, rfl⟩
    rw [← hk] at hl ⊢
    have HL := Lib.hid hl
    have hcell := (hr.cell (i := 0) (by omega))
    rw [hf0] at hcell
    have hb1 : b < w.heap.size := (Array.getElem?_eq_some_iff.1 hh).1
    have hg1 : g < w.heap.size := hr.lt
    have hnpos : 0 < (n : Int) := by omega
    have x1 : w.cell? ⟨b, 0 + 1, none⟩ = some (.slice (some ⟨g, 0, none⟩) n c) := (cell_of_row w b 1 _ _ (0, 0) hh).trans rfl
    have HC := Lib.hid hcell; have HX := Lib.hid x1
    clear hk hl hl' hf0 hf hr hh hN hs h1 hcell x1
    have HG := Lib.hid (fun W : World => get_any 0 (some ⟨b, 0, none⟩) W)
    go_enter Tryz.func315, Tryz.ntmps315
    go_wp2_with fail
    refine (HG.out _).mono ?_
    rintro e w2 ⟨rfl, hb2⟩
    have hb3 := ((Below.refl _ _).alloc (Nat.le_refl _) _).trans (hb2.mono (by simp))
    have HB3 := Lib.hid hb3; clear hb2 hb3
    go_wp2_with fail
    refine (Bits_any b 0 _ _ ((HB3.out.cell (p := ⟨b, 1, none⟩) hb1).trans HX.out)).mono ?_
    rintro e w3 ⟨rfl, rfl⟩
    have c0 := (HB3.out.cell (p := ⟨g, 0, none⟩) hg1).trans HC.out
    go_wp2
    go_ret2
    exact ⟨by rw [← HL.out]; rfl, HB3.out⟩

end Go.Proofs.YtpcleebnfgnhdaaGreatDoor

/- Walks: a text's hash. -/
set_option linter.unusedVariables false
set_option linter.unusedSimpArgs false
namespace Go.Proofs.YtpcleebnfgnhdaaGreatDoor
open Go.RowKit
open Num

theorem bits_xor_u32_nat (a b : Nat) (ha : a < 4294967296) (hb : b < 4294967296) :
    bits .xor .u32 (a : Int) (b : Int) = ((a ^^^ b : Nat) : Int) := by
  have hx : a ^^^ b < 2 ^ 32 := Nat.xor_lt_two_pow (by omega) (by omega)
  have h1 : (BitVec.ofInt 32 (a : Int)).toNat = a := by
    rw [BitVec.ofInt_natCast, BitVec.toNat_ofNat]; exact Nat.mod_eq_of_lt (by omega)
  have h2 : (BitVec.ofInt 32 (b : Int)).toNat = b := by
    rw [BitVec.ofInt_natCast, BitVec.toNat_ofNat]; exact Nat.mod_eq_of_lt (by omega)
  show IntKind.u32.wrap ((BitVec.ofInt 32 (a : Int) ^^^ BitVec.ofInt 32 (b : Int)).toNat : Int) = _
  rw [BitVec.toNat_xor, h1, h2]
  simp only [IntKind.wrap, IntKind.bits, IntKind.signed]
  simp
  omega

theorem index_byte (t : TypeId) (s : ByteArray) (k : Nat) (h : Tryz.prog.underlying t = some .string) (hk : k < s.size) (w : World) :
    (Instr.index t (.string s) (.int .i64 (k : Int))).run Tryz.prog w = .ok (.int .u8 ((s.data.getD k 0).toNat : Int)) w := by
  rw [run_index_string w t s .i64 k h, dif_pos ⟨by omega, by omega⟩]
  have hk2 : k < s.data.size := hk
  have : s[k] = s.data.getD k 0 := by
    simp [Array.getD, hk2]
    rw [dif_pos hk]
    rfl
  simp only [Int.toNat_natCast]
  rw [this]
theorem strUnder : Tryz.prog.underlying 9 = some .string := by kernel_rfl

set_option maxRecDepth 100000 in
theorem softHash_any (s : ByteArray) (hs : s.size ≤ 1000000) (w : World) :
    Calls Tryz.prog 284 #[.string s] w fun e w' => e = .returned (.int .u32 (fnv s)) ∧ w = w' := by
  have HIX := Lib.hid (fun (k : Nat) (hk : k < s.size) (W : World) => index_byte 9 s k strUnder hk W)
  go_enter Tryz.func284, Tryz.ntmps284
  go_wp2
  go_loop [3, 4] (fun h i => ∃ k : Nat, k ≤ s.size ∧ i = .int .i64 k ∧ h = .int .u32 (fnvN s k)) (fun _ i => s.size - (intOf i).toNat)
  case atStart => exact ⟨0, by omega, rfl, rfl⟩
  case round =>
    obtain ⟨k, hk, rfl, rfl⟩ := hrel
    by_cases h0 : k = s.size
    · subst h0
      go_wp2
      go_ret
      exact ⟨rfl, rfl⟩
    · have hlt : (k : Int) < (s.size : Int) := by omega
      have hix := HIX.out k (by omega)
      have hb8 : (s.data.getD k 0).toNat < 256 := UInt8.toNat_lt _
      have hx := bits_xor_u32_nat (fnvN s k) (s.data.getD k 0).toNat (fnvN_lt s k) (by omega)
      have hst : fnvN s (k + 1) = (fnvN s k ^^^ (s.data.getD k 0).toNat) * 16777619 % 4294967296 := rfl
      generalize (s.data.getD k 0).toNat = b at *
      generalize fnvN s k = f at hx hst ⊢
      have HST := Lib.hid hst; have HX := Lib.hid hx; clear hst hx
      have hw8 : (b : Int) % 4294967296 = (b : Int) := by omega
      go_wp2
      go_round
      case rel => exact ⟨k + 1, by omega, by go_num, by rw [HST.out, Int.natCast_emod, Int.natCast_mul, ← HX.out]; rfl⟩
      case measure => simp [intOf]; omega

theorem hashString_any (s : ByteArray) (hs : s.size ≤ 1000000) (w : World) :
    Calls Tryz.prog 283 #[.string s] w fun e w' => e = .returned (.int .u32 (fnv s)) ∧ w = w' := by
  have HS := Lib.hid (fun W : World => softHash_any s hs W)
  go_enter Tryz.func283, Tryz.ntmps283
  go_wp2_with fail
  refine (HS.out _).mono ?_
  rintro e w2 ⟨rfl, rfl⟩
  go_wp2
  go_ret
  exact ⟨rfl, rfl⟩
theorem Hash_str (s : ByteArray) (hs : s.size ≤ 1000000) (w : World) :
    Calls Tryz.prog 282 #[.string s] w fun e w' => e = .returned (.tuple #[.int .u32 (fnv s), .nilIface]) ∧ w = w' := by
  have HS := Lib.hid (fun W : World => hashString_any s hs W)
  go_enter Tryz.func282, Tryz.ntmps282
  go_wp2_with fail
  refine (HS.out _).mono ?_
  rintro e w2 ⟨rfl, rfl⟩
  go_wp2
  go_ret2
  exact ⟨rfl, rfl⟩
theorem Hash_byt (s : ByteArray) (hs : s.size ≤ 1000000) (w : World) :
    Calls Tryz.prog 336 #[.string s] w fun e w' => e = .returned (.tuple #[.int .u32 (fnv s), .nilIface]) ∧ w = w' := by
  have HS := Lib.hid (fun W : World => Hash_str s hs W)
  go_enter Tryz.func336, Tryz.ntmps336
  go_wp2_with fail
  refine (HS.out _).mono ?_
  rintro e w2 ⟨rfl, rfl⟩
  go_wp2
  go_ret2
  exact ⟨rfl, rfl⟩
end Go.Proofs.YtpcleebnfgnhdaaGreatDoor

/- Walks: spec.floatParts, bytesOf, Power, Zero, digit. -/
set_option linter.unusedVariables false
set_option linter.unusedSimpArgs false
namespace Go.Proofs.YtpcleebnfgnhdaaGreatDoor
open Go.RowKit
open Num

theorem floatParts_any (B : Nat) (hB : B < 18446744073709551616) (w : World) :
    Calls Tryz.prog 147 #[.float .f64 B] w fun e w' => e = .returned (.tuple #[.bool (fneg B), .int .u64 (fman B : Nat), .int .i64 (fplace B)]) ∧ w' = w := by
  have h1 : bits .and .u64 ((B : Int) / 4503599627370496) 2047 = (fexp B : Int) := by
    have := and_2047 (B / 4503599627370496) (by omega)
    rw [Int.natCast_ediv] at this
    exact this
  have h2 : bits .and .u64 (B : Int) 4503599627370495 = (ffrac B : Int) := and_frac B hB
  have h3 : (((B : Int) / 9223372036854775808) == 1) = fneg B := by
    unfold fneg
    by_cases h : B / 9223372036854775808 = 1
    · have : ((B : Int) / 9223372036854775808) = 1 := by omega
      simp [h, this]
    · have : ((B : Int) / 9223372036854775808) ≠ 1 := by omega
      rw [beq_eq_false_iff_ne.2 this, beq_eq_false_iff_ne.2 h]
  have h4 : bits .or .u64 (ffrac B : Int) 4503599627370496 = ((ffrac B + 4503599627370496 : Nat) : Int) := or_hidden _ (ffrac_lt B)
  have hb := run_tobits B
  have hx := fexp_lt B
  have h1b : (fexp B : Int) ≤ 2047 := by omega
  by_cases h0 : fexp B = 0
  · have hm : fman B = ffrac B := by unfold fman; rw [if_pos h0]
    have hp : fplace B = -1074 := by unfold fplace; rw [if_pos h0]
    have h5 : ((fexp B : Int) == 0) = true := by rw [h0]; rfl
    rw [hm, hp]
    clear h0 hm hp hx
    go_enter Tryz.func147, Tryz.ntmps147
    go_wp2
    exact bodyPost_ret (v := .tuple #[.bool (fneg B), .int .u64 (ffrac B : Nat), .int .i64 (-1074)]) (by simp [results, Tryz.results147, go_sem]) rfl ⟨rfl, rfl⟩
  · have hm : fman B = ffrac B + 4503599627370496 := by unfold fman; rw [if_neg h0]
    have hp : fplace B = (fexp B : Int) - 1075 := by unfold fplace; rw [if_neg h0]
    have h5 : ((fexp B : Int) == 0) = false := by rw [beq_eq_false_iff_ne]; omega
    rw [hm, hp]
    clear h0 hm hp
    go_enter Tryz.func147, Tryz.ntmps147
    go_wp2
    exact bodyPost_ret (v := .tuple #[.bool (fneg B), .int .u64 ((ffrac B + 4503599627370496 : Nat) : Int), .int .i64 ((fexp B : Int) - 1075)]) (by simp [results, Tryz.results147, go_sem]) rfl ⟨rfl, rfl⟩

theorem bytesOf_any (U : Nat) (hU : U < 18446744073709551616) (w : World) :
    Calls Tryz.prog 148 #[.int .u64 U] w fun e w' => e = .returned (.slice (some ⟨w.heap.size, 0, none⟩) 8 8) ∧ BytAt w' (.slice (some ⟨w.heap.size, 0, none⟩) 8 8) 8 U ∧ Below w.heap.size w w' := by
  have hmk : ∀ W : World, (Instr.makeSlice 28 (.int .i64 8) (.int .i64 8)).run Tryz.prog W = .ok (.slice (some ⟨W.heap.size, 0, none⟩) 8 8) (W.alloc (.cells (madeCells #[.int .u8 0] 8) 5)) := run_make_bytes 8 (by omega)
  have hrow := Row.made w 5 8 (.int .u8 0)
  obtain ⟨cs, hcs⟩ : ∃ cs, cs = madeCells #[.int .u8 0] 8 := ⟨_, rfl⟩
  rw [← hcs] at hmk hrow
  clear hcs
  go_enter Tryz.func148, Tryz.ntmps148
  go_wp2_with fail
  have hb1 : Below w.heap.size w (w.alloc (.cells cs 5)) := (Below.refl _ _).alloc (Nat.le_refl _) _
  generalize w.alloc (.cells cs 5) = w1 at *
  obtain ⟨g, hgg⟩ : ∃ g, g = w.heap.size := ⟨_, rfl⟩
  rw [← hgg] at hrow ⊢
  have HG := Lib.hid hgg; clear hgg
  have HB1 := Lib.hid hb1; clear hb1
  go_loopw [0, 4] (fun u i wr => ∃ k : Nat, ∃ f, k ≤ 8 ∧ u = .int .u64 ((U / 2 ^ (8 * k) : Nat) : Int) ∧ i = .int .i64 (7 - (k : Int)) ∧ Row wr g 5 8 f ∧ Hid (∀ p, 8 - k ≤ p → p < 8 → f p = .int .u8 (dg U (7 - p))) ∧ Hid (Chg g w1 wr)) (fun _ i _ => (intOf i + 1).toNat)
  case atStart => exact ⟨0, _, by omega, by simp, by simp, hrow, fun p h1 h2 => by omega, Chg.refl _ _⟩
  case round =>
    obtain ⟨k, f, hk, rfl, rfl, hr, HF, HCH⟩ := hrel
    by_cases hk8 : k < 8
    · have hu : U / 2 ^ (8 * k) < 18446744073709551616 := Nat.lt_of_le_of_lt (Nat.div_le_self _ _) hU
      have hd : U / 2 ^ (8 * (k + 1)) = U / 2 ^ (8 * k) / 256 := by
        rw [Nat.div_div_eq_div_mul, show (256 : Nat) = 2 ^ 8 by decide, ← Nat.pow_add, show 8 * k + 8 = 8 * (k + 1) by omega]
      have hm : U / 2 ^ (8 * k) % 256 = dg U k := rfl
      obtain ⟨u, hue⟩ : ∃ u, u = U / 2 ^ (8 * k) := ⟨_, rfl⟩
      rw [← hue] at hu hd hm ⊢
      have HD := Lib.hid hd; clear hd
      have HM := Lib.hid hm; clear hm hue
      have c0 := hr.cell (i := 7 - k) (by omega)
      have f0 := hr.frozen (7 - k)
      have HR := Lib.hid hr; clear hr
      go_wp2
      go_roundw
      case rel => 
        refine ⟨k + 1, _, by omega, ?_, by go_num, HR.out.set (7 - k) _, fun p h1 h2 => ?_, HCH.out.set _ _⟩
        · rw [HD.out]; simp
        · show (if _ then _ else _) = _
          by_cases hp : p = 7 - k
          · rw [if_pos hp, hp, show 7 - (7 - k) = k by omega, ← HM.out]; simp
          · rw [if_neg hp]; exact HF.out p (by omega) h2
      case measure => simp [intOf]; omega
    · obtain rfl : k = 8 := by omega
      go_wp2
      go_ret
      refine ⟨?_, ⟨by simpa using hU, .inr ⟨by omega, g, 0, 8, (by rw [HG.out]), by omega, hr.lt, fun i hi => ?_⟩⟩, ?_⟩
      · rw [← HG.out]; rfl
      · rw [Nat.zero_add, hr.cell hi, HF.out i (by omega) hi]
      · exact Chg.below HB1.out HB1.out.size HCH.out (by rw [HG.out]; exact Nat.le_refl _)

theorem Zero_any (neg : Bool) (s : Value) (n V : Nat) (w : World) (h : MagAt w s n V) :
    Calls Tryz.prog 85 #[.agg #[.bool neg, s]] w fun e w' => e = .returned (.bool (n == 0)) ∧ w' = w.alloc (.cells #[.bool neg, s] 84) := by
  obtain ⟨a, c, rfl⟩ := h.shape
  have hd : ((n : Int) == 0) = (n == 0) := by cases n <;> rfl
  clear h
  go_enter Tryz.func85, Tryz.ntmps85
  go_wp2
  go_ret
  exact ⟨rfl, rfl⟩

theorem digit_in (g p c n V i : Nat) (w : World) (hi : i < n) (hn : n ≤ 9223372036854775807) (hc : ∀ i, i < n → w.cell? ⟨g, p + i, none⟩ = some (.int .u8 (dg V (n - 1 - i)))) :
    Calls Tryz.prog 167 #[.slice (some ⟨g, p, none⟩) n c, .int .i64 i] w fun e w' => e = .returned (.int .i64 (dg V i)) ∧ w' = w := by
  have hcc := hc (n - 1 - i) (by omega)
  rw [show n - 1 - (n - 1 - i) = i by omega] at hcc
  have hd := dg_lt V i
  have e : ((n : Int) - 1 - (i : Int)).toNat = n - 1 - i := by omega
  clear hc
  go_enter Tryz.func167, Tryz.ntmps167
  go_wp2
  go_ret
  exact ⟨rfl, rfl⟩
theorem digit_out (a : Option Addr) (c n i : Nat) (w : World) (hi : n ≤ i) :
    Calls Tryz.prog 167 #[.slice a n c, .int .i64 i] w fun e w' => e = .returned (.int .i64 0) ∧ w' = w := by
  go_enter Tryz.func167, Tryz.ntmps167
  go_wp2
  go_ret
  exact ⟨rfl, rfl⟩

theorem dg_pow (q r i : Nat) (hr : r < 8) (hi : i ≤ q) : dg (2 ^ (8 * q + r)) (q - i) = if i = 0 then 2 ^ r else 0 := by
  unfold dg
  rw [Nat.pow_div (by omega) (by omega), show 8 * q + r - 8 * (q - i) = 8 * i + r by omega]
  by_cases h : i = 0
  · subst h
    rw [if_pos rfl, Nat.mul_zero, Nat.zero_add]
    exact Nat.mod_eq_of_lt (Nat.pow_lt_pow_right (by omega) hr)
  · rw [if_neg h, show 8 * i + r = 8 + (8 * (i - 1) + r) by omega, Nat.pow_add]
    exact Nat.mul_mod_right _ _

theorem Power_any (k : Nat) (hk : k ≤ 1099511627776) (w : World) :
    Calls Tryz.prog 158 #[.int .i64 k] w fun e w' => ∃ s m, e = .returned (.agg #[.bool false, s]) ∧ m ≤ k / 8 + 1 ∧ NewMag w w' s m (2 ^ k) := by
  obtain ⟨q, hq⟩ : ∃ q, q = k / 8 := ⟨_, rfl⟩
  obtain ⟨r, hr⟩ : ∃ r, r = k % 8 := ⟨_, rfl⟩
  have hk2 : k = 8 * q + r := by omega
  have hmk := run_make_bytes (q + 1) (by omega)
  have hq1 : ((q + 1 : Nat) : Int) = (k : Int) / 8 + 1 := by omega
  rw [hq1] at hmk
  have hr1 : (k : Int) % 8 = (r : Int) := by omega
  have hr8 : r < 8 := by omega
  rw [← hq]
  have HK := Lib.hid hk2
  clear hq hq1 hr hk2
  have hrow := Row.made w 5 (q + 1) (.int .u8 0)
  obtain ⟨cs, hcs⟩ : ∃ cs, cs = madeCells #[.int .u8 0] (q + 1) := ⟨_, rfl⟩
  have hc0 : cs[0]? = some (.int .u8 0) := by rw [hcs]; simp [madeCells]
  have hci : ∀ i, i < q + 1 → cs[i]? = some (.int .u8 0) := fun i hi => by rw [hcs]; simp [madeCells, hi, Nat.mod_one]
  have hcz : cs.size = q + 1 := by rw [hcs]; exact size_madeCells _ _
  rw [← hcs] at hmk
  clear hcs hrow
  have hb1 : ∀ u : Int, Below w.heap.size w ((w.alloc (.cells #[.bool false, .slice none 0 0] 84)).alloc (.cells (cs.setIfInBounds 0 (.int .u8 u)) 5)) := fun u => ((Below.refl _ _).alloc (Nat.le_refl _) _).alloc (by simp) _
  have hbyt : BytAt ((w.alloc (.cells #[.bool false, .slice none 0 0] 84)).alloc (.cells (cs.setIfInBounds 0 (.int .u8 (2 ^ r % 256))) 5)) (.slice (some ⟨w.heap.size + 1, 0, none⟩) (q + 1) (q + 1)) (q + 1) (2 ^ k) := by
    rw [HK.out]
    refine ⟨Nat.pow_lt_pow_right (by omega) (by omega), .inr ⟨by omega, w.heap.size + 1, 0, q + 1, rfl, Nat.le_refl _, by simp, fun i hi => ?_⟩⟩
    rw [Nat.zero_add, (cell_of_row _ _ i _ _ (0, 0) (heap2_1 w _ _)), show q + 1 - 1 - i = q - i by omega, dg_pow q r i hr8 (by omega)]
    by_cases h : i = 0
    · subst h
      have h2 : 2 ^ r < 256 := Nat.pow_lt_pow_right (a := 2) (by omega) hr8
      have h3 : (2 : Int) ^ r % 256 = ((2 ^ r : Nat) : Int) := by
        obtain ⟨x, hx⟩ : ∃ x, x = 2 ^ r := ⟨_, rfl⟩
        have : (2 : Int) ^ r = (x : Int) := by rw [hx]; simp
        rw [← hx] at h2
        rw [this, ← hx]; omega
      rw [h3]
      simp [hcz]
    · rw [if_neg h, Array.getElem?_setIfInBounds, if_neg (by omega), hci i hi]
      rfl
  have HO := Lib.hid (Of_any false _ _ _ _ hbyt (by have := HK.out; omega))
  have HB := Lib.hid (hb1 (2 ^ r % 256))
  have HQ := Lib.hid (heap2_0 w (.cells #[.bool false, .slice none 0 0] 84) (.cells (cs.setIfInBounds 0 (.int .u8 (2 ^ r % 256))) 5))
  clear hbyt hb1 hci hcz HK
  go_enter Tryz.func158, Tryz.ntmps158
  go_wp2_with fail
  refine HO.out.mono ?_
  rintro e w2 ⟨s, m, rfl, hm, hn⟩
  obtain ⟨a, c, rfl⟩ := hn.1.shape
  have hR := (hn.2.2.block w.heap.size (by simp; omega)).trans HQ.out
  have hne : ∀ b k c', Value.slice a m c = .slice (some b) k c' → 0 < m → b.block ≠ w.heap.size := fun b k c' e h0 => by have := hn.2.1 b k c' e h0; simp at this; omega
  have HN := Lib.hid (hn.from HB.out)
  have HNE := Lib.hid hne
  have HR := Lib.hid hR
  have c0 := (cell_of_row w2 _ 0 _ _ (0, 0) hR).trans rfl
  have c1 := (cell_of_row w2 _ 1 _ _ (0, 0) hR).trans rfl
  have f0 : ∀ i, w2.frozen? ⟨w.heap.size, i, none⟩ = false := fun i => by simp [World.frozen?, hR]
  clear hn hR hne
  go_wp2
  have hW := set1 (i := 1) (x := .slice a m c) (set1 (i := 0) (x := .bool false) HR.out)
  have e0 := (cell_of_row _ _ 0 _ _ (0, 0) hW).trans rfl
  have e1 := (cell_of_row _ _ 1 _ _ (0, 0) hW).trans rfl
  refine bodyPost_ret (v := .agg #[.bool false, .slice a m c]) (by simp [results, Tryz.results158, go_sem, e0, e1]) rfl ⟨_, m, rfl, hm, (HN.out.put (Nat.le_refl _) HNE.out _).put (Nat.le_refl _) HNE.out _⟩

end Go.Proofs.YtpcleebnfgnhdaaGreatDoor

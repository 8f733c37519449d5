import Derived.WalkKit
import Derived.WalkSpells
import Derived.WalkLawsBesides
import Derived.Laws.CopyOwn
import Derived.Lib.Hide
import Derived.LaidEqlPtr
import Derived.Lib.SliceRun
import Derived.Test.YtpcleebnfgnhdaaGreatDoorProg
import Derived.Deep.QuietTactic
import Derived.BigQuiet
import Derived.KernelRfl
/- Plain arithmetic: the words and the bytes of a natural number, and how shifting, cutting and normalising turn them. No program in sight. -/
namespace Go.Proofs.YtpcleebnfgnhdaaGreatDoor.Num

/-- word i (of 64 bits) of a number -/
def wd (V i : Nat) : Nat := V / 2 ^ (64 * i) % 2 ^ 64
/-- byte i of a number -/
def dg (V i : Nat) : Nat := V / 2 ^ (8 * i) % 2 ^ 8

theorem wd_lt (V i : Nat) : wd V i < 18446744073709551616 := Nat.mod_lt _ (by decide)
theorem dg_lt (V i : Nat) : dg V i < 256 := Nat.mod_lt _ (by decide)

theorem wd_bit (V i j : Nat) : (wd V i).testBit j = (decide (j < 64) && V.testBit (64 * i + j)) := by
  unfold wd; rw [Nat.testBit_mod_two_pow, Nat.testBit_div_two_pow, Nat.add_comm]
theorem dg_bit (V i j : Nat) : (dg V i).testBit j = (decide (j < 8) && V.testBit (8 * i + j)) := by
  unfold dg; rw [Nat.testBit_mod_two_pow, Nat.testBit_div_two_pow, Nat.add_comm]

/-- byte j of word k -/
theorem dg_wd (V k j : Nat) (hj : j < 8) : wd V k / 2 ^ (8 * j) % 256 = dg V (8 * k + j) := by
  apply Nat.eq_of_testBit_eq; intro i
  rw [show (256 : Nat) = 2 ^ 8 from rfl, Nat.testBit_mod_two_pow, Nat.testBit_div_two_pow, wd_bit, dg_bit]
  by_cases h : i < 8
  · simp only [h, decide_true, Bool.true_and]
    rw [show decide (i + 8 * j < 64) = true from by simp; omega, Bool.true_and]
    congr 1; omega
  · simp [h]

theorem split8 (W : Nat) (h : W < 18446744073709551616) : W = W % 256 + 256 * (W / 256 % 256) + 65536 * (W / 65536 % 256) + 16777216 * (W / 16777216 % 256) + 4294967296 * (W / 4294967296 % 256) + 1099511627776 * (W / 1099511627776 % 256) + 281474976710656 * (W / 281474976710656 % 256) + 72057594037927936 * (W / 72057594037927936 % 256) := by
  omega
/-- eight bytes are a word -/
theorem wd_of_dg (V k : Nat) : wd V k = dg V (8 * k) + 256 * dg V (8 * k + 1) + 65536 * dg V (8 * k + 2) + 16777216 * dg V (8 * k + 3) + 4294967296 * dg V (8 * k + 4) + 1099511627776 * dg V (8 * k + 5) + 281474976710656 * dg V (8 * k + 6) + 72057594037927936 * dg V (8 * k + 7) := by
  have h0 := dg_wd V k 0 (by omega)
  have h1 := dg_wd V k 1 (by omega)
  have h2 := dg_wd V k 2 (by omega)
  have h3 := dg_wd V k 3 (by omega)
  have h4 := dg_wd V k 4 (by omega)
  have h5 := dg_wd V k 5 (by omega)
  have h6 := dg_wd V k 6 (by omega)
  have h7 := dg_wd V k 7 (by omega)
  simp only [Nat.add_zero, Nat.mul_zero, Nat.reduceMul, Nat.reducePow, Nat.pow_zero, Nat.div_one] at h0 h1 h2 h3 h4 h5 h6 h7
  rw [← h0, ← h1, ← h2, ← h3, ← h4, ← h5, ← h6, ← h7]
  exact split8 _ (wd_lt V k)

theorem lt_of_wd_zero {V n : Nat} (hV : V < 2 ^ (64 * (n + 1))) (h : wd V n = 0) : V < 2 ^ (64 * n) := by
  unfold wd at h
  have : V / 2 ^ (64 * n) < 2 ^ 64 := by
    rw [Nat.div_lt_iff_lt_mul (Nat.two_pow_pos _), ← Nat.pow_add, show 64 + 64 * n = 64 * (n + 1) from by omega]; exact hV
  rw [Nat.mod_eq_of_lt this] at h
  exact (Nat.div_eq_zero_iff_lt (Nat.two_pow_pos _)).1 h
theorem le_of_wd_ne {V n : Nat} (h : wd V n ≠ 0) : 2 ^ (64 * n) ≤ V := by
  rcases Nat.lt_or_ge V (2 ^ (64 * n)) with hlt | hge
  · exact absurd (by unfold wd; rw [Nat.div_eq_of_lt hlt]) h
  · exact hge
theorem lt_of_dg_zero {V n : Nat} (hV : V < 2 ^ (8 * (n + 1))) (h : dg V n = 0) : V < 2 ^ (8 * n) := by
  unfold dg at h
  have : V / 2 ^ (8 * n) < 2 ^ 8 := by
    rw [Nat.div_lt_iff_lt_mul (Nat.two_pow_pos _), ← Nat.pow_add, show 8 + 8 * n = 8 * (n + 1) from by omega]; exact hV
  rw [Nat.mod_eq_of_lt this] at h
  exact (Nat.div_eq_zero_iff_lt (Nat.two_pow_pos _)).1 h
theorem le_of_dg_ne {V n : Nat} (h : dg V n ≠ 0) : 2 ^ (8 * n) ≤ V := by
  rcases Nat.lt_or_ge V (2 ^ (8 * n)) with hlt | hge
  · exact absurd (by unfold dg; rw [Nat.div_eq_of_lt hlt]) h
  · exact hge

/-- n words are just enough for V -/
def Nw (n V : Nat) : Prop := V < 2 ^ (64 * n) ∧ (0 < n → 2 ^ (64 * (n - 1)) ≤ V)
/-- n bytes are just enough for V -/
def Nb (n V : Nat) : Prop := V < 2 ^ (8 * n) ∧ (0 < n → 2 ^ (8 * (n - 1)) ≤ V)

theorem Nw.uniq {n m V : Nat} (h : Nw n V) (k : Nw m V) : n = m := by
  rcases Nat.lt_trichotomy n m with hl | he | hl
  · have := k.2 (by omega)
    have := Nat.pow_le_pow_right (n := 2) (by omega) (show 64 * n ≤ 64 * (m - 1) by omega)
    have := h.1; omega
  · exact he
  · have := h.2 (by omega)
    have := Nat.pow_le_pow_right (n := 2) (by omega) (show 64 * m ≤ 64 * (n - 1) by omega)
    have := k.1; omega
theorem Nb.uniq {n m V : Nat} (h : Nb n V) (k : Nb m V) : n = m := by
  rcases Nat.lt_trichotomy n m with hl | he | hl
  · have := k.2 (by omega)
    have := Nat.pow_le_pow_right (n := 2) (by omega) (show 8 * n ≤ 8 * (m - 1) by omega)
    have := h.1; omega
  · exact he
  · have := h.2 (by omega)
    have := Nat.pow_le_pow_right (n := 2) (by omega) (show 8 * m ≤ 8 * (n - 1) by omega)
    have := k.1; omega
theorem Nw.zero_iff {n V : Nat} (h : Nw n V) : n = 0 ↔ V = 0 := by
  constructor
  · rintro rfl; have := h.1; simp at this; omega
  · rintro rfl
    rcases Nat.eq_zero_or_pos n with h0 | h0
    · exact h0
    · have := h.2 h0; have := Nat.two_pow_pos (64 * (n - 1)); omega
theorem Nb.zero_iff {n V : Nat} (h : Nb n V) : n = 0 ↔ V = 0 := by
  constructor
  · rintro rfl; have := h.1; simp at this; omega
  · rintro rfl
    rcases Nat.eq_zero_or_pos n with h0 | h0
    · exact h0
    · have := h.2 h0; have := Nat.two_pow_pos (8 * (n - 1)); omega

/-- digits of 8 bits, the lowest first -/
def leB : List Nat → Nat
  | [] => 0
  | d :: l => d + 256 * leB l
/-- digits of 8 bits, the highest first -/
def be (l : List Nat) : Nat := leB l.reverse
theorem leB_dg (l : List Nat) (h : ∀ x ∈ l, x < 256) : ∀ i, dg (leB l) i = l.getD i 0 := by
  induction l with
  | nil => intro i; simp [leB, dg]
  | cons d l ih =>
    intro i
    have hd : d < 256 := h d (by simp)
    cases i with
    | zero => simp only [leB, dg, Nat.mul_zero, Nat.pow_zero, Nat.div_one, List.getD_cons_zero]; omega
    | succ i =>
      rw [List.getD_cons_succ, ← ih (fun x hx => h x (by simp [hx])) i]
      unfold dg
      rw [show 8 * (i + 1) = 8 + 8 * i from by omega, Nat.pow_add, ← Nat.div_div_eq_div_mul]
      simp only [leB]
      rw [show (d + 256 * leB l) / 2 ^ 8 = leB l from by omega]
theorem leB_lt (l : List Nat) (h : ∀ x ∈ l, x < 256) : leB l < 2 ^ (8 * l.length) := by
  induction l with
  | nil => simp [leB]
  | cons d l ih =>
    have hd : d < 256 := h d (by simp)
    have := ih (fun x hx => h x (by simp [hx]))
    simp only [leB, List.length_cons]
    rw [show 8 * (l.length + 1) = 8 + 8 * l.length from by omega, Nat.pow_add]
    omega
theorem be_lt (l : List Nat) (h : ∀ x ∈ l, x < 256) : be l < 2 ^ (8 * l.length) := by
  have := leB_lt l.reverse (fun x hx => h x (by simpa using hx))
  simpa [be] using this
theorem be_dg (l : List Nat) (h : ∀ x ∈ l, x < 256) (i : Nat) (hi : i < l.length) : dg (be l) (l.length - 1 - i) = l.getD i 0 := by
  unfold be
  rw [leB_dg l.reverse (fun x hx => h x (by simpa using hx))]
  rw [List.getD_eq_getElem?_getD, List.getD_eq_getElem?_getD, List.getElem?_reverse (by omega)]
  congr 2; omega

/-- a number of at most n words, shifted -/
theorem wd_high {V n i : Nat} (hV : V < 2 ^ (64 * n)) (hi : n ≤ i) : wd V i = 0 := by
  unfold wd; rw [Nat.div_eq_of_lt (Nat.lt_of_lt_of_le hV (Nat.pow_le_pow_right (by omega) (by omega)))]
theorem dg_high {V n i : Nat} (hV : V < 2 ^ (8 * n)) (hi : n ≤ i) : dg V i = 0 := by
  unfold dg; rw [Nat.div_eq_of_lt (Nat.lt_of_lt_of_le hV (Nat.pow_le_pow_right (by omega) (by omega)))]
theorem wd_shl_low (V k s i : Nat) (hi : i < k) : wd (V * 2 ^ (64 * k + s)) i = 0 := by
  apply Nat.eq_of_testBit_eq; intro j
  rw [wd_bit, Nat.testBit_mul_two_pow]
  by_cases h : j < 64
  · simp only [h, decide_true, Bool.true_and, Nat.zero_testBit]
    rw [show decide (64 * i + j ≥ 64 * k + s) = false from by simp; omega, Bool.false_and]
  · simp [h]
theorem wd_shl_words (V k i : Nat) : wd (V * 2 ^ (64 * k)) (k + i) = wd V i := by
  apply Nat.eq_of_testBit_eq; intro j
  rw [wd_bit, wd_bit, Nat.testBit_mul_two_pow]
  rw [show decide (64 * (k + i) + j ≥ 64 * k) = true from by simp; omega, Bool.true_and]
  congr 2; omega
theorem wd_shl_first (V k s : Nat) (_hs : s < 64) : wd (V * 2 ^ (64 * k + s)) k = wd V 0 * 2 ^ s % 2 ^ 64 := by
  apply Nat.eq_of_testBit_eq; intro j
  rw [wd_bit, Nat.testBit_mod_two_pow, Nat.testBit_mul_two_pow, Nat.testBit_mul_two_pow, wd_bit]
  by_cases h : j < 64
  · simp only [h, decide_true, Bool.true_and]
    by_cases h2 : s ≤ j
    · rw [show decide (64 * k + j ≥ 64 * k + s) = true from by simp; omega, show decide (j ≥ s) = true from by simp; omega]
      rw [show decide (j - s < 64) = true from by simp; omega]
      simp only [Bool.true_and]; congr 1; omega
    · rw [show decide (64 * k + j ≥ 64 * k + s) = false from by simp; omega, show decide (j ≥ s) = false from by simp; omega]
      simp
  · simp [h]
theorem wd_shl_next (V k s i : Nat) (hs0 : 0 < s) (hs : s < 64) : wd (V * 2 ^ (64 * k + s)) (k + (i + 1)) = wd V (i + 1) * 2 ^ s % 2 ^ 64 ||| wd V i / 2 ^ (64 - s) := by
  apply Nat.eq_of_testBit_eq; intro j
  rw [Nat.testBit_or, wd_bit, Nat.testBit_mod_two_pow, Nat.testBit_mul_two_pow, Nat.testBit_mul_two_pow, Nat.testBit_div_two_pow, wd_bit, wd_bit]
  rw [show decide (64 * (k + (i + 1)) + j ≥ 64 * k + s) = true from by simp; omega, Bool.true_and]
  by_cases h : j < 64
  · simp only [h, decide_true, Bool.true_and]
    by_cases h2 : s ≤ j
    · rw [show decide (j ≥ s) = true from by simp; omega, show decide (j - s < 64) = true from by simp; omega]
      rw [show decide (j + (64 - s) < 64) = false from by simp; omega]
      simp only [Bool.true_and, Bool.false_and, Bool.or_false]; congr 1; omega
    · rw [show decide (j ≥ s) = false from by simp; omega, show decide (j + (64 - s) < 64) = true from by simp; omega]
      simp only [Bool.true_and, Bool.false_and, Bool.false_or]; congr 1; omega
  · rw [show decide (j + (64 - s) < 64) = false from by simp; omega]
    simp [h]
theorem shl_lt {V m k s : Nat} (hV : V < 2 ^ (64 * m)) (hs : s < 64) : V * 2 ^ (64 * k + s) < 2 ^ (64 * (m + k + 1)) := by
  have h1 := Nat.mul_lt_mul_of_pos_right hV (Nat.two_pow_pos (64 * k + s))
  rw [← Nat.pow_add] at h1
  exact Nat.lt_of_lt_of_le h1 (Nat.pow_le_pow_right (by omega) (by omega))

/-- the lowest t bytes of word k -/
def pd (V k t : Nat) : Nat := V / 2 ^ (64 * k) % 2 ^ (8 * t)
theorem pd_zero (V k : Nat) : pd V k 0 = 0 := by simp [pd, Nat.mod_one]
theorem pd_lt (V k t : Nat) : pd V k t < 2 ^ (8 * t) := Nat.mod_lt _ (Nat.two_pow_pos _)
theorem pd_succ (V k t : Nat) : pd V k (t + 1) = pd V k t ||| dg V (8 * k + t) * 2 ^ (8 * t) := by
  apply Nat.eq_of_testBit_eq; intro j
  unfold pd
  rw [Nat.testBit_or, Nat.testBit_mod_two_pow, Nat.testBit_mod_two_pow, Nat.testBit_mul_two_pow, dg_bit, Nat.testBit_div_two_pow]
  by_cases h : j < 8 * t
  · rw [show decide (j < 8 * (t + 1)) = true from by simp; omega, show decide (j < 8 * t) = true from by simp; omega, show decide (j ≥ 8 * t) = false from by simp; omega]
    simp
  · rw [show decide (j < 8 * t) = false from by simp; omega, show decide (j ≥ 8 * t) = true from by simp; omega]
    by_cases h2 : j < 8 * (t + 1)
    · rw [show decide (j < 8 * (t + 1)) = true from by simp; omega, show decide (j - 8 * t < 8) = true from by simp; omega]
      simp only [Bool.true_and, Bool.false_and, Bool.false_or]; congr 1; omega
    · rw [show decide (j < 8 * (t + 1)) = false from by simp; omega, show decide (j - 8 * t < 8) = false from by simp; omega]
      simp
theorem pd_full {V k t n : Nat} (hV : V < 2 ^ (8 * n)) (ht : n = 8 * k + t) (h8 : t ≤ 8) : pd V k t = wd V k := by
  unfold pd wd
  have h : V / 2 ^ (64 * k) < 2 ^ (8 * t) := by
    rw [Nat.div_lt_iff_lt_mul (Nat.two_pow_pos _), ← Nat.pow_add, show 8 * t + 64 * k = 8 * n from by omega]; exact hV
  rw [Nat.mod_eq_of_lt h, Nat.mod_eq_of_lt (Nat.lt_of_lt_of_le h (Nat.pow_le_pow_right (by omega) (by omega)))]

/-- the top word's bits are the number's -/
theorem top_bounds {V n b : Nat} (hV : V < 2 ^ (64 * n)) (h0 : 0 < n) (h1 : 2 ^ (b - 1) ≤ wd V (n - 1)) (h2 : wd V (n - 1) < 2 ^ b) (hb : 1 ≤ b) :
    2 ^ (64 * (n - 1) + b - 1) ≤ V ∧ V < 2 ^ (64 * (n - 1) + b) := by
  have hlt : V / 2 ^ (64 * (n - 1)) < 2 ^ 64 := by
    rw [Nat.div_lt_iff_lt_mul (Nat.two_pow_pos _), ← Nat.pow_add, show 64 + 64 * (n - 1) = 64 * n from by omega]; exact hV
  have he : wd V (n - 1) = V / 2 ^ (64 * (n - 1)) := Nat.mod_eq_of_lt hlt
  rw [he] at h1 h2
  constructor
  · rw [Nat.le_div_iff_mul_le (Nat.two_pow_pos _), ← Nat.pow_add] at h1
    rw [show 64 * (n - 1) + b - 1 = b - 1 + 64 * (n - 1) by omega]; exact h1
  · rw [Nat.div_lt_iff_lt_mul (Nat.two_pow_pos _), ← Nat.pow_add] at h2
    rw [show 64 * (n - 1) + b = b + 64 * (n - 1) by omega]; exact h2
theorem bits_uniq {x a b : Nat} (ha : 2 ^ (a - 1) ≤ x) (ha2 : x < 2 ^ a) (hb : 2 ^ (b - 1) ≤ x) (hb2 : x < 2 ^ b) (h1 : 1 ≤ a) (h2 : 1 ≤ b) : a = b := by
  rcases Nat.lt_trichotomy a b with h | h | h
  · have := Nat.pow_le_pow_right (n := 2) (by omega) (show a ≤ b - 1 by omega); omega
  · exact h
  · have := Nat.pow_le_pow_right (n := 2) (by omega) (show b ≤ a - 1 by omega); omega

/-- three-way order -/
def sgn3 (a b : Nat) : Int := if a < b then -1 else if b < a then 1 else 0
theorem div_split (V i : Nat) : V / 2 ^ (64 * i) = wd V i + 2 ^ 64 * (V / 2 ^ (64 * (i + 1))) := by
  unfold wd
  rw [show 64 * (i + 1) = 64 * i + 64 by omega, Nat.pow_add, ← Nat.div_div_eq_div_mul]
  have := Nat.mod_add_div (V / 2 ^ (64 * i)) (2 ^ 64)
  omega
theorem lt_of_div {a b d : Nat} (h : a / d < b / d) : a < b := by
  rcases Nat.lt_or_ge a b with h1 | h1
  · exact h1
  · have := Nat.div_le_div_right (c := d) h1; omega
theorem cmp_lt {V U i : Nat} (h : V / 2 ^ (64 * (i + 1)) = U / 2 ^ (64 * (i + 1))) (hw : wd V i < wd U i) : V < U := by
  refine lt_of_div (d := 2 ^ (64 * i)) ?_
  rw [div_split V i, div_split U i, h]; omega
theorem cmp_eq {V U i : Nat} (h : V / 2 ^ (64 * (i + 1)) = U / 2 ^ (64 * (i + 1))) (hw : wd V i = wd U i) : V / 2 ^ (64 * i) = U / 2 ^ (64 * i) := by
  rw [div_split V i, div_split U i, h, hw]

end Go.Proofs.YtpcleebnfgnhdaaGreatDoor.Num

/- What memory holds, told by functions: a block as a row of cells ('Row'), what a call that writes one block leaves ('Chg'), the words of a number ('NatAt'), the bytes of a number ('ByAt'); the builtin copy over rows. No program in sight. -/
set_option linter.unusedVariables false
set_option linter.unusedSimpArgs false
namespace Go.Proofs.YtpcleebnfgnhdaaGreatDoor
open Go.RowKit
open Num

theorem ret_int {k : IntKind} {a b : Int} (h : a = b) : Ending.returned (.int k a) = .returned (.int k b) := by rw [h]
theorem ret_bool {a b : Bool} (h : a = b) : Ending.returned (.bool a) = .returned (.bool b) := by rw [h]
theorem bcell {W w1 : World} (hb : Below W.heap.size W w1) : (∀ b o, b < W.heap.size → w1.cell? ⟨b, o, none⟩ = W.cell? ⟨b, o, none⟩) ∧ (∀ b o, b < W.heap.size → w1.frozen? ⟨b, o, none⟩ = W.frozen? ⟨b, o, none⟩) :=
  ⟨fun b o h => hb.cell (p := ⟨b, o, none⟩) h, fun b o h => hb.frozen (p := ⟨b, o, none⟩) h⟩

theorem add_at (g o j : Nat) : (⟨g, o, none⟩ : Addr).add j = ⟨g, o + j, none⟩ := by unfold Addr.add; split <;> simp_all

theorem below_undrew {B : Nat} {w w' : World} (h : Below B w.drew w') : Below B w w' := ⟨h.os, h.tape, h.output, h.size, h.block⟩
theorem below_undrewN {B n : Nat} {w w' : World} (h : Below B (w.drewN n) w') : Below B w w' := ⟨h.os, h.tape, h.output, h.size, h.block⟩

/-- block g is a row of n cells of type T, cell i holds f i; none is frozen -/
structure Row (w : World) (g T n : Nat) (f : Nat → Value) : Prop where
  ex : ∃ cs : Array Value, w.heap[g]? = some (.cells cs T (0, 0)) ∧ cs.size = n ∧ ∀ i, i < n → cs[i]? = some (f i)

/-- only block g of the old ones may have turned -/
structure Chg (g : Nat) (w w' : World) : Prop where
  os : w'.os = w.os
  tape : w'.tape = w.tape
  output : w'.output = w.output
  size : w.heap.size ≤ w'.heap.size
  block : ∀ k, k < w.heap.size → k ≠ g → w'.heap[k]? = w.heap[k]?

section
variable {w w' : World} {g T n : Nat} {f : Nat → Value}
theorem Row.cell (h : Row w g T n f) {i : Nat} (hi : i < n) : w.cell? ⟨g, i, none⟩ = some (f i) := by
  obtain ⟨cs, h1, h2, h3⟩ := h.ex
  rw [cell_of_row w g i cs T (0, 0) h1]; exact h3 i hi
theorem Row.frozen (h : Row w g T n f) (i : Nat) : w.frozen? ⟨g, i, none⟩ = false := by
  obtain ⟨cs, h1, h2, h3⟩ := h.ex
  simp [World.frozen?, h1]
theorem Row.lt (h : Row w g T n f) : g < w.heap.size := by
  obtain ⟨cs, h1, h2, h3⟩ := h.ex
  exact (Array.getElem?_eq_some_iff.1 h1).1
theorem Row.congr (h : Row w g T n f) {f' : Nat → Value} (hf : ∀ i, i < n → f i = f' i) : Row w g T n f' := by
  obtain ⟨cs, h1, h2, h3⟩ := h.ex
  exact ⟨cs, h1, h2, fun i hi => by rw [h3 i hi, hf i hi]⟩
theorem Row.keep (h : Row w g T n f) (hb : w'.heap[g]? = w.heap[g]?) : Row w' g T n f := by
  obtain ⟨cs, h1, h2, h3⟩ := h.ex
  exact ⟨cs, by rw [hb]; exact h1, h2, h3⟩
theorem Row.set (h : Row w g T n f) (i : Nat) (v : Value) : Row (w.setCell ⟨g, i, none⟩ v) g T n (fun j => if j = i then v else f j) := by
  obtain ⟨cs, h1, h2, h3⟩ := h.ex
  refine ⟨cs.setIfInBounds i v, ?_, by simpa using h2, fun j hj => ?_⟩
  · simp only [World.setCell, Array.getElem?_modify, if_true, h1, Option.map_some]
    rfl
  · rw [Array.getElem?_setIfInBounds]
    by_cases e : i = j
    · subst e; simp [h2, hj]
    · rw [if_neg e, h3 j hj, if_neg (fun q => e q.symm)]
theorem Row.far (h : Row w g T n f) {p : Addr} (hp : g ≠ p.block) (v : Value) : Row (w.setCell p v) g T n f :=
  h.keep (Below.heap_setCell _ _ _ _ hp)
theorem Row.alloc (h : Row w g T n f) (o : Obj) : Row (w.alloc o) g T n f := h.keep (Below.heap_alloc _ _ _ h.lt)
theorem Row.drew (h : Row w g T n f) : Row w.drew g T n f := h.keep rfl
theorem Row.drewN (h : Row w g T n f) (k : Nat) : Row (w.drewN k) g T n f := h.keep rfl
theorem Row.below (h : Row w g T n f) {B : Nat} (hb : Below B w w') (hg : g < B) : Row w' g T n f := h.keep (hb.block g hg)
theorem Row.chg (h : Row w g T n f) {b : Nat} (hb : Chg b w w') (hg : g ≠ b) : Row w' g T n f := h.keep (hb.block g h.lt hg)
theorem Row.made (w : World) (T n : Nat) (z : Value) : Row (w.alloc (.cells (madeCells #[z] n) T)) w.heap.size T n (fun _ => z) := by
  refine ⟨_, heap_alloc_new w _, size_madeCells _ _, fun i hi => ?_⟩
  simp [madeCells, hi, Nat.mod_one]
theorem Row.lit (w : World) (T : Nat) (cs : Array Value) : Row (w.alloc (.cells cs T)) w.heap.size T cs.size (fun i => cs.getD i undef) := by
  refine ⟨_, heap_alloc_new w _, rfl, fun i hi => ?_⟩
  simp [Array.getD, hi]

theorem Chg.refl (g : Nat) (w : World) : Chg g w w := ⟨rfl, rfl, rfl, Nat.le_refl _, fun _ _ _ => rfl⟩
theorem Chg.trans {a b c : World} (h : Chg g a b) (k : Chg g b c) : Chg g a c :=
  ⟨k.os.trans h.os, k.tape.trans h.tape, k.output.trans h.output, Nat.le_trans h.size k.size, fun i hi hg => (k.block i (Nat.lt_of_lt_of_le hi h.size) hg).trans (h.block i hi hg)⟩
theorem Chg.of_below {a b : World} (h : Below a.heap.size a b) : Chg g a b := ⟨h.os, h.tape, h.output, h.size, fun i hi _ => h.block i hi⟩
theorem Chg.below {a b c : World} {B : Nat} (h : Below B a b) (hB : B ≤ b.heap.size) (k : Chg g b c) (hg : B ≤ g) : Below B a c :=
  h.trans ⟨k.os, k.tape, k.output, k.size, fun i hi => k.block i (Nat.lt_of_lt_of_le hi hB) (by omega)⟩
theorem Chg.set (h : Chg g w w') (o : Nat) (v : Value) : Chg g w (w'.setCell ⟨g, o, none⟩ v) :=
  h.trans ⟨rfl, rfl, rfl, by simp [World.setCell], fun k _ hk => Below.heap_setCell _ _ _ _ hk⟩
theorem Chg.alloc (h : Chg g w w') (o : Obj) : Chg g w (w'.alloc o) :=
  h.trans ⟨rfl, rfl, rfl, by simp, fun k hk _ => Below.heap_alloc _ _ _ hk⟩
theorem Chg.drewN (h : Chg g w w') (n : Nat) : Chg g w (w'.drewN n) := ⟨h.os, h.tape, h.output, h.size, h.block⟩
theorem Chg.drew (h : Chg g w w') : Chg g w w'.drew := ⟨h.os, h.tape, h.output, h.size, h.block⟩
theorem Chg.cell (h : Chg g w w') {p : Addr} (hp : p.block < w.heap.size) (hg : p.block ≠ g) : w'.cell? p = w.cell? p := World.cell?_of_block (w := w) (h.block p.block hp hg)
theorem Chg.frozen (h : Chg g w w') {p : Addr} (hp : p.block < w.heap.size) (hg : p.block ≠ g) : w'.frozen? p = w.frozen? p := World.frozen?_of_block (w := w) (h.block p.block hp hg)
end

/-- The slice s holds the number V in n words; or n is 0 and V is 0. -/
structure NatAt (w : World) (s : Value) (n V : Nat) : Prop where
  lt : V < 2 ^ (64 * n)
  le : n ≤ 2147483648
  at_ : (n = 0 ∧ ∃ a c, s = .slice a 0 c ∧ c ≤ 9223372036854775807) ∨ ∃ g o c, s = .slice (some ⟨g, o, none⟩) n c ∧ n ≤ c ∧ c ≤ 9223372036854775807 ∧ g < w.heap.size ∧ ∀ i, i < n → w.cell? ⟨g, o + i, none⟩ = some (.int .u64 (wd V i))
/-- The slice s holds n bytes, the highest first, of the number V. -/
structure ByAt (w : World) (s : Value) (n V : Nat) : Prop where
  lt : V < 2 ^ (8 * n)
  le : n ≤ 2147483648
  at_ : (n = 0 ∧ ∃ a c, s = .slice a 0 c ∧ c ≤ 9223372036854775807) ∨ ∃ g o c, s = .slice (some ⟨g, o, none⟩) n c ∧ n ≤ c ∧ c ≤ 9223372036854775807 ∧ g < w.heap.size ∧ ∀ i, i < n → w.cell? ⟨g, o + i, none⟩ = some (.int .u8 (dg V (n - 1 - i)))

theorem NatAt.below {w w' : World} {s : Value} {n V : Nat} (h : NatAt w s n V) (hb : Below w.heap.size w w') : NatAt w' s n V := by
  obtain ⟨h1, h2, h3⟩ := h
  refine ⟨h1, h2, ?_⟩
  rcases h3 with h3 | ⟨g, o, c, e, hc, hm, hg, hw⟩
  · exact .inl h3
  · exact .inr ⟨g, o, c, e, hc, hm, Nat.lt_of_lt_of_le hg hb.size, fun i hi => (hb.cell (p := ⟨g, o + i, none⟩) hg).trans (hw i hi)⟩
theorem ByAt.below {w w' : World} {s : Value} {n V : Nat} (h : ByAt w s n V) (hb : Below w.heap.size w w') : ByAt w' s n V := by
  obtain ⟨h1, h2, h3⟩ := h
  refine ⟨h1, h2, ?_⟩
  rcases h3 with h3 | ⟨g, o, c, e, hc, hm, hg, hw⟩
  · exact .inl h3
  · exact .inr ⟨g, o, c, e, hc, hm, Nat.lt_of_lt_of_le hg hb.size, fun i hi => (hb.cell (p := ⟨g, o + i, none⟩) hg).trans (hw i hi)⟩

/-- copy(d, s) onto a row: the cells that are copied are the source's then. -/
theorem wpList_copy_fn {P : Program} {w : World} {ops : Array Oper} {rest : List Oper} {o : Oper} {a : Act} {Q : Exit → Act → World → Prop} (hgd : o.guard = none) (d s : Operand) (dT sT : TypeId)
    (ho : o.op = .call { callee := .builtin .copy, args := #[d, s], argTypes := #[dT, sT] }) (elem : TypeId) (hu : P.underlying dT = some (.slice elem)) (hsz : (P.info? elem).map (·.size) = some 1)
    (g off dLen dCap sLen sCap : Nat) (sp : Option Addr) (hd : a.eval d = .slice (some ⟨g, off, none⟩) dLen dCap) (hs : a.eval s = .slice sp sLen sCap)
    (T N : Nat) (f src : Nat → Value) (hrow : Row w g T N f) (k : Nat) (hk : k = Nat.min sLen dLen)
    (hsrc : 0 < k → ∃ ad, sp = some ad ∧ ∀ j, j < k → w.cell? (ad.add j) = some (src j)) (hone : ∀ j, j < k → (src j).oneCell' = true) (hfit : off + k ≤ N)
    (h : ∀ w', Hid (Row w' g T N (fun j => if off ≤ j ∧ j < off + k then src (j - off) else f j)) → Hid (Chg g w w' ∧ w'.heap.size = w.heap.size) → wpList P ops Q rest (a.put o.dst (goInt k)) w') :
    wpList P ops Q (o :: rest) a w := by
  obtain ⟨cur, h1, h2, h3⟩ := hrow.ex
  by_cases h0 : k = 0
  · subst h0
    refine wpList_copy_nothing hgd d s dT sT ho elem hu hsz _ sp dLen dCap sLen sCap hd hs hk.symm ?_
    refine h w ?_ ⟨Chg.refl _ _, rfl⟩
    exact hrow.congr (fun i hi => by rw [if_neg (by omega)])
  · obtain ⟨ad, rfl, hsrc'⟩ := hsrc (by omega)
    have hl : ((List.range k).map src).length = Nat.min sLen dLen := by simpa using hk
    refine wpList_copy_own hgd d s dT sT ho elem hu hsz g off dLen dCap ad sLen sCap hd hs cur T h1 ((List.range k).map src) hl ?_ (by simpa [h2] using hfit) ?_ ?_
    · intro j v hj
      simp only [List.getElem?_map, Option.map_eq_some_iff] at hj
      obtain ⟨q, hq, rfl⟩ := hj
      have : j < k ∧ q = j := by
        by_cases e : j < k
        · simp [List.getElem?_range e] at hq; exact ⟨e, hq.symm⟩
        · simp [List.getElem?_eq_none (show (List.range k).length ≤ j by simp; omega)] at hq
      obtain ⟨hjk, rfl⟩ := this
      exact hsrc' _ hjk
    · intro v hv
      obtain ⟨j, hj, rfl⟩ := List.mem_map.1 hv
      exact hone j (by simpa using hj)
    · have hlen : ((List.range k).map src).length = k := by simp
      rw [hlen]
      refine h _ ?_ ?_
      · refine ⟨_, setRow_heap w g _ _ T _ h1, ?_, fun i hi => ?_⟩
        · simp; omega
        · simp only [List.getElem?_toArray]
          by_cases c1 : i < off
          · rw [List.getElem?_append_left (by simp; omega), List.getElem?_take_of_lt c1, if_neg (by omega)]
            simpa using h3 i hi
          · rw [List.getElem?_append_right (by simp; omega)]
            have ht : (List.take off cur.toList).length = off := by simp; omega
            rw [ht]
            by_cases c2 : i < off + k
            · rw [List.getElem?_append_left (by simp; omega), if_pos ⟨by omega, c2⟩]
              simp [List.getElem?_range (show i - off < k by omega)]
            · rw [List.getElem?_append_right (by simp; omega), if_neg (by omega), List.getElem?_drop]
              simp only [List.length_map, List.length_range]
              rw [show off + k + (i - off - k) = i from by omega]
              simpa using h3 i hi
      · refine ⟨⟨rfl, rfl, rfl, by simp, fun q _ hq => setRow_other w g q _ hq⟩, by simp⟩

theorem Row.setCells {g T n : Nat} (z : Value) (k : Nat) : ∀ (o : Nat) (w : World) (f : Nat → Value), Row w g T n f → Row (w.setCells g o (List.replicate k z)) g T n (fun j => if o ≤ j ∧ j < o + k then z else f j) ∧ Chg g w (w.setCells g o (List.replicate k z)) ∧ (w.setCells g o (List.replicate k z)).heap.size = w.heap.size := by
  induction k with
  | zero =>
    intro o w f h
    refine ⟨h.congr (fun i _ => by rw [if_neg (by omega)]), Chg.refl _ _, rfl⟩
  | succ k ih =>
    intro o w f h
    obtain ⟨h1, h2, h3⟩ := ih (o + 1) _ _ (h.set o z)
    simp only [List.replicate_succ, World.setCells]
    refine ⟨h1.congr (fun i _ => ?_), ((Chg.refl g w).set o z).trans h2, by rw [h3]; simp [World.setCell]⟩
    show (if o + 1 ≤ i ∧ i < o + 1 + k then z else if i = o then z else f i) = (if o ≤ i ∧ i < o + (k + 1) then z else f i)
    by_cases c : o ≤ i ∧ i < o + (k + 1)
    · rw [if_pos c]
      by_cases e : i = o
      · rw [if_neg (by omega), if_pos e]
      · rw [if_pos (by omega)]
    · rw [if_neg c, if_neg (by omega), if_neg (by omega)]

/-- clear(s), s on a row -/
theorem wpList_clear_fn {P : Program} {w : World} {ops : Array Oper} {rest : List Oper} {o : Oper} {a : Act} {Q : Exit → Act → World → Prop} (hgd : o.guard = none) (s : Operand) (sT : TypeId)
    (ho : o.op = .call { callee := .builtin .clear, args := #[s], argTypes := #[sT] }) (elem : TypeId) (hu : P.underlying sT = some (.slice elem)) (z : Value) (hv : ∀ w, (zeroValue elem).run P w = .ok z w) (hz : z.cells = #[z]) (h1 : z.oneCell' = true)
    (g off n c : Nat) (hs : a.eval s = .slice (some ⟨g, off, none⟩) n c)
    (T N : Nat) (f : Nat → Value) (hrow : Row w g T N f) (hfit : off + n ≤ N)
    (h : ∀ w', Hid (Row w' g T N (fun j => if off ≤ j ∧ j < off + n then z else f j)) → Hid (Chg g w w' ∧ w'.heap.size = w.heap.size) → wpList P ops Q rest (a.put o.dst (.tuple #[])) w') :
    wpList P ops Q (o :: rest) a w := by
  have hrun : (Builtin.clear_ #[sT] o.type #[.slice (some ⟨g, off, none⟩) n c]).run P w = .ok (.tuple #[]) (w.setCells g off (List.replicate n z)) := by
    by_cases h0 : n = 0
    · subst h0
      simp [Builtin.clear_, run_underlying hu, World.setCells]
    · exact Lib.run_clear_slice w sT elem o.type z hu hv hz h1 g off n c (by omega) (fun j hj => by rw [hrow.cell (by omega)]; rfl) (fun j hj => hrow.frozen _)
  obtain ⟨r1, r2, r3⟩ := Row.setCells z n off w f hrow
  refine wpList_plain hgd fun K hK => ?_
  unfold Oper.wp
  simp [execOp, ho, resolve, invoke, builtin, hs, hrun, Result.andThen]
  exact hK _ _ (h _ r1 ⟨r2, r3⟩)

section
variable {P : Program} (w : World)
theorem run_neq_ptr_same {tp te : TypeId} {j : TypeInfo} (a : Addr) (hp : P.underlying tp = some (.pointer te)) (hte : P.info? te = some j) :
    (binOp .neq tp (.pointer (some a)) (.pointer (some a))).run P w = .ok (.bool false) w := by
  have h : ∀ d : Nat, (Op.equalIn (d + 1) tp (.pointer (some a)) (.pointer (some a))).run P w = .ok true w := fun d => by
    simp [Op.equalIn, run_underlying hp, sizeOf, typeInfo, hte, run_sameAddr_same]
  simp only [binOp]
  simp [Op.equal, Op.maxDepth, h 9999]
theorem run_neq_ptr_other {tp te : TypeId} {j : TypeInfo} {a b : Addr} {ca cb : Array Value} {ta tb : TypeId} (hp : P.underlying tp = some (.pointer te)) (hte : P.info? te = some j) (hsz : j.size ≠ 0)
    (hne : a ≠ b) (ha : w.heap[a.block]? = some (.cells ca ta (0, 0))) (hb : w.heap[b.block]? = some (.cells cb tb (0, 0))) :
    (binOp .neq tp (.pointer (some a)) (.pointer (some b))).run P w = .ok (.bool true) w := by
  have h : ∀ d : Nat, (Op.equalIn (d + 1) tp (.pointer (some a)) (.pointer (some b))).run P w = .ok false w := fun d => by
    simp [Op.equalIn, run_underlying hp, sizeOf, typeInfo, hte, hsz, run_sameAddr_other w hne ha hb]
  simp only [binOp]
  simp [Op.equal, Op.maxDepth, h 9999]
end

end Go.Proofs.YtpcleebnfgnhdaaGreatDoor

/- Walks: the natural numbers of the package (nat): what make, norm, set, setWord, setUint64, cmp, bitLen, low64 compute. -/
set_option linter.unusedVariables false
set_option linter.unusedSimpArgs false
namespace Go.Proofs.YtpcleebnfgnhdaaGreatDoor
open Go.RowKit
open Num

theorem natInfo : (Tryz.prog.info? 246).map (fun i => (i.zero, i.size, i.bytes)) = some (some (.int .u64 0), 1, 8) := by kernel_rfl
theorem natSize : (Tryz.prog.info? 246).map (·.size) = some 1 := by kernel_rfl
theorem natUnder : Tryz.prog.underlying 210 = some (.slice 246) := by kernel_rfl

theorem run_make_nat (l c : Nat) (hlc : l ≤ c) (hc : c ≤ 35184372088832) : ∀ W : World, (Instr.makeSlice 210 (.int .i64 (l : Int)) (.int .i64 (c : Int))).run Tryz.prog W =
    .ok (.slice (some ⟨W.heap.size, 0, none⟩) l c) (W.alloc (.cells (madeCells #[.int .u64 0] c) 246)) := by
  intro W
  obtain ⟨i0, hi, hzz⟩ := Option.map_eq_some_iff.1 natInfo
  simp only [Prod.mk.injEq] at hzz
  obtain ⟨hz0, hz1, hz2⟩ := hzz
  have h := run_make (P := Tryz.prog) W 210 246 i0 (.int .u64 0) natUnder hi hz0 .i64 .i64 (l : Int) (c : Int) (by omega) (by omega) (by rw [hz2]; omega) (by omega)
  simp only [Int.toNat_natCast, hz1, Nat.mul_one] at h
  exact h

/-- make where there is room -/
theorem make_le (a : Option Addr) (len cap n : Nat) (w : World) (h : n ≤ cap) :
    Calls Tryz.prog 145 #[.slice a len cap, .int .i64 n] w fun e w' => e = .returned (.slice a n cap) ∧ w = w' := by
  go_enter Tryz.func145, Tryz.ntmps145
  go_wp2
  go_ret
  exact ⟨rfl, rfl⟩
/-- make where there is none: a new block -/
theorem make_gt (a : Option Addr) (len cap n : Nat) (w : World) (h : cap < n) (hn : n ≤ 2147483648) :
    Calls Tryz.prog 145 #[.slice a len cap, .int .i64 n] w fun e w' => ∃ c, n ≤ c ∧ (c ≤ n + 4 ∧ (n = 1 → c = 1)) ∧ e = .returned (.slice (some ⟨w.heap.size, 0, none⟩) n c) ∧ w.alloc (.cells (madeCells #[.int .u64 0] c) 246) = w' := by
  by_cases h1 : n = 1
  · subst h1
    have hm : ∀ W : World, (Instr.makeSlice 210 (.int .i64 1) (.int .i64 1)).run Tryz.prog W = .ok (.slice (some ⟨W.heap.size, 0, none⟩) 1 1) (W.alloc (.cells (madeCells #[.int .u64 0] 1) 246)) := run_make_nat 1 1 (by omega) (by omega)
    go_enter Tryz.func145, Tryz.ntmps145
    go_wp2
    go_ret
    exact ⟨1, by omega, ⟨by omega, fun _ => rfl⟩, rfl, rfl⟩
  · have hm := run_make_nat n (n + 4) (by omega) (by omega)
    have e4 : ((n + 4 : Nat) : Int) = (n : Int) + 4 := by omega
    rw [e4] at hm
    go_enter Tryz.func145, Tryz.ntmps145
    go_wp2
    go_ret
    exact ⟨n + 4, by omega, ⟨by omega, fun h => absurd h h1⟩, rfl, rfl⟩

theorem natZero : ∀ w : World, (zeroValue 246).run Tryz.prog w = .ok (.int .u64 0) w := fun _ => by kernel_rfl

theorem norm_some (g o c n V : Nat) (w : World) (hV : V < 2 ^ (64 * n)) (hn : n ≤ 9223372036854775807) (hnc : n ≤ c)
    (hc : ∀ i, i < n → w.cell? ⟨g, o + i, none⟩ = some (.int .u64 (wd V i))) :
    Calls Tryz.prog 151 #[.slice (some ⟨g, o, none⟩) n c] w fun e w' => (∃ m, m ≤ n ∧ Nw m V ∧ e = .returned (.slice (some ⟨g, o, none⟩) m c)) ∧ w = w' := by
  go_enter Tryz.func151, Tryz.ntmps151
  go_wp2
  go_loop [3] (fun i => ∃ k : Nat, k ≤ n ∧ i = .int .i64 k ∧ V < 2 ^ (64 * k)) (fun i => (intOf i).toNat)
  case atStart => exact ⟨n, Nat.le_refl _, rfl, hV⟩
  case round =>
    obtain ⟨k, hk, rfl, hkV⟩ := hrel
    by_cases h0 : k = 0
    · subst h0
      go_wp2
      go_ret
      refine ⟨⟨0, by omega, ⟨hkV, fun h => absurd h (by omega)⟩, ?_⟩, rfl⟩
      simp
    · have hcell := hc (k - 1) (by omega)
      by_cases hz : wd V (k - 1) = 0
      · go_wp2
        go_round
        case rel => exact ⟨k - 1, by omega, by go_num, lt_of_wd_zero (by rw [show k - 1 + 1 = k from by omega]; exact hkV) hz⟩
        case measure => simp [intOf]; omega
      · go_wp2
        go_ret
        exact ⟨⟨k, hk, ⟨hkV, fun _ => le_of_wd_ne hz⟩, rfl⟩, rfl⟩
theorem norm_zero (a : Option Addr) (c : Nat) (w : World) :
    Calls Tryz.prog 151 #[.slice a 0 c] w fun e w' => e = .returned (.slice a 0 c) ∧ w = w' := by
  go_enter Tryz.func151, Tryz.ntmps151
  go_wp2
  refine wp_loop_rounds 1 ?_
  rw [rounds_succ]
  go_wp2
  go_ret
  exact ⟨rfl, rfl⟩

/-- copy of a whole number into a new row -/
theorem set_some (gx ox cx n V : Nat) (w : World) (h0 : 0 < n) (hn : n ≤ 2147483648) (hg : gx < w.heap.size)
    (hc : ∀ i, i < n → w.cell? ⟨gx, ox + i, none⟩ = some (.int .u64 (wd V i))) :
    Calls Tryz.prog 125 #[.slice none 0 0, .slice (some ⟨gx, ox, none⟩) n cx] w fun e w' => ∃ g c, g = w.heap.size ∧ n ≤ c ∧ c ≤ n + 4 ∧ e = .returned (.slice (some ⟨g, 0, none⟩) n c) ∧ Below w.heap.size w w' ∧
      (∃ f, Row w' g 246 c f ∧ ∀ i, i < n → f i = .int .u64 (wd V i)) := by
  go_enter Tryz.func125, Tryz.ntmps125
  go_wp2_with fail
  refine (make_gt _ _ _ n _ h0 hn).mono ?_
  rintro e w' ⟨c, hc1, ⟨hc2, _⟩, rfl, rfl⟩
  have hrow := Row.made w 246 c (.int .u64 0)
  have hcx2 : ∀ i, i < n → (w.alloc (.cells (madeCells #[.int .u64 0] c) 246)).cell? ⟨gx, ox + i, none⟩ = some (.int .u64 (wd V i)) := fun i hi => (World.cell?_of_block (w := w) (Below.heap_alloc w _ gx hg)).trans (hc i hi)
  have hb1 : Below w.heap.size w (w.alloc (.cells (madeCells #[.int .u64 0] c) 246)) := (Below.refl _ _).alloc (Nat.le_refl _) _
  obtain ⟨g, hgg⟩ : ∃ g, g = w.heap.size := ⟨_, rfl⟩
  rw [← hgg] at hrow ⊢
  have HG := Lib.hid hgg; clear hgg
  generalize w.alloc (.cells (madeCells #[.int .u64 0] c) 246) = w1 at *
  have hk := Lib.hid (show n = Nat.min n n by simp)
  go_wp2_with ((with_reducible show wpList _ _ _ _ _ _); refine wpList_copy_fn rfl (.tmp 9) (.tmp 10) 210 210 rfl 246 natUnder natSize g 0 n c n cx (some ⟨gx, ox, none⟩) rfl rfl 246 c _ (fun i => .int .u64 (wd V i)) hrow n hk.out (fun _ => ⟨_, rfl, fun j hj => by rw [add_at]; exact hcx2 j hj⟩) (fun _ _ => rfl) (by omega) ?_; intro w2 hr2 hch)
  go_ret
  refine ⟨g, c, HG.out, hc1, hc2, rfl, ?_, _, hr2.out, fun i hi => ?_⟩
  · exact Chg.below hb1 hb1.size hch.out.1 (by rw [HG.out]; exact Nat.le_refl _)
  · show (if _ then _ else _) = _
    rw [if_pos ⟨by omega, by omega⟩, Nat.sub_zero]
theorem set_zero (b : Option Addr) (cx : Nat) (w : World) :
    Calls Tryz.prog 125 #[.slice none 0 0, .slice b 0 cx] w fun e w' => e = .returned (.slice none 0 0) ∧ w = w' := by
  go_enter Tryz.func125, Tryz.ntmps125
  go_wp2_with (first | (go_at_call 145; refine (make_le _ _ _ 0 _ (by omega)).mono ?_; rintro e w' ⟨rfl, rfl⟩) | ((with_reducible show wpList _ _ _ _ _ _); refine wpList_copy_nothing rfl (.tmp 9) (.tmp 10) 210 210 rfl 246 natUnder natSize none b 0 0 0 cx rfl rfl (by simp) ?_))
  go_ret
  exact ⟨rfl, rfl⟩

end Go.Proofs.YtpcleebnfgnhdaaGreatDoor

/- Plain arithmetic: the words and the bytes of a natural number, and how shifting, cutting and normalising turn them. No program in sight. -/
namespace Go.Proofs.YtgohhebffcldeaaGreatDoor.Num

/-- word i (of 64 bits) of a number -/
def wd (V i : Nat) : Nat := V / 2 ^ (64 * i) % 2 ^ 64
/-- byte i of a number -/
def dg (V i : Nat) : Nat := V / 2 ^ (8 * i) % 2 ^ 8

theorem wd_lt (V i : Nat) : wd V i < 18446744073709551616 := Nat.mod_lt _ (by decide)
theorem dg_lt (V i : Nat) : dg V i < 256 := Nat.mod_lt _ (by decide)

theorem wd_bit (V i j : Nat) : (wd V i).testBit j = (decide (j < 64) && V.testBit (64 * i + j)) := by
  unfold wd; rw [Nat.testBit_mod_two_pow, Nat.testBit_div_two_pow, Nat.add_comm]
theorem dg_bit (V i j : Nat) : (dg V i).testBit j = (decide (j < 8) && V.testBit (8 * i + j)) := by
  unfold dg; rw [Nat.testBit_mod_two_pow, Nat.testBit_div_two_pow, Nat.add_comm]

/-- byte j of word k -/
theorem dg_wd (V k j : Nat) (hj : j < 8) : wd V k / 2 ^ (8 * j) % 256 = dg V (8 * k + j) := by
  apply Nat.eq_of_testBit_eq; intro i
  rw [show (256 : Nat) = 2 ^ 8 from rfl, Nat.testBit_mod_two_pow, Nat.testBit_div_two_pow, wd_bit, dg_bit]
  by_cases h : i < 8
  · simp only [h, decide_true, Bool.true_and]
    rw [show decide (i + 8 * j < 64) = true from by simp; omega, Bool.true_and]
    congr 1; omega
  · simp [h]

theorem split8 (W : Nat) (h : W < 18446744073709551616) : W = W % 256 + 256 * (W / 256 % 256) + 65536 * (W / 65536 % 256) + 16777216 * (W / 16777216 % 256) + 4294967296 * (W / 4294967296 % 256) + 1099511627776 * (W / 1099511627776 % 256) + 281474976710656 * (W / 281474976710656 % 256) + 72057594037927936 * (W / 72057594037927936 % 256) := by
  omega
/-- eight bytes are a word -/
theorem wd_of_dg (V k : Nat) : wd V k = dg V (8 * k) + 256 * dg V (8 * k + 1) + 65536 * dg V (8 * k + 2) + 16777216 * dg V (8 * k + 3) + 4294967296 * dg V (8 * k + 4) + 1099511627776 * dg V (8 * k + 5) + 281474976710656 * dg V (8 * k + 6) + 72057594037927936 * dg V (8 * k + 7) := by
  have h0 := dg_wd V k 0 (by omega)
  have h1 := dg_wd V k 1 (by omega)
  have h2 := dg_wd V k 2 (by omega)
  have h3 := dg_wd V k 3 (by omega)
  have h4 := dg_wd V k 4 (by omega)
  have h5 := dg_wd V k 5 (by omega)
  have h6 := dg_wd V k 6 (by omega)
  have h7 := dg_wd V k 7 (by omega)
  simp only [Nat.add_zero, Nat.mul_zero, Nat.reduceMul, Nat.reducePow, Nat.pow_zero, Nat.div_one] at h0 h1 h2 h3 h4 h5 h6 h7
  rw [← h0, ← h1, ← h2, ← h3, ← h4, ← h5, ← h6, ← h7]
  exact split8 _ (wd_lt V k)

theorem lt_of_wd_zero {V n : Nat} (hV : V < 2 ^ (64 * (n + 1))) (h : wd V n = 0) : V < 2 ^ (64 * n) := by
  unfold wd at h
  have : V / 2 ^ (64 * n) < 2 ^ 64 := by
    rw [Nat.div_lt_iff_lt_mul (Nat.two_pow_pos _), ← Nat.pow_add, show 64 + 64 * n = 64 * (n + 1) from by omega]; exact hV
  rw [Nat.mod_eq_of_lt this] at h
  exact (Nat.div_eq_zero_iff_lt (Nat.two_pow_pos _)).1 h
theorem le_of_wd_ne {V n : Nat} (h : wd V n ≠ 0) : 2 ^ (64 * n) ≤ V := by
  rcases Nat.lt_or_ge V (2 ^ (64 * n)) with hlt | hge
  · exact absurd (by unfold wd; rw [Nat.div_eq_of_lt hlt]) h
  · exact hge
theorem lt_of_dg_zero {V n : Nat} (hV : V < 2 ^ (8 * (n + 1))) (h : dg V n = 0) : V < 2 ^ (8 * n) := by
  unfold dg at h
  have : V / 2 ^ (8 * n) < 2 ^ 8 := by
    rw [Nat.div_lt_iff_lt_mul (Nat.two_pow_pos _), ← Nat.pow_add, show 8 + 8 * n = 8 * (n + 1) from by omega]; exact hV
  rw [Nat.mod_eq_of_lt this] at h
  exact (Nat.div_eq_zero_iff_lt (Nat.two_pow_pos _)).1 h
theorem le_of_dg_ne {V n : Nat} (h : dg V n ≠ 0) : 2 ^ (8 * n) ≤ V := by
  rcases Nat.lt_or_ge V (2 ^ (8 * n)) with hlt | hge
  · exact absurd (by unfold dg; rw [Nat.div_eq_of_lt hlt]) h
  · exact hge

/-- n words are just enough for V -/
def Nw (n V : Nat) : Prop := V < 2 ^ (64 * n) ∧ (0 < n → 2 ^ (64 * (n - 1)) ≤ V)
/-- n bytes are just enough for V -/
def Nb (n V : Nat) : Prop := V < 2 ^ (8 * n) ∧ (0 < n → 2 ^ (8 * (n - 1)) ≤ V)

theorem Nw.uniq {n m V : Nat} (h : Nw n V) (k : Nw m V) : n = m := by
  rcases Nat.lt_trichotomy n m with hl | he | hl
  · have := k.2 (by omega)
    have := Nat.pow_le_pow_right (n := 2) (by omega) (show 64 * n ≤ 64 * (m - 1) by omega)
    have := h.1; omega
  · exact he
  · have := h.2 (by omega)
    have := Nat.pow_le_pow_right (n := 2) (by omega) (show 64 * m ≤ 64 * (n - 1) by omega)
    have := k.1; omega
theorem Nb.uniq {n m V : Nat} (h : Nb n V) (k : Nb m V) : n = m := by
  rcases Nat.lt_trichotomy n m with hl | he | hl
  · have := k.2 (by omega)
    have := Nat.pow_le_pow_right (n := 2) (by omega) (show 8 * n ≤ 8 * (m - 1) by omega)
    have := h.1; omega
  · exact he
  · have := h.2 (by omega)
    have := Nat.pow_le_pow_right (n := 2) (by omega) (show 8 * m ≤ 8 * (n - 1) by omega)
    have := k.1; omega
theorem Nw.zero_iff {n V : Nat} (h : Nw n V) : n = 0 ↔ V = 0 := by
  constructor
  · rintro rfl; have := h.1; simp at this; omega
  · rintro rfl
    rcases Nat.eq_zero_or_pos n with h0 | h0
    · exact h0
    · have := h.2 h0; have := Nat.two_pow_pos (64 * (n - 1)); omega
theorem Nb.zero_iff {n V : Nat} (h : Nb n V) : n = 0 ↔ V = 0 := by
  constructor
  · rintro rfl; have := h.1; simp at this; omega
  · rintro rfl
    rcases Nat.eq_zero_or_pos n with h0 | h0
    · exact h0
    · have := h.2 h0; have := Nat.two_pow_pos (8 * (n - 1)); omega

/-- digits of 8 bits, the lowest first -/
def leB : List Nat → Nat
  | [] => 0
  | d :: l => d + 256 * leB l
/-- digits of 8 bits, the highest first -/
def be (l : List Nat) : Nat := leB l.reverse
theorem leB_dg (l : List Nat) (h : ∀ x ∈ l, x < 256) : ∀ i, dg (leB l) i = l.getD i 0 := by
  induction l with
  | nil => intro i; simp [leB, dg]
  | cons d l ih =>
    intro i
    have hd : d < 256 := h d (by simp)
    cases i with
    | zero => simp only [leB, dg, Nat.mul_zero, Nat.pow_zero, Nat.div_one, List.getD_cons_zero]; omega
    | succ i =>
      rw [List.getD_cons_succ, ← ih (fun x hx => h x (by simp [hx])) i]
      unfold dg
      rw [show 8 * (i + 1) = 8 + 8 * i from by omega, Nat.pow_add, ← Nat.div_div_eq_div_mul]
      simp only [leB]
      rw [show (d + 256 * leB l) / 2 ^ 8 = leB l from by omega]
theorem leB_lt (l : List Nat) (h : ∀ x ∈ l, x < 256) : leB l < 2 ^ (8 * l.length) := by
  induction l with
  | nil => simp [leB]
  | cons d l ih =>
    have hd : d < 256 := h d (by simp)
    have := ih (fun x hx => h x (by simp [hx]))
    simp only [leB, List.length_cons]
    rw [show 8 * (l.length + 1) = 8 + 8 * l.length from by omega, Nat.pow_add]
    omega
theorem be_lt (l : List Nat) (h : ∀ x ∈ l, x < 256) : be l < 2 ^ (8 * l.length) := by
  have := leB_lt l.reverse (fun x hx => h x (by simpa using hx))
  simpa [be] using this
theorem be_dg (l : List Nat) (h : ∀ x ∈ l, x < 256) (i : Nat) (hi : i < l.length) : dg (be l) (l.length - 1 - i) = l.getD i 0 := by
  unfold be
  rw [leB_dg l.reverse (fun x hx => h x (by simpa using hx))]
  rw [List.getD_eq_getElem?_getD, List.getD_eq_getElem?_getD, List.getElem?_reverse (by omega)]
  congr 2; omega

/-- a number of at most n words, shifted -/
theorem wd_high {V n i : Nat} (hV : V < 2 ^ (64 * n)) (hi : n ≤ i) : wd V i = 0 := by
  unfold wd; rw [Nat.div_eq_of_lt (Nat.lt_of_lt_of_le hV (Nat.pow_le_pow_right (by omega) (by omega)))]
theorem dg_high {V n i : Nat} (hV : V < 2 ^ (8 * n)) (hi : n ≤ i) : dg V i = 0 := by
  unfold dg; rw [Nat.div_eq_of_lt (Nat.lt_of_lt_of_le hV (Nat.pow_le_pow_right (by omega) (by omega)))]
theorem wd_shl_low (V k s i : Nat) (hi : i < k) : wd (V * 2 ^ (64 * k + s)) i = 0 := by
  apply Nat.eq_of_testBit_eq; intro j
  rw [wd_bit, Nat.testBit_mul_two_pow]
  by_cases h : j < 64
  · simp only [h, decide_true, Bool.true_and, Nat.zero_testBit]
    rw [show decide (64 * i + j ≥ 64 * k + s) = false from by simp; omega, Bool.false_and]
  · simp [h]
theorem wd_shl_words (V k i : Nat) : wd (V * 2 ^ (64 * k)) (k + i) = wd V i := by
  apply Nat.eq_of_testBit_eq; intro j
  rw [wd_bit, wd_bit, Nat.testBit_mul_two_pow]
  rw [show decide (64 * (k + i) + j ≥ 64 * k) = true from by simp; omega, Bool.true_and]
  congr 2; omega
theorem wd_shl_first (V k s : Nat) (_hs : s < 64) : wd (V * 2 ^ (64 * k + s)) k = wd V 0 * 2 ^ s % 2 ^ 64 := by
  apply Nat.eq_of_testBit_eq; intro j
  rw [wd_bit, Nat.testBit_mod_two_pow, Nat.testBit_mul_two_pow, Nat.testBit_mul_two_pow, wd_bit]
  by_cases h : j < 64
  · simp only [h, decide_true, Bool.true_and]
    by_cases h2 : s ≤ j
    · rw [show decide (64 * k + j ≥ 64 * k + s) = true from by simp; omega, show decide (j ≥ s) = true from by simp; omega]
      rw [show decide (j - s < 64) = true from by simp; omega]
      simp only [Bool.true_and]; congr 1; omega
    · rw [show decide (64 * k + j ≥ 64 * k + s) = false from by simp; omega, show decide (j ≥ s) = false from by simp; omega]
      simp
  · simp [h]
theorem wd_shl_next (V k s i : Nat) (hs0 : 0 < s) (hs : s < 64) : wd (V * 2 ^ (64 * k + s)) (k + (i + 1)) = wd V (i + 1) * 2 ^ s % 2 ^ 64 ||| wd V i / 2 ^ (64 - s) := by
  apply Nat.eq_of_testBit_eq; intro j
  rw [Nat.testBit_or, wd_bit, Nat.testBit_mod_two_pow, Nat.testBit_mul_two_pow, Nat.testBit_mul_two_pow, Nat.testBit_div_two_pow, wd_bit, wd_bit]
  rw [show decide (64 * (k + (i + 1)) + j ≥ 64 * k + s) = true from by simp; omega, Bool.true_and]
  by_cases h : j < 64
  · simp only [h, decide_true, Bool.true_and]
    by_cases h2 : s ≤ j
    · rw [show decide (j ≥ s) = true from by simp; omega, show decide (j - s < 64) = true from by simp; omega]
      rw [show decide (j + (64 - s) < 64) = false from by simp; omega]
      simp only [Bool.true_and, Bool.false_and, Bool.or_false]; congr 1; omega
    · rw [show decide (j ≥ s) = false from by simp; omega, show decide (j + (64 - s) < 64) = true from by simp; omega]
      simp only [Bool.true_and, Bool.false_and, Bool.false_or]; congr 1; omega
  · rw [show decide (j + (64 - s) < 64) = false from by simp; omega]
    simp [h]
theorem shl_lt {V m k s : Nat} (hV : V < 2 ^ (64 * m)) (hs : s < 64) : V * 2 ^ (64 * k + s) < 2 ^ (64 * (m + k + 1)) := by
  have h1 := Nat.mul_lt_mul_of_pos_right hV (Nat.two_pow_pos (64 * k + s))
  rw [← Nat.pow_add] at h1
  exact Nat.lt_of_lt_of_le h1 (Nat.pow_le_pow_right (by omega) (by omega))

/-- the lowest t bytes of word k -/
def pd (V k t : Nat) : Nat := V / 2 ^ (64 * k) % 2 ^ (8 * t)
theorem pd_zero (V k : Nat) : pd V k 0 = 0 := by simp [pd, Nat.mod_one]
theorem pd_lt (V k t : Nat) : pd V k t < 2 ^ (8 * t) := Nat.mod_lt _ (Nat.two_pow_pos _)
theorem pd_succ (V k t : Nat) : pd V k (t + 1) = pd V k t ||| dg V (8 * k + t) * 2 ^ (8 * t) := by
  apply Nat.eq_of_testBit_eq; intro j
  unfold pd
  rw [Nat.testBit_or, Nat.testBit_mod_two_pow, Nat.testBit_mod_two_pow, Nat.testBit_mul_two_pow, dg_bit, Nat.testBit_div_two_pow]
  by_cases h : j < 8 * t
  · rw [show decide (j < 8 * (t + 1)) = true from by simp; omega, show decide (j < 8 * t) = true from by simp; omega, show decide (j ≥ 8 * t) = false from by simp; omega]
    simp
  · rw [show decide (j < 8 * t) = false from by simp; omega, show decide (j ≥ 8 * t) = true from by simp; omega]
    by_cases h2 : j < 8 * (t + 1)
    · rw [show decide (j < 8 * (t + 1)) = true from by simp; omega, show decide (j - 8 * t < 8) = true from by simp; omega]
      simp only [Bool.true_and, Bool.false_and, Bool.false_or]; congr 1; omega
    · rw [show decide (j < 8 * (t + 1)) = false from by simp; omega, show decide (j - 8 * t < 8) = false from by simp; omega]
      simp
theorem pd_full {V k t n : Nat} (hV : V < 2 ^ (8 * n)) (ht : n = 8 * k + t) (h8 : t ≤ 8) : pd V k t = wd V k := by
  unfold pd wd
  have h : V / 2 ^ (64 * k) < 2 ^ (8 * t) := by
    rw [Nat.div_lt_iff_lt_mul (Nat.two_pow_pos _), ← Nat.pow_add, show 8 * t + 64 * k = 8 * n from by omega]; exact hV
  rw [Nat.mod_eq_of_lt h, Nat.mod_eq_of_lt (Nat.lt_of_lt_of_le h (Nat.pow_le_pow_right (by omega) (by omega)))]

/-- the top word's bits are the number's -/
theorem top_bounds {V n b : Nat} (hV : V < 2 ^ (64 * n)) (h0 : 0 < n) (h1 : 2 ^ (b - 1) ≤ wd V (n - 1)) (h2 : wd V (n - 1) < 2 ^ b) (hb : 1 ≤ b) :
    2 ^ (64 * (n - 1) + b - 1) ≤ V ∧ V < 2 ^ (64 * (n - 1) + b) := by
  have hlt : V / 2 ^ (64 * (n - 1)) < 2 ^ 64 := by
    rw [Nat.div_lt_iff_lt_mul (Nat.two_pow_pos _), ← Nat.pow_add, show 64 + 64 * (n - 1) = 64 * n from by omega]; exact hV
  have he : wd V (n - 1) = V / 2 ^ (64 * (n - 1)) := Nat.mod_eq_of_lt hlt
  rw [he] at h1 h2
  constructor
  · rw [Nat.le_div_iff_mul_le (Nat.two_pow_pos _), ← Nat.pow_add] at h1
    rw [show 64 * (n - 1) + b - 1 = b - 1 + 64 * (n - 1) by omega]; exact h1
  · rw [Nat.div_lt_iff_lt_mul (Nat.two_pow_pos _), ← Nat.pow_add] at h2
    rw [show 64 * (n - 1) + b = b + 64 * (n - 1) by omega]; exact h2
theorem bits_uniq {x a b : Nat} (ha : 2 ^ (a - 1) ≤ x) (ha2 : x < 2 ^ a) (hb : 2 ^ (b - 1) ≤ x) (hb2 : x < 2 ^ b) (h1 : 1 ≤ a) (h2 : 1 ≤ b) : a = b := by
  rcases Nat.lt_trichotomy a b with h | h | h
  · have := Nat.pow_le_pow_right (n := 2) (by omega) (show a ≤ b - 1 by omega); omega
  · exact h
  · have := Nat.pow_le_pow_right (n := 2) (by omega) (show b ≤ a - 1 by omega); omega

/-- three-way order -/
def sgn3 (a b : Nat) : Int := if a < b then -1 else if b < a then 1 else 0
theorem div_split (V i : Nat) : V / 2 ^ (64 * i) = wd V i + 2 ^ 64 * (V / 2 ^ (64 * (i + 1))) := by
  unfold wd
  rw [show 64 * (i + 1) = 64 * i + 64 by omega, Nat.pow_add, ← Nat.div_div_eq_div_mul]
  have := Nat.mod_add_div (V / 2 ^ (64 * i)) (2 ^ 64)
  omega
theorem lt_of_div {a b d : Nat} (h : a / d < b / d) : a < b := by
  rcases Nat.lt_or_ge a b with h1 | h1
  · exact h1
  · have := Nat.div_le_div_right (c := d) h1; omega
theorem cmp_lt {V U i : Nat} (h : V / 2 ^ (64 * (i + 1)) = U / 2 ^ (64 * (i + 1))) (hw : wd V i < wd U i) : V < U := by
  refine lt_of_div (d := 2 ^ (64 * i)) ?_
  rw [div_split V i, div_split U i, h]; omega
theorem cmp_eq {V U i : Nat} (h : V / 2 ^ (64 * (i + 1)) = U / 2 ^ (64 * (i + 1))) (hw : wd V i = wd U i) : V / 2 ^ (64 * i) = U / 2 ^ (64 * i) := by
  rw [div_split V i, div_split U i, h, hw]

end Go.Proofs.YtgohhebffcldeaaGreatDoor.Num

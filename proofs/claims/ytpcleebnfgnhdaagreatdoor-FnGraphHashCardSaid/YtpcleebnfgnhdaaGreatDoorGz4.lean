import Derived.Test.YtpcleebnfgnhdaaGreatDoorGz3
/- Walks: *Int's Int64, BitLen, SetBytes, Neg; starlark's isSmall, makeSmallInt, makeBigInt. -/
set_option linter.unusedVariables false
set_option linter.unusedSimpArgs false
namespace Go.Proofs.YtpcleebnfgnhdaaGreatDoor
open Go.RowKit
open Num

theorem Int64_some (b o g p c n V : Nat) (xn : Bool) (w : World) (h0 : 0 < n) (hn : n ≤ 2147483648)
    (x0 : w.cell? ⟨b, o, none⟩ = some (.bool xn)) (x1 : w.cell? ⟨b, o + 1, none⟩ = some (.slice (some ⟨g, p, none⟩) n c))
    (hc : ∀ i, i < n → w.cell? ⟨g, p + i, none⟩ = some (.int .u64 (wd V i))) (hs : wd V 0 ≤ 9223372036854775807) :
    Calls Tryz.prog 131 #[.pointer (some ⟨b, o, none⟩)] w fun e w' => e = .returned (.int .i64 (if xn then -(wd V 0 : Int) else (wd V 0 : Int))) ∧ w = w' := by
  have HL := Lib.hid (low64_some g p c n V w h0 hn hc)
  clear hc
  cases xn
  all_goals
    go_enter Tryz.func131, Tryz.ntmps131
    go_wp2_with fail
    refine HL.out.mono ?_
    rintro e w' ⟨rfl, rfl⟩
    go_wp2
    go_ret
    exact ⟨by simp, rfl⟩

theorem BitLen_some (b o g p c n V : Nat) (w : World) (h0 : 0 < n) (hn : n ≤ 2147483648) (hN : Nw n V)
    (x1 : w.cell? ⟨b, o + 1, none⟩ = some (.slice (some ⟨g, p, none⟩) n c))
    (hc : ∀ i, i < n → w.cell? ⟨g, p + i, none⟩ = some (.int .u64 (wd V i))) :
    Calls Tryz.prog 152 #[.pointer (some ⟨b, o, none⟩)] w fun e w' => (∃ L : Nat, 1 ≤ L ∧ L ≤ 64 * n ∧ 64 * (n - 1) < L ∧ 2 ^ (L - 1) ≤ V ∧ V < 2 ^ L ∧ e = .returned (.int .i64 L)) ∧ w = w' := by
  have HL := Lib.hid (bitLen_some g p c n V w h0 hn hN hc)
  clear hc hN
  go_enter Tryz.func152, Tryz.ntmps152
  go_wp2_with fail
  refine HL.out.mono ?_
  rintro e w' ⟨⟨L, h1, h2, h3, h4, h5, rfl⟩, rfl⟩
  have H4 := Lib.hid h4; clear h4
  have H5 := Lib.hid h5; clear h5
  go_wp2
  go_ret
  exact ⟨⟨L, h1, h2, h3, H4.out, H5.out, rfl⟩, rfl⟩
theorem bitLen_zero (a : Option Addr) (c : Nat) (w : World) :
    Calls Tryz.prog 161 #[.slice a 0 c] w fun e w' => e = .returned (.int .i64 0) ∧ w = w' := by
  go_enter Tryz.func161, Tryz.ntmps161
  go_wp2
  go_ret
  exact ⟨rfl, rfl⟩
theorem BitLen_zero (b o c : Nat) (a : Option Addr) (w : World) (x1 : w.cell? ⟨b, o + 1, none⟩ = some (.slice a 0 c)) :
    Calls Tryz.prog 152 #[.pointer (some ⟨b, o, none⟩)] w fun e w' => e = .returned (.int .i64 0) ∧ w = w' := by
  go_enter Tryz.func152, Tryz.ntmps152
  go_wp2_with fail
  refine (bitLen_zero _ _ _).mono ?_
  rintro e w' ⟨rfl, rfl⟩
  go_wp2
  go_ret
  exact ⟨rfl, rfl⟩
theorem Int64_zero (b o c : Nat) (a : Option Addr) (xn : Bool) (w : World)
    (x0 : w.cell? ⟨b, o, none⟩ = some (.bool xn)) (x1 : w.cell? ⟨b, o + 1, none⟩ = some (.slice a 0 c)) :
    Calls Tryz.prog 131 #[.pointer (some ⟨b, o, none⟩)] w fun e w' => e = .returned (.int .i64 0) ∧ w = w' := by
  cases xn
  all_goals
    go_enter Tryz.func131, Tryz.ntmps131
    go_wp2_with fail
    refine (low64_zero _ _ _).mono ?_
    rintro e w' ⟨rfl, rfl⟩
    go_wp2
    go_ret
    exact ⟨rfl, rfl⟩

/-- whether an integer has room in 32 bits -/
def sm (neg : Bool) (V : Nat) : Bool := decide (V < 2147483648) || (neg && decide (V = 2147483648))

theorem isSmall_zero (b o c : Nat) (a : Option Addr) (w : World) (x1 : w.cell? ⟨b, o + 1, none⟩ = some (.slice a 0 c)) :
    Calls Tryz.prog 129 #[.pointer (some ⟨b, o, none⟩)] w fun e w' => e = .returned (.bool true) ∧ w = w' := by
  have H := Lib.hid (BitLen_zero b o c a w x1)
  clear x1
  go_enter Tryz.func129, Tryz.ntmps129
  go_wp2_with fail
  refine H.out.mono ?_
  rintro e w' ⟨rfl, rfl⟩
  go_wp2
  go_ret
  exact ⟨rfl, rfl⟩
theorem isSmall_some (b o g p c n V : Nat) (xn : Bool) (w : World) (h0 : 0 < n) (hn : n ≤ 2147483648) (hN : Nw n V)
    (x0 : w.cell? ⟨b, o, none⟩ = some (.bool xn)) (x1 : w.cell? ⟨b, o + 1, none⟩ = some (.slice (some ⟨g, p, none⟩) n c))
    (hc : ∀ i, i < n → w.cell? ⟨g, p + i, none⟩ = some (.int .u64 (wd V i))) :
    Calls Tryz.prog 129 #[.pointer (some ⟨b, o, none⟩)] w fun e w' => e = .returned (.bool (sm xn V)) ∧ w = w' := by
  have HB := Lib.hid (BitLen_some b o g p c n V w h0 hn hN x1 hc)
  have HI := fun hs => Lib.hid (Int64_some b o g p c n V xn w h0 hn x0 x1 hc hs)
  clear hc x0 x1
  go_enter Tryz.func129, Tryz.ntmps129
  go_wp2_with fail
  refine HB.out.mono ?_
  rintro e w' ⟨⟨L, h1, h2, h3, h4, h5, rfl⟩, rfl⟩
  by_cases hL : L < 32
  · have hV : V < 2147483648 := Nat.lt_of_lt_of_le h5 (Nat.pow_le_pow_right (n := 2) (by omega) (show L ≤ 31 by omega))
    have hs : sm xn V = true := by simp [sm, hV]
    have HS := Lib.hid hs
    clear hs h4 h5 hV hN
    go_wp2
    go_ret
    exact ⟨by rw [HS.out]; rfl, rfl⟩
  · by_cases hL2 : L = 32
    · subst hL2
      have hn1 : n = 1 := by omega
      have hwd : wd V 0 = V := by unfold wd; simp; omega
      have hge : 2147483648 ≤ V := h4
      have hV32 : V < 4294967296 := h5
      have HI' := Lib.hid ((HI (by rw [hwd]; omega)).out)
      rw [hwd] at HI'
      clear HI hN h4 h5
      cases xn
      · have hs : ((V : Int) == -2147483648) = sm false V := by rw [Bool.eq_iff_iff]; simp [sm]; omega
        have HS := Lib.hid hs
        clear hs hwd
        go_wp2_with fail
        refine HI'.out.mono ?_
        rintro e w' ⟨rfl, rfl⟩
        go_wp2
        go_ret
        exact ⟨ret_bool HS.out, rfl⟩
      · have hs : (-(V : Int) == -2147483648) = sm true V := by rw [Bool.eq_iff_iff]; simp [sm]; omega
        have HS := Lib.hid hs
        clear hs hwd
        go_wp2_with fail
        refine HI'.out.mono ?_
        rintro e w' ⟨rfl, rfl⟩
        go_wp2
        go_ret
        exact ⟨ret_bool HS.out, rfl⟩
    · have hV : 4294967296 ≤ V := Nat.le_trans (Nat.pow_le_pow_right (n := 2) (by omega) (show 32 ≤ L - 1 by omega)) h4
      have hs : sm xn V = false := by simp [sm]; omega
      have HS := Lib.hid hs
      have e32 : ((L : Int) == 32) = false := by simp; omega
      have hL3 : decide ((L : Int) < 32) = false := by simp; omega
      clear hs h4 h5 hV hN
      go_wp2
      go_ret
      exact ⟨ret_bool (by rw [HS.out]), rfl⟩


/-! SetBytes, Neg, makeSmallInt, makeBigInt -/
theorem Int_SetBytes_some (b o gx px cx n V : Nat) (cz : Array Value) (tz : Nat) (zn : Bool) (w : World) (hV : V < 2 ^ (8 * n)) (h0 : 0 < n) (hn : n ≤ 16777216) (hnc : n ≤ cx) (hgx : gx < w.heap.size)
    (hz : w.heap[b]? = some (.cells cz tz (0, 0))) (z0 : cz[o]? = some (.bool zn)) (z1 : cz[o + 1]? = some (.slice none 0 0)) (hpos : 0 < V)
    (hc : ∀ i, i < n → w.cell? ⟨gx, px + i, none⟩ = some (.int .u8 (dg V (n - 1 - i)))) :
    Calls Tryz.prog 97 #[.pointer (some ⟨b, o, none⟩), .slice (some ⟨gx, px, none⟩) n cx] w fun e w' => e = .returned (.pointer (some ⟨b, o, none⟩)) ∧ ∃ m, Nw m V ∧ m ≤ 16777216 ∧ IntSet b o cz tz false m V w w' := by
  have HS := Lib.hid (setBytes_some gx px cx n V w hV h0 (by omega) hnc hgx hc)
  have hz0 : w.cell? ⟨b, o, none⟩ = some (.bool zn) := (cell_of_row w b o cz tz (0, 0) hz).trans z0
  have hz1 : w.cell? ⟨b, o + 1, none⟩ = some (.slice none 0 0) := (cell_of_row w b (o + 1) cz tz (0, 0) hz).trans z1
  have hf0 : w.frozen? ⟨b, o, none⟩ = false := by simp [World.frozen?, hz]
  have hf1 : w.frozen? ⟨b, o + 1, none⟩ = false := by simp [World.frozen?, hz]
  have hbl := (Array.getElem?_eq_some_iff.1 hz).1
  have HZ := Lib.hid hz; clear hz z0 z1 hc
  go_enter Tryz.func97, Tryz.ntmps97
  go_wp2_with fail
  refine HS.out.mono ?_
  rintro e w2 ⟨m, g, c, hg, hN, hmc, hc2, rfl, hb2, f, hr2, hf2⟩
  have q1 : w2.cell? ⟨b, o + 1, none⟩ = some (.slice none 0 0) := (hb2.cell (p := ⟨b, o + 1, none⟩) hbl).trans hz1
  have q2 : w2.frozen? ⟨b, o + 1, none⟩ = false := (hb2.frozen (p := ⟨b, o + 1, none⟩) hbl).trans hf1
  have q4 : w2.cell? ⟨b, o, none⟩ = some (.bool zn) := (hb2.cell (p := ⟨b, o, none⟩) hbl).trans hz0
  have q5 : w2.frozen? ⟨b, o, none⟩ = false := (hb2.frozen (p := ⟨b, o, none⟩) hbl).trans hf0
  have HG := Lib.hid hg; clear hg
  have HF2 := Lib.hid hf2; clear hf2
  have HR2 := Lib.hid hr2; clear hr2
  have HN := Lib.hid hN; clear hN
  have hm0 : 0 < m := by
    rcases Nat.eq_zero_or_pos m with h | h
    · have := HN.out.zero_iff.1 h; omega
    · exact h
  have hmb : m ≤ 16777216 := by
    rcases Nat.lt_or_ge 16777216 m with h | h
    · have h1 := HN.out.2 hm0
      have := Nat.pow_le_pow_right (n := 2) (by omega) (show 8 * n ≤ 64 * (m - 1) by omega)
      omega
    · exact h
  go_wp2
  go_ret
  exact ⟨rfl, m, HN.out, hmb, intSet_mk (w := w) hb2 HZ.out (.inr ⟨hm0, HN.out.1, g, c, f, rfl, by have h9 : g = w.heap.size := HG.out; omega, hmc, by omega, HR2.out, HF2.out⟩)⟩
theorem setBytes_zero (a : Option Addr) (c : Nat) (w : World) :
    Calls Tryz.prog 128 #[.slice none 0 0, .slice a 0 c] w fun e w' => e = .returned (.slice none 0 0) ∧ w = w' := by
  go_enter Tryz.func128, Tryz.ntmps128
  go_wp2_with fail
  refine (make_le _ _ _ 0 _ (by omega)).mono ?_
  rintro e w' ⟨rfl, rfl⟩
  go_wp2_with fail
  refine wp_loop_rounds 1 ?_
  rw [rounds_succ]
  go_wp2_with fail
  refine (norm_zero _ _ _).mono ?_
  rintro e w' ⟨rfl, rfl⟩
  go_wp2
  go_ret
  exact ⟨rfl, rfl⟩
theorem Int_SetBytes_zero (b o cx : Nat) (a : Option Addr) (cz : Array Value) (tz : Nat) (zn : Bool) (w : World)
    (hz : w.heap[b]? = some (.cells cz tz (0, 0))) (z0 : cz[o]? = some (.bool zn)) (z1 : cz[o + 1]? = some (.slice none 0 0)) :
    Calls Tryz.prog 97 #[.pointer (some ⟨b, o, none⟩), .slice a 0 cx] w fun e w' => e = .returned (.pointer (some ⟨b, o, none⟩)) ∧ IntSet b o cz tz false 0 0 w w' := by
  have hz0 : w.cell? ⟨b, o, none⟩ = some (.bool zn) := (cell_of_row w b o cz tz (0, 0) hz).trans z0
  have hz1 : w.cell? ⟨b, o + 1, none⟩ = some (.slice none 0 0) := (cell_of_row w b (o + 1) cz tz (0, 0) hz).trans z1
  have hf0 : w.frozen? ⟨b, o, none⟩ = false := by simp [World.frozen?, hz]
  have hf1 : w.frozen? ⟨b, o + 1, none⟩ = false := by simp [World.frozen?, hz]
  have HZ := Lib.hid hz; clear hz z0 z1
  go_enter Tryz.func97, Tryz.ntmps97
  go_wp2_with fail
  refine (setBytes_zero _ _ _).mono ?_
  rintro e w2 ⟨rfl, rfl⟩
  go_wp2
  go_ret
  exact ⟨rfl, intSet_mk (w := w) (Below.refl _ _) HZ.out (.inl ⟨rfl, rfl, rfl⟩)⟩

/-- Neg of an integer in its own place: the sign turns, unless it is 0 -/
theorem Int_Neg_own (b o n c : Nat) (a : Option Addr) (cz : Array Value) (tz : Nat) (zn : Bool) (w : World)
    (hz : w.heap[b]? = some (.cells cz tz (0, 0))) (z0 : cz[o]? = some (.bool zn)) (z1 : cz[o + 1]? = some (.slice a n c)) :
    Calls Tryz.prog 98 #[.pointer (some ⟨b, o, none⟩), .pointer (some ⟨b, o, none⟩)] w fun e w' => e = .returned (.pointer (some ⟨b, o, none⟩)) ∧ w' = w.setCell ⟨b, o, none⟩ (.bool (decide (0 < n) && !zn)) := by
  have hz0 : w.cell? ⟨b, o, none⟩ = some (.bool zn) := (cell_of_row w b o cz tz (0, 0) hz).trans z0
  have hz1 : w.cell? ⟨b, o + 1, none⟩ = some (.slice a n c) := (cell_of_row w b (o + 1) cz tz (0, 0) hz).trans z1
  have hf0 : w.frozen? ⟨b, o, none⟩ = false := by simp [World.frozen?, hz]
  obtain ⟨j, hj, hjs⟩ := info_Int
  have hp := run_neq_ptr_same (P := Tryz.prog) w (⟨b, o, none⟩ : Addr) under_pInt hj
  clear hz z0 z1 hj hjs
  have HSet : Calls Tryz.prog 91 #[.pointer (some ⟨b, o, none⟩), .pointer (some ⟨b, o, none⟩)] w fun e w' => e = .returned (.pointer (some ⟨b, o, none⟩)) ∧ w = w' := by
    go_enter Tryz.func91, Tryz.ntmps91
    go_wp2
    go_ret
    exact ⟨rfl, rfl⟩
  have HS := Lib.hid HSet; clear HSet
  by_cases hn : 0 < n
  · go_enter Tryz.func98, Tryz.ntmps98
    go_wp2_with fail
    refine HS.out.mono ?_
    rintro e w2 ⟨rfl, rfl⟩
    go_wp2
    go_ret
    exact ⟨rfl, by simp [hn]⟩
  · obtain rfl : n = 0 := by omega
    go_enter Tryz.func98, Tryz.ntmps98
    go_wp2_with fail
    refine HS.out.mono ?_
    rintro e w2 ⟨rfl, rfl⟩
    go_wp2
    go_ret
    exact ⟨rfl, by simp⟩

theorem makeSmallInt_any (z : Int) (w : World) :
    Calls Tryz.prog 130 #[.int .i64 z] w fun e w' => e = .returned (.agg #[.int .i64 z, .pointer none]) ∧ w' = w.alloc (.cells #[.int .i64 z, .pointer none] 110) := by
  go_enter Tryz.func130, Tryz.ntmps130
  go_wp2
  exact bodyPost_ret (v := .agg #[.int .i64 z, .pointer none]) (by simp [results, Tryz.results130, go_sem]) rfl ⟨rfl, rfl⟩
theorem makeBigInt_any (p : Addr) (w : World) :
    Calls Tryz.prog 132 #[.pointer (some p)] w fun e w' => e = .returned (.agg #[.int .i64 0, .pointer (some p)]) ∧ w' = w.alloc (.cells #[.int .i64 0, .pointer (some p)] 110) := by
  go_enter Tryz.func132, Tryz.ntmps132
  go_wp2
  exact bodyPost_ret (v := .agg #[.int .i64 0, .pointer (some p)]) (by simp [results, Tryz.results132, go_sem]) rfl ⟨rfl, rfl⟩

/-- v is a starlark integer: the number V with the sign neg; what it points to lies from block 'base' on -/
def IntIs (w : World) (base : Nat) (v : Value) (neg : Bool) (V : Nat) : Prop :=
  (sm neg V = true ∧ v = .agg #[.int .i64 (if neg then -(V : Int) else (V : Int)), .pointer none]) ∨
  (sm neg V = false ∧ ∃ b s n g c f, v = .agg #[.int .i64 0, .pointer (some ⟨b, 0, none⟩)] ∧ base ≤ b ∧ w.heap[b]? = some (.cells #[.bool neg, s] 212 (0, 0)) ∧ 0 < n ∧ Nw n V ∧ n ≤ 16777216 ∧
    s = .slice (some ⟨g, 0, none⟩) n c ∧ base ≤ g ∧ n ≤ c ∧ c ≤ 2147483651 ∧ Row w g 246 c f ∧ ∀ i, i < n → f i = .int .u64 (wd V i))
theorem IntIs.below {w w' : World} {base : Nat} {v : Value} {neg : Bool} {V : Nat} (h : IntIs w base v neg V) (hb : Below w.heap.size w w') : IntIs w' base v neg V := by
  rcases h with h | ⟨h1, b, s, n, g, c, f, hv, hbb, hh, h0, hN, hn, hs, hg, hnc, hc, hr, hf⟩
  · exact .inl h
  · exact .inr ⟨h1, b, s, n, g, c, f, hv, hbb, (hb.block b (Array.getElem?_eq_some_iff.1 hh).1).trans hh, h0, hN, hn, hs, hg, hnc, hc, hr.below hb hr.lt, hf⟩

theorem MakeBigInt_zero (b o c : Nat) (a : Option Addr) (xn : Bool) (w : World)
    (x0 : w.cell? ⟨b, o, none⟩ = some (.bool xn)) (x1 : w.cell? ⟨b, o + 1, none⟩ = some (.slice a 0 c)) :
    Calls Tryz.prog 99 #[.pointer (some ⟨b, o, none⟩)] w fun e w' => e = .returned (.agg #[.int .i64 0, .pointer none]) ∧ Below w.heap.size w w' := by
  have hbl : b < w.heap.size := World.block_lt_of_cell? w _ x0
  have HA := Lib.hid (fun O => isSmall_zero b o c a (w.alloc O) ((World.cell?_of_block (w := w) (Below.heap_alloc w O b hbl)).trans x1))
  have HI := Lib.hid (fun O => Int64_zero b o c a xn (w.alloc O) ((World.cell?_of_block (w := w) (Below.heap_alloc w O b hbl)).trans x0) ((World.cell?_of_block (w := w) (Below.heap_alloc w O b hbl)).trans x1))
  clear x0 x1
  go_enter Tryz.func99, Tryz.ntmps99
  go_wp2_with fail
  refine (HA.out _).mono ?_
  rintro e w2 ⟨rfl, rfl⟩
  go_wp2_with fail
  refine (HI.out _).mono ?_
  rintro e w2 ⟨rfl, rfl⟩
  go_wp2_with fail
  refine (makeSmallInt_any _ _).mono ?_
  rintro e w2 ⟨rfl, rfl⟩
  go_wp2
  exact bodyPost_ret (v := .agg #[.int .i64 0, .pointer none]) (by simp [results, Tryz.results99, go_sem]) rfl ⟨rfl, ((Below.refl _ _).alloc (Nat.le_refl _) _).alloc (by simp) _⟩

theorem MakeBigInt_small (b o g p c n V : Nat) (xn : Bool) (w : World) (h0 : 0 < n) (hn : n ≤ 2147483648) (hN : Nw n V) (hs : sm xn V = true)
    (x0 : w.cell? ⟨b, o, none⟩ = some (.bool xn)) (x1 : w.cell? ⟨b, o + 1, none⟩ = some (.slice (some ⟨g, p, none⟩) n c)) (hg : g < w.heap.size)
    (hc : ∀ i, i < n → w.cell? ⟨g, p + i, none⟩ = some (.int .u64 (wd V i))) :
    Calls Tryz.prog 99 #[.pointer (some ⟨b, o, none⟩)] w fun e w' => e = .returned (.agg #[.int .i64 (if xn then -(V : Int) else (V : Int)), .pointer none]) ∧ Below w.heap.size w w' := by
  have hbl : b < w.heap.size := World.block_lt_of_cell? w _ x0
  have hV32 : V < 4294967296 := by cases xn <;> simp [sm] at hs <;> omega
  have hwd : wd V 0 = V := by unfold wd; simp; omega
  have HA := Lib.hid (fun O => isSmall_some b o g p c n V xn (w.alloc O) h0 hn hN ((World.cell?_of_block (w := w) (Below.heap_alloc w O b hbl)).trans x0) ((World.cell?_of_block (w := w) (Below.heap_alloc w O b hbl)).trans x1) (fun i hi => (World.cell?_of_block (w := w) (Below.heap_alloc w O g hg)).trans (hc i hi)))
  have HI := fun O => Int64_some b o g p c n V xn (w.alloc O) h0 hn ((World.cell?_of_block (w := w) (Below.heap_alloc w O b hbl)).trans x0) ((World.cell?_of_block (w := w) (Below.heap_alloc w O b hbl)).trans x1) (fun i hi => (World.cell?_of_block (w := w) (Below.heap_alloc w O g hg)).trans (hc i hi)) (by rw [hwd]; omega)
  rw [hwd] at HI
  have HII := Lib.hid HI; clear HI
  rw [hs] at HA
  obtain ⟨z, hz⟩ : ∃ z : Int, z = (if xn then -(V : Int) else (V : Int)) := ⟨_, rfl⟩
  rw [← hz] at HII ⊢
  clear x0 x1 hc hs hwd hz hN
  go_enter Tryz.func99, Tryz.ntmps99
  go_wp2_with fail
  refine (HA.out _).mono ?_
  rintro e w2 ⟨rfl, rfl⟩
  go_wp2_with fail
  refine (HII.out _).mono ?_
  rintro e w2 ⟨rfl, rfl⟩
  go_wp2_with fail
  refine (makeSmallInt_any _ _).mono ?_
  rintro e w2 ⟨rfl, rfl⟩
  go_wp2
  exact bodyPost_ret (v := .agg #[.int .i64 z, .pointer none]) (by simp [results, Tryz.results99, go_sem]) rfl ⟨rfl, ((Below.refl _ _).alloc (Nat.le_refl _) _).alloc (by simp) _⟩

theorem set2 {w3 : World} {B T : Nat} {a b x y : Value} (h : w3.heap[B]? = some (.cells #[a, b] T (0, 0))) : ((w3.setCell ⟨B, 0, none⟩ x).setCell ⟨B, 1, none⟩ y).heap[B]? = some (.cells #[x, y] T (0, 0)) := by
  have e1 : (w3.setCell ⟨B, 0, none⟩ x).heap[B]? = some (.cells #[x, b] T (0, 0)) := by
    simp only [World.setCell, Array.getElem?_modify, if_true, h, Option.map_some]; rfl
  simp only [World.setCell, Array.getElem?_modify, if_true] at e1 ⊢
  simp only [e1, Option.map_some]; rfl

theorem MakeBigInt_big (b o g p c n V : Nat) (ca : Array Value) (ta : Nat) (xn : Bool) (w : World) (h0 : 0 < n) (hn : n ≤ 16777216) (hN : Nw n V) (hs : sm xn V = false)
    (hx : w.heap[b]? = some (.cells ca ta (0, 0))) (x0 : ca[o]? = some (.bool xn)) (x1 : ca[o + 1]? = some (.slice (some ⟨g, p, none⟩) n c)) (hg : g < w.heap.size)
    (hc : ∀ i, i < n → w.cell? ⟨g, p + i, none⟩ = some (.int .u64 (wd V i))) :
    Calls Tryz.prog 99 #[.pointer (some ⟨b, o, none⟩)] w fun e w' => ∃ v, e = .returned v ∧ IntIs w' w.heap.size v xn V ∧ Below w.heap.size w w' := by
  have hbl := (Array.getElem?_eq_some_iff.1 hx).1
  have hx0 : w.cell? ⟨b, o, none⟩ = some (.bool xn) := (cell_of_row w b o ca ta (0, 0) hx).trans x0
  have hx1 : w.cell? ⟨b, o + 1, none⟩ = some (.slice (some ⟨g, p, none⟩) n c) := (cell_of_row w b (o + 1) ca ta (0, 0) hx).trans x1
  have HA := fun O => isSmall_some b o g p c n V xn (w.alloc O) h0 (by omega) hN ((World.cell?_of_block (w := w) (Below.heap_alloc w O b hbl)).trans hx0) ((World.cell?_of_block (w := w) (Below.heap_alloc w O b hbl)).trans hx1) (fun i hi => (World.cell?_of_block (w := w) (Below.heap_alloc w O g hg)).trans (hc i hi))
  rw [hs] at HA
  have HAA := Lib.hid HA; clear HA
  have HSET := Lib.hid (fun (O : Obj) => Int_Set_some (w.heap.size + 1) 0 b o g p c n V #[.bool false, .slice none 0 0] ca 212 ta false xn ((w.alloc O).alloc (.cells #[.bool false, .slice none 0 0] 212)) hN.1 h0 (by omega) (by simp; omega)
    (by have := heap_alloc_new (w.alloc O) (.cells #[.bool false, .slice none 0 0] 212); simpa using this)
    ((Below.heap_alloc _ _ _ (by simp; omega)).trans ((Below.heap_alloc _ _ _ hbl).trans hx)) rfl rfl x0 x1 (by omega)
    (fun i hi => (World.cell?_of_block (w := w.alloc O) (Below.heap_alloc _ _ g (by simp; omega))).trans ((World.cell?_of_block (w := w) (Below.heap_alloc w O g hg)).trans (hc i hi))))
  have HS := Lib.hid hs
  have HN := Lib.hid hN
  clear hx x0 x1 hc hs hx0 hx1 hN
  go_enter Tryz.func99, Tryz.ntmps99
  go_wp2_with fail
  refine (HAA.out _).mono ?_
  rintro e w2 ⟨rfl, rfl⟩
  go_wp2_with fail
  refine (HSET.out _).mono ?_
  rintro e w3 ⟨rfl, s, hnew, hch, hh⟩
  have hb2 : Below w.heap.size w ((w.alloc (Obj.cells #[Value.int IntKind.i64 0, Value.pointer none] 110)).alloc (Obj.cells #[Value.bool false, Value.slice none 0 0] 212)) := ((Below.refl _ _).alloc (Nat.le_refl _) _).alloc (by simp) _
  have hb3 : Below w.heap.size w w3 := Chg.below hb2 (by simp; omega) hch (by omega)
  have hr3 : w3.heap[w.heap.size]? = some (.cells #[.int .i64 0, .pointer none] 110 (0, 0)) := (hch.block _ (by simp; omega) (by omega)).trans ((Below.heap_alloc _ _ _ (by simp)).trans (heap_alloc_new w _))
  have hsz3 : w.heap.size + 2 ≤ w3.heap.size := by have := hch.size; simpa using this
  have c20 : w3.cell? ⟨w.heap.size, 0, none⟩ = some (.int .i64 0) := (cell_of_row w3 _ 0 _ _ (0, 0) hr3).trans rfl
  have c21 : w3.cell? ⟨w.heap.size, 1, none⟩ = some (.pointer none) := (cell_of_row w3 _ 1 _ _ (0, 0) hr3).trans rfl
  have f20 : w3.frozen? ⟨w.heap.size, 0, none⟩ = false := by simp [World.frozen?, hr3]
  have f21 : w3.frozen? ⟨w.heap.size, 1, none⟩ = false := by simp [World.frozen?, hr3]
  have hlt3 : w.heap.size < w3.heap.size := by omega
  have d20 : ∀ O, (w3.alloc O).cell? ⟨w.heap.size, 0, none⟩ = some (.int .i64 0) := fun O => (World.cell?_of_block (w := w3) (Below.heap_alloc w3 O _ hlt3)).trans c20
  have d21 : ∀ O, (w3.alloc O).cell? ⟨w.heap.size, 1, none⟩ = some (.pointer none) := fun O => (World.cell?_of_block (w := w3) (Below.heap_alloc w3 O _ hlt3)).trans c21
  have g20 : ∀ O, (w3.alloc O).frozen? ⟨w.heap.size, 0, none⟩ = false := fun O => (World.frozen?_of_block (w := w3) (Below.heap_alloc w3 O _ hlt3)).trans f20
  have g21 : ∀ O, (w3.alloc O).frozen? ⟨w.heap.size, 1, none⟩ = false := fun O => (World.frozen?_of_block (w := w3) (Below.heap_alloc w3 O _ hlt3)).trans f21
  have HNEW := Lib.hid hnew; clear hnew
  have HCH := Lib.hid hch; clear hch
  have HH := Lib.hid hh; clear hh
  have HR3 := Lib.hid hr3; clear hr3
  clear hb2
  go_wp2_with fail
  refine (makeBigInt_any _ _).mono ?_
  rintro e w4 ⟨rfl, rfl⟩
  go_wp2
  have hW2 := set2 (x := .int .i64 0) (y := .pointer (some ⟨w.heap.size + 1, 0, none⟩)) HR3.out
  have hWl : w.heap.size < ((w3.setCell ⟨w.heap.size, 0, none⟩ (.int .i64 0)).setCell ⟨w.heap.size, 1, none⟩ (.pointer (some ⟨w.heap.size + 1, 0, none⟩))).heap.size := by simp [World.setCell]; omega
  have hW := (Below.heap_alloc _ (Obj.cells #[Value.int IntKind.i64 0, Value.pointer (some ⟨w.heap.size + 1, 0, none⟩)] 110) _ hWl).trans hW2
  have e0 := (cell_of_row _ _ 0 _ _ (0, 0) hW).trans rfl
  have e1 := (cell_of_row _ _ 1 _ _ (0, 0) hW).trans rfl
  refine bodyPost_ret (v := .agg #[.int .i64 0, .pointer (some ⟨w.heap.size + 1, 0, none⟩)]) (by simp [results, Tryz.results99, go_sem, e0, e1]) rfl ⟨_, rfl, ?_, ?_⟩
  · refine .inr ⟨HS.out, w.heap.size + 1, s, n, ?_⟩
    rcases HNEW.out with ⟨hn0, _⟩ | ⟨_, hV, g', c', f', hs', hg', hnc', hc', hr', hf'⟩
    · omega
    · have hg2 : w.heap.size + 2 ≤ g' := by simpa using hg'
      refine ⟨g', c', f', rfl, by omega, ?_, h0, HN.out, hn, hs', by omega, hnc', hc', ((hr'.far (by simp; omega) _).far (by simp; omega) _).alloc _, hf'⟩
      rw [Below.heap_alloc _ _ _ (by simp [World.setCell]; omega), Below.heap_setCell _ _ _ _ (by simp), Below.heap_setCell _ _ _ _ (by simp)]
      rw [HH.out]; rfl
  · exact ((hb3.setCell (by simp) _).setCell (by simp) _).alloc (by simp [World.setCell]; omega) _

end Go.Proofs.YtpcleebnfgnhdaaGreatDoor

/- Walks: impl.whole: an integer of the program out of the given one. -/
set_option linter.unusedVariables false
set_option linter.unusedSimpArgs false
namespace Go.Proofs.YtpcleebnfgnhdaaGreatDoor
open Go.RowKit
open Num

theorem IntIs.shape {w : World} {base : Nat} {v : Value} {neg : Bool} {V : Nat} (h : IntIs w base v neg V) : ∃ z p, v = .agg #[.int .i64 z, .pointer p] := by
  rcases h with ⟨_, h⟩ | ⟨_, b, s, n, g, c, f, hv, _⟩
  · exact ⟨_, _, h⟩
  · exact ⟨_, _, hv⟩
theorem IntIs.base_le {w : World} {base base' : Nat} {v : Value} {neg : Bool} {V : Nat} (h : IntIs w base v neg V) (hb : base' ≤ base) : IntIs w base' v neg V := by
  rcases h with h | ⟨h1, b, s, n, g, c, f, hv, hbb, hh, h0, hN, hn, hs, hg, hnc, hc, hr, hf⟩
  · exact .inl h
  · exact .inr ⟨h1, b, s, n, g, c, f, hv, by omega, hh, h0, hN, hn, hs, by omega, hnc, hc, hr, hf⟩
theorem IntIs.far {w : World} {base : Nat} {v : Value} {neg : Bool} {V : Nat} (h : IntIs w base v neg V) {p : Addr} (hp : p.block < base) (u : Value) : IntIs (w.setCell p u) base v neg V := by
  rcases h with h | ⟨h1, b, s, n, g, c, f, hv, hbb, hh, h0, hN, hn, hs, hg, hnc, hc, hr, hf⟩
  · exact .inl h
  · exact .inr ⟨h1, b, s, n, g, c, f, hv, hbb, (Below.heap_setCell _ _ _ _ (by omega)).trans hh, h0, hN, hn, hs, hg, hnc, hc, hr.far (by omega) u, hf⟩

/-- an integer object at ⟨b, o⟩: its sign, and its words in a block that is there -/
def IntObj (w : World) (b o : Nat) (neg : Bool) (n V : Nat) : Prop :=
  ∃ ca ta s, w.heap[b]? = some (.cells ca ta (0, 0)) ∧ ca[o]? = some (.bool neg) ∧ ca[o + 1]? = some s ∧ Nw n V ∧ n ≤ 16777216 ∧
    ((n = 0 ∧ ∃ a c, s = .slice a 0 c) ∨ (0 < n ∧ ∃ g p c, s = .slice (some ⟨g, p, none⟩) n c ∧ g < w.heap.size ∧ ∀ i, i < n → w.cell? ⟨g, p + i, none⟩ = some (.int .u64 (wd V i))))

theorem MakeBigInt_any (b o n V : Nat) (neg : Bool) (w : World) (h : IntObj w b o neg n V) :
    Calls Tryz.prog 99 #[.pointer (some ⟨b, o, none⟩)] w fun e w' => ∃ v, e = .returned v ∧ IntIs w' w.heap.size v neg V ∧ Below w.heap.size w w' := by
  obtain ⟨ca, ta, s, hx, x0, x1, hN, hn, hs⟩ := h
  have hx0 : w.cell? ⟨b, o, none⟩ = some (.bool neg) := (cell_of_row w b o ca ta (0, 0) hx).trans x0
  have hx1 : w.cell? ⟨b, o + 1, none⟩ = some s := (cell_of_row w b (o + 1) ca ta (0, 0) hx).trans x1
  rcases hs with ⟨rfl, a, c, rfl⟩ | ⟨h0, g, p, c, rfl, hg, hc⟩
  · obtain rfl : V = 0 := hN.zero_iff.1 rfl
    refine (MakeBigInt_zero b o c a neg w hx0 hx1).mono ?_
    rintro e w' ⟨rfl, hb⟩
    exact ⟨_, rfl, .inl ⟨by simp [sm], by simp⟩, hb⟩
  · cases hs : sm neg V
    · exact MakeBigInt_big b o g p c n V ca ta neg w h0 hn hN hs hx x0 x1 hg hc
    · refine (MakeBigInt_small b o g p c n V neg w h0 (by omega) hN hs hx0 hx1 hg hc).mono ?_
      rintro e w' ⟨rfl, hb⟩
      exact ⟨_, rfl, .inl ⟨hs, rfl⟩, hb⟩
theorem IntObj.keep {w w' : World} {b o n V : Nat} {neg : Bool} (h : IntObj w b o neg n V) (hb : Below w.heap.size w w') : IntObj w' b o neg n V := by
  obtain ⟨ca, ta, s, hx, x0, x1, hN, hn, hs⟩ := h
  refine ⟨ca, ta, s, (hb.block b (Array.getElem?_eq_some_iff.1 hx).1).trans hx, x0, x1, hN, hn, ?_⟩
  rcases hs with hs | ⟨h0, g, p, c, rfl, hg, hc⟩
  · exact .inl hs
  · exact .inr ⟨h0, g, p, c, rfl, Nat.lt_of_lt_of_le hg hb.size, fun i hi => (hb.cell (p := ⟨g, p + i, none⟩) hg).trans (hc i hi)⟩
theorem IntSet.obj {b o tz n V : Nat} {cz : Array Value} {neg : Bool} {w w' : World} (h : IntSet b o cz tz neg n V w w') (hN : Nw n V) (hn : n ≤ 16777216) (hsz : o + 1 < cz.size) : IntObj w' b o neg n V := by
  obtain ⟨s, hnew, hch, hh⟩ := h
  refine ⟨_, tz, s, hh, ?_, ?_, hN, hn, ?_⟩
  · simp [Array.getElem?_setIfInBounds]; omega
  · simp [Array.getElem?_setIfInBounds, hsz]
  · rcases hnew with ⟨rfl, _, rfl⟩ | ⟨h0, hV, g, c, f, rfl, hg, hnc, hc, hr, hf⟩
    · exact .inl ⟨rfl, none, 0, rfl⟩
    · exact .inr ⟨h0, g, 0, c, rfl, hr.lt, fun i hi => by rw [Nat.zero_add, hr.cell (by omega), hf i hi]⟩
/-- the sign is set anew -/
theorem IntObj.resign {w : World} {b o n V : Nat} {neg : Bool} (h : IntObj w b o neg n V) (neg' : Bool) (hne : ∀ g p c ca ta, w.heap[b]? = some (.cells ca ta (0, 0)) → ca[o + 1]? = some (.slice (some ⟨g, p, none⟩) n c) → 0 < n → g ≠ b) : IntObj (w.setCell ⟨b, o, none⟩ (.bool neg')) b o neg' n V := by
  obtain ⟨ca, ta, s, hx, x0, x1, hN, hn, hs⟩ := h
  have hsz : o + 1 < ca.size := by have := (Array.getElem?_eq_some_iff.1 x1).1; exact this
  refine ⟨ca.setIfInBounds o (.bool neg'), ta, s, ?_, ?_, ?_, hN, hn, ?_⟩
  · simp only [World.setCell, Array.getElem?_modify, if_true, hx, Option.map_some]; rfl
  · simp [Array.getElem?_setIfInBounds]; omega
  · simp [Array.getElem?_setIfInBounds, x1]
  · rcases hs with hs | ⟨h0, g, p, c, rfl, hg, hc⟩
    · exact .inl hs
    · have hgb := hne g p c ca ta hx x1 h0
      refine .inr ⟨h0, g, p, c, rfl, by simpa [World.setCell] using hg, fun i hi => ?_⟩
      rw [World.cell?_of_block (w := w) (a := ⟨g, p + i, none⟩) (Below.heap_setCell w ⟨b, o, none⟩ _ g hgb)]
      exact hc i hi

/-- the slice s holds n bytes, the highest first, of V, and no leading 0 -/
def MagAt (w : World) (s : Value) (n V : Nat) : Prop :=
  Nb n V ∧ ((n = 0 ∧ ∃ a c, s = .slice a 0 c) ∨ (0 < n ∧ ∃ g p c, s = .slice (some ⟨g, p, none⟩) n c ∧ n ≤ c ∧ g < w.heap.size ∧ ∀ i, i < n → w.cell? ⟨g, p + i, none⟩ = some (.int .u8 (dg V (n - 1 - i)))))
theorem MagAt.below {w w' : World} {s : Value} {n V : Nat} (h : MagAt w s n V) (hb : Below w.heap.size w w') : MagAt w' s n V := by
  obtain ⟨hN, h⟩ := h
  refine ⟨hN, ?_⟩
  rcases h with h | ⟨h0, g, p, c, rfl, hnc, hg, hc⟩
  · exact .inl h
  · exact .inr ⟨h0, g, p, c, rfl, hnc, Nat.lt_of_lt_of_le hg hb.size, fun i hi => (hb.cell (p := ⟨g, p + i, none⟩) hg).trans (hc i hi)⟩

theorem Int_SetBytes_any (b o n V : Nat) (s : Value) (cz : Array Value) (tz : Nat) (zn : Bool) (w : World) (hm : MagAt w s n V) (hn : n ≤ 16777216)
    (hz : w.heap[b]? = some (.cells cz tz (0, 0))) (z0 : cz[o]? = some (.bool zn)) (z1 : cz[o + 1]? = some (.slice none 0 0)) :
    Calls Tryz.prog 97 #[.pointer (some ⟨b, o, none⟩), s] w fun e w' => e = .returned (.pointer (some ⟨b, o, none⟩)) ∧ ∃ m, Nw m V ∧ m ≤ 16777216 ∧ IntSet b o cz tz false m V w w' := by
  obtain ⟨hN, hm⟩ := hm
  rcases hm with ⟨rfl, a, c, rfl⟩ | ⟨h0, g, p, c, rfl, hnc, hg, hc⟩
  · obtain rfl : V = 0 := hN.zero_iff.1 rfl
    refine (Int_SetBytes_zero b o c a cz tz zn w hz z0 z1).mono ?_
    rintro e w' ⟨rfl, h⟩
    exact ⟨rfl, 0, ⟨by simp, fun h => absurd h (by omega)⟩, by omega, h⟩
  · have hV0 : 0 < V := by
      rcases Nat.eq_zero_or_pos V with h | h
      · have := hN.zero_iff.2 h; omega
      · exact h
    exact Int_SetBytes_some b o g p c n V cz tz zn w hN.1 h0 hn hnc hg hz z0 z1 hV0 hc

theorem IntSet.shape {b o tz n V : Nat} {cz : Array Value} {neg : Bool} {w w' : World} (h : IntSet b o cz tz neg n V w w') : ∃ a c, w'.heap[b]? = some (.cells ((cz.setIfInBounds (o + 1) (.slice a n c)).setIfInBounds o (.bool neg)) tz (0, 0)) ∧ (0 < n → ∃ g, a = some ⟨g, 0, none⟩ ∧ w.heap.size ≤ g) := by
  obtain ⟨s, hnew, hch, hh⟩ := h
  rcases hnew with ⟨rfl, _, rfl⟩ | ⟨h0, hV, g, c, f, rfl, hg, _⟩
  · exact ⟨none, 0, hh, fun h => absurd h (by omega)⟩
  · exact ⟨_, c, hh, fun _ => ⟨g, rfl, hg⟩⟩
/-- storing a starlark integer into its two-cell variable R, below what it points to -/
theorem res_int {w w5 : World} {R T : Nat} {base : Nat} {z : Int} {p : Option Addr} {neg : Bool} {V : Nat} (hb : Below w.heap.size w w5) (hR : w.heap.size ≤ R) (hRb : R < base) (hI : IntIs w5 base (.agg #[.int .i64 z, .pointer p]) neg V) :
    IntIs ((w5.setCell ⟨R, 0, none⟩ (.int .i64 z)).setCell ⟨R, 1, none⟩ (.pointer p)) w.heap.size (.agg #[.int .i64 z, .pointer p]) neg V ∧ Below w.heap.size w ((w5.setCell ⟨R, 0, none⟩ (.int .i64 z)).setCell ⟨R, 1, none⟩ (.pointer p)) :=
  ⟨((hI.far hRb _).far hRb _).base_le (by omega), (hb.setCell hR _).setCell hR _⟩

theorem whole_any (k : Int) (neg : Bool) (s : Value) (bits : Int) (text : ByteArray) (kids : Value) (n V : Nat) (w : World) (hm : MagAt w s n V) (hn : n ≤ 16777216) (hneg : neg = true → 0 < V) (hone : s.oneCell' = true) (hkone : kids.oneCell' = true) :
    Calls Tryz.prog 81 #[.agg #[.int .i64 k, .bool neg, s, .int .u64 bits, .string text, kids]] w fun e w' => ∃ v, e = .returned v ∧ IntIs w' w.heap.size v neg V ∧ Below w.heap.size w w' := by
  have HM := Lib.hid hm; clear hm
  go_enter Tryz.func81, Tryz.ntmps81
  go_wp2_with fail
  have hb3 : Below w.heap.size w (((w.alloc (Obj.cells #[Value.int IntKind.i64 k, Value.bool neg, s, Value.int IntKind.u64 bits, Value.string text, kids] 32)).alloc (Obj.cells #[Value.int IntKind.i64 0, Value.pointer none] 110)).alloc (Obj.cells #[Value.bool false, Value.slice none 0 0] 212)) := (((Below.refl _ _).alloc (Nat.le_refl _) _).alloc (by simp) _).alloc (by simp; omega) _
  have hB : (((w.alloc (Obj.cells #[Value.int IntKind.i64 k, Value.bool neg, s, Value.int IntKind.u64 bits, Value.string text, kids] 32)).alloc (Obj.cells #[Value.int IntKind.i64 0, Value.pointer none] 110)).alloc (Obj.cells #[Value.bool false, Value.slice none 0 0] 212)).heap[w.heap.size]? = some (Obj.cells #[Value.int IntKind.i64 k, Value.bool neg, s, Value.int IntKind.u64 bits, Value.string text, kids] 32 (0, 0)) :=
    (Below.heap_alloc _ _ _ (by simp; omega)).trans ((Below.heap_alloc _ _ _ (by simp)).trans (heap_alloc_new w _))
  have hR : (((w.alloc (Obj.cells #[Value.int IntKind.i64 k, Value.bool neg, s, Value.int IntKind.u64 bits, Value.string text, kids] 32)).alloc (Obj.cells #[Value.int IntKind.i64 0, Value.pointer none] 110)).alloc (Obj.cells #[Value.bool false, Value.slice none 0 0] 212)).heap[w.heap.size + 1]? = some (Obj.cells #[Value.int IntKind.i64 0, Value.pointer none] 110 (0, 0)) :=
    (Below.heap_alloc _ _ _ (by simp)).trans (by have := heap_alloc_new (w.alloc (Obj.cells #[Value.int IntKind.i64 k, Value.bool neg, s, Value.int IntKind.u64 bits, Value.string text, kids] 32)) (Obj.cells #[Value.int IntKind.i64 0, Value.pointer none] 110); simpa using this)
  have hI : (((w.alloc (Obj.cells #[Value.int IntKind.i64 k, Value.bool neg, s, Value.int IntKind.u64 bits, Value.string text, kids] 32)).alloc (Obj.cells #[Value.int IntKind.i64 0, Value.pointer none] 110)).alloc (Obj.cells #[Value.bool false, Value.slice none 0 0] 212)).heap[w.heap.size + 1 + 1]? = some (Obj.cells #[Value.bool false, Value.slice none 0 0] 212 (0, 0)) := by
    have := heap_alloc_new ((w.alloc (Obj.cells #[Value.int IntKind.i64 k, Value.bool neg, s, Value.int IntKind.u64 bits, Value.string text, kids] 32)).alloc (Obj.cells #[Value.int IntKind.i64 0, Value.pointer none] 110)) (Obj.cells #[Value.bool false, Value.slice none 0 0] 212)
    simpa using this
  have hsz : (((w.alloc (Obj.cells #[Value.int IntKind.i64 k, Value.bool neg, s, Value.int IntKind.u64 bits, Value.string text, kids] 32)).alloc (Obj.cells #[Value.int IntKind.i64 0, Value.pointer none] 110)).alloc (Obj.cells #[Value.bool false, Value.slice none 0 0] 212)).heap.size = w.heap.size + 3 := by simp
  generalize (((w.alloc (Obj.cells #[Value.int IntKind.i64 k, Value.bool neg, s, Value.int IntKind.u64 bits, Value.string text, kids] 32)).alloc (Obj.cells #[Value.int IntKind.i64 0, Value.pointer none] 110)).alloc (Obj.cells #[Value.bool false, Value.slice none 0 0] 212)) = w3 at *
  refine (Int_SetBytes_any (w.heap.size + 1 + 1) 0 n V s _ _ false w3 (HM.out.below hb3) hn hI rfl rfl).mono ?_
  rintro e w4 ⟨rfl, m, hNm, hm24, hset⟩
  have hch := hset.choose_spec.2.1
  have hb4 : Below w.heap.size w w4 := Chg.below hb3 (by omega) hch (by omega)
  have hB4 := (hch.block (w.heap.size) (by omega) (by omega)).trans hB
  have hR4 := (hch.block (w.heap.size + 1) (by omega) (by omega)).trans hR
  have hobj := hset.obj hNm hm24 (by simp)
  obtain ⟨a, c, hsh, hag⟩ := hset.shape
  have nc : w4.cell? ⟨w.heap.size, 1, none⟩ = some (.bool neg) := (cell_of_row w4 _ 1 _ _ (0, 0) hB4).trans rfl
  have hsz4 : w.heap.size + 3 ≤ w4.heap.size := by have := hch.size; omega
  clear hB hR hI hB4
  have HSH := Lib.hid hsh; clear hsh
  have HSZ := Lib.hid hsz; clear hsz
  have HR4 := Lib.hid hR4; clear hR4
  have HNM := Lib.hid hNm; clear hNm
  clear hset hch
  cases neg
  · go_wp2_with fail
    refine (MakeBigInt_any _ _ m V false w4 hobj).mono ?_
    rintro e w5 ⟨v, rfl, hI5, hb5⟩
    obtain ⟨z, p, rfl⟩ := hI5.shape
    have hR5 := (hb5.block (w.heap.size + 1) (by omega)).trans HR4.out
    have c0 := (cell_of_row w5 _ 0 _ _ (0, 0) hR5).trans rfl
    have c1 := (cell_of_row w5 _ 1 _ _ (0, 0) hR5).trans rfl
    have f0 : w5.frozen? ⟨w.heap.size + 1, 0, none⟩ = false := by simp [World.frozen?, hR5]
    have f1 : w5.frozen? ⟨w.heap.size + 1, 1, none⟩ = false := by simp [World.frozen?, hR5]
    have HR5 := Lib.hid hR5; clear hR5
    have HI5 := Lib.hid hI5; clear hI5
    go_wp2
    have hW := set2 (x := .int .i64 z) (y := .pointer p) HR5.out
    have e0 := (cell_of_row _ _ 0 _ _ (0, 0) hW).trans rfl
    have e1 := (cell_of_row _ _ 1 _ _ (0, 0) hW).trans rfl
    have hfin := res_int (R := w.heap.size + 1) (T := 0) (hb4.trans (hb5.mono (by omega))) (by omega) (by omega) HI5.out
    exact bodyPost_ret (v := .agg #[.int .i64 z, .pointer p]) (by simp [results, Tryz.results81, go_sem, e0, e1]) rfl ⟨_, rfl, hfin.1, hfin.2⟩
  · have hV := hneg rfl
    have hm0 : 0 < m := by
      rcases Nat.eq_zero_or_pos m with h | h
      · have := HNM.out.zero_iff.1 h; omega
      · exact h
    obtain ⟨ga, rfl, hga⟩ := hag hm0
    have hobj2 := hobj.resign true (fun g p c ca ta h1 h2 _ => by
      rw [HSH.out] at h1
      injection h1 with h1
      injection h1 with h1
      subst h1
      simp [Array.getElem?_setIfInBounds] at h2
      have h9 := HSZ.out
      omega)
    have HO2 := Lib.hid hobj2; clear hobj2
    have HNEG := Lib.hid (Int_Neg_own (w.heap.size + 1 + 1) 0 m c _ _ _ false w4 HSH.out rfl rfl)
    have hd : (decide (0 < m) && !false) = true := by simp [hm0]
    rw [hd] at HNEG
    clear hd
    go_wp2_with fail
    refine HNEG.out.mono ?_
    rintro e w5 ⟨rfl, rfl⟩
    go_wp2_with fail
    refine (MakeBigInt_any _ _ m V true _ HO2.out).mono ?_
    rintro e w5 ⟨v, rfl, hI5, hb5⟩
    obtain ⟨z, p, rfl⟩ := hI5.shape
    have hsz5 : (w4.setCell ⟨w.heap.size + 1 + 1, 0, none⟩ (.bool true)).heap.size = w4.heap.size := by simp [World.setCell]
    have hR5 := (hb5.block (w.heap.size + 1) (by omega)).trans ((Below.heap_setCell w4 ⟨w.heap.size + 1 + 1, 0, none⟩ (.bool true) (w.heap.size + 1) (by simp)).trans HR4.out)
    have c0 := (cell_of_row w5 _ 0 _ _ (0, 0) hR5).trans rfl
    have c1 := (cell_of_row w5 _ 1 _ _ (0, 0) hR5).trans rfl
    have f0 : w5.frozen? ⟨w.heap.size + 1, 0, none⟩ = false := by simp [World.frozen?, hR5]
    have f1 : w5.frozen? ⟨w.heap.size + 1, 1, none⟩ = false := by simp [World.frozen?, hR5]
    have HR5 := Lib.hid hR5; clear hR5
    have HI5 := Lib.hid hI5; clear hI5
    have HSZ5 := Lib.hid hsz5; clear hsz5
    go_wp2
    have hW := set2 (x := .int .i64 z) (y := .pointer p) HR5.out
    have e0 := (cell_of_row _ _ 0 _ _ (0, 0) hW).trans rfl
    have e1 := (cell_of_row _ _ 1 _ _ (0, 0) hW).trans rfl
    have h9 := HSZ5.out
    have hfin := res_int (R := w.heap.size + 1) (T := 0) ((hb4.setCell (p := ⟨w.heap.size + 1 + 1, 0, none⟩) (by simp; omega) (.bool true)).trans (hb5.mono (by omega))) (by omega) (by omega) HI5.out
    exact bodyPost_ret (v := .agg #[.int .i64 z, .pointer p]) (by simp [results, Tryz.results81, go_sem, e0, e1]) rfl ⟨_, rfl, hfin.1, hfin.2⟩

end Go.Proofs.YtpcleebnfgnhdaaGreatDoor

import Derived.Test.YtpcleebnfgnhdaaGreatDoorGz4
import Derived.Test.YtpcleebnfgnhdaaGreatDoorGz1
import Derived.Laws.AppendOwn
import Derived.Stop.Asserts
/- Walks: impl.number: a given value out of an integer of the program. -/
set_option linter.unusedVariables false
set_option linter.unusedSimpArgs false
namespace Go.Proofs.YtpcleebnfgnhdaaGreatDoor
open Go.RowKit
open Num

theorem belowN {B : Nat} {a w : World} (h : Below B a w) (n : Nat) : Below B a (w.drewN n) := ⟨h.os, h.tape, h.output, h.size, h.block⟩

theorem get_any (z : Int) (p : Option Addr) (w : World) :
    Calls Tryz.prog 90 #[.agg #[.int .i64 z, .pointer p]] w fun e w' => e = .returned (.tuple #[.int .i64 z, .pointer p]) ∧ Below w.heap.size w w' := by
  go_enter Tryz.func90, Tryz.ntmps90
  go_wp2
  go_quiet (fail)
  go_wp2
  go_ret2
  exact ⟨rfl, by first | exact (Below.refl _ _).alloc (Nat.le_refl _) _ | exact belowN ((Below.refl _ _).alloc (Nat.le_refl _) _) _⟩

theorem NewInt_zero (w : World) :
    Calls Tryz.prog 92 #[.int .i64 0] w fun e w' => e = .returned (.pointer (some ⟨w.heap.size, 0, none⟩)) ∧ w' = w.alloc (.cells #[.bool false, .slice none 0 0] 212) := by
  go_enter Tryz.func92, Tryz.ntmps92
  go_wp2
  go_ret
  exact ⟨rfl, rfl⟩
theorem NewInt_pos (V : Nat) (w : World) (h0 : 0 < V) (hV : V ≤ 9223372036854775807) :
    Calls Tryz.prog 92 #[.int .i64 (V : Int)] w fun e w' => e = .returned (.pointer (some ⟨w.heap.size + 1, 0, none⟩)) ∧ w' = (w.alloc (.cells #[.int .u64 (V : Int)] 246)).alloc (.cells #[.bool false, .slice (some ⟨w.heap.size, 0, none⟩) 1 1] 212) := by
  have e0 : ((V : Int) == 0) = false := by simp; omega
  have e1 : ¬ ((V : Int) < 0) := by omega
  go_enter Tryz.func92, Tryz.ntmps92
  go_wp2
  go_ret
  exact ⟨rfl, rfl⟩
theorem NewInt_neg (V : Nat) (w : World) (h0 : 0 < V) (hV : V ≤ 9223372036854775808) :
    Calls Tryz.prog 92 #[.int .i64 (-(V : Int))] w fun e w' => e = .returned (.pointer (some ⟨w.heap.size + 1, 0, none⟩)) ∧ w' = (w.alloc (.cells #[.int .u64 (V : Int)] 246)).alloc (.cells #[.bool true, .slice (some ⟨w.heap.size, 0, none⟩) 1 1] 212) := by
  have e0 : ((-(V : Int)) == 0) = false := by simp; omega
  have e1 : (-(V : Int)) < 0 := by omega
  have e2 : IntKind.u64.wrap (-(IntKind.u64.wrap (-(V : Int)))) = (V : Int) := by
    simp only [IntKind.wrap_u64]; omega
  have e3 : IntKind.u64.wrap (-(V : Int)) = 18446744073709551616 - (V : Int) := by
    simp only [IntKind.wrap_u64]; omega
  clear e3
  go_enter Tryz.func92, Tryz.ntmps92
  go_wp2
  go_ret
  exact ⟨rfl, rfl⟩

theorem Sign_any (b o n c : Nat) (a : Option Addr) (neg : Bool) (w : World) (x0 : w.cell? ⟨b, o, none⟩ = some (.bool neg)) (x1 : w.cell? ⟨b, o + 1, none⟩ = some (.slice a n c)) :
    Calls Tryz.prog 71 #[.pointer (some ⟨b, o, none⟩)] w fun e w' => e = .returned (.int .i64 (if n = 0 then 0 else if neg then -1 else 1)) ∧ w = w' := by
  by_cases hn : n = 0
  · subst hn
    go_enter Tryz.func71, Tryz.ntmps71
    go_wp2
    go_ret
    exact ⟨rfl, rfl⟩
  · have e0 : ((n : Int) == 0) = false := by simp; omega
    cases neg
    all_goals
      go_enter Tryz.func71, Tryz.ntmps71
      go_wp2
      go_ret
      exact ⟨by simp [hn], rfl⟩

theorem sm_bound {neg : Bool} {V : Nat} (h : sm neg V = true) : V ≤ 2147483648 := by
  cases neg <;> simp [sm] at h <;> omega
theorem nw_one {V : Nat} (h0 : 0 < V) (hV : V ≤ 9223372036854775808) : Nw 1 V := ⟨by simp; omega, fun _ => by simp; omega⟩
theorem wd_zero_small {V : Nat} (hV : V ≤ 9223372036854775808) : wd V 0 = V := by unfold wd; simp; omega
/-- an integer of one word, made anew -/
theorem obj_one {w : World} {V : Nat} {neg : Bool} (h0 : 0 < V) (hV : V ≤ 9223372036854775808) :
    IntObj ((w.alloc (.cells #[.int .u64 (V : Int)] 246)).alloc (.cells #[.bool neg, .slice (some ⟨w.heap.size, 0, none⟩) 1 1] 212)) (w.heap.size + 1) 0 neg 1 V := by
  refine ⟨#[.bool neg, .slice (some ⟨w.heap.size, 0, none⟩) 1 1], 212, _, ?_, rfl, rfl, nw_one h0 hV, by omega, .inr ⟨by omega, w.heap.size, 0, 1, rfl, by simp; omega, fun i hi => ?_⟩⟩
  · have := heap_alloc_new (w.alloc (.cells #[.int .u64 (V : Int)] 246)) (.cells #[.bool neg, .slice (some ⟨w.heap.size, 0, none⟩) 1 1] 212)
    simpa using this
  · obtain rfl : i = 0 := by omega
    have h := (Below.heap_alloc (w.alloc (.cells #[.int .u64 (V : Int)] 246)) (.cells #[.bool neg, .slice (some ⟨w.heap.size, 0, none⟩) 1 1] 212) w.heap.size (by simp)).trans (heap_alloc_new w _)
    rw [cell_of_row _ _ 0 _ _ (0, 0) h, wd_zero_small hV]; rfl

/-- BigInt: an object of its own that holds the integer -/
theorem BigInt_any (base : Nat) (v : Value) (neg : Bool) (V : Nat) (w : World) (h : IntIs w base v neg V) (hneg : neg = true → 0 < V) :
    Calls Tryz.prog 70 #[v] w fun e w' => ∃ b n a c, e = .returned (.pointer (some ⟨b, 0, none⟩)) ∧ w.heap.size ≤ b ∧ IntObj w' b 0 neg n V ∧ w'.heap[b]? = some (.cells #[.bool neg, .slice a n c] 212 (0, 0)) ∧ Below w.heap.size w w' := by
  rcases h with ⟨hs, rfl⟩ | ⟨hs, b, s, n, g, c, f, rfl, hbb, hh, h0, hN, hn, rfl, hg, hnc, hc, hr, hf⟩
  · have hV := sm_bound hs
    obtain ⟨z, hz⟩ : ∃ z : Int, z = (if neg then -(V : Int) else (V : Int)) := ⟨_, rfl⟩
    have HZ := Lib.hid hz
    rw [← hz]
    have HG := Lib.hid (fun W => get_any z none W)
    clear hz hs
    go_enter Tryz.func70, Tryz.ntmps70
    go_wp2_with fail
    refine (HG.out _).mono ?_
    rintro e w2 ⟨rfl, hb2⟩
    have hb : Below w.heap.size w w2 := ((Below.refl _ _).alloc (Nat.le_refl _) _).trans (hb2.mono (by simp))
    clear hb2
    go_wp2_with fail
    by_cases hV0 : V = 0
    · subst hV0
      have hn0 : neg = false := by cases neg; rfl; exact absurd (hneg rfl) (by omega)
      subst hn0
      have hz0 : z = 0 := by have := HZ.out; simpa using this
      subst hz0
      refine (NewInt_zero w2).mono ?_
      rintro e w3 ⟨rfl, rfl⟩
      go_wp2
      go_ret
      refine ⟨w2.heap.size, 0, none, 0, rfl, hb.size, ⟨_, _, _, heap_alloc_new w2 _, rfl, rfl, ⟨by simp, fun h => absurd h (by omega)⟩, by omega, .inl ⟨rfl, _, _, rfl⟩⟩, heap_alloc_new w2 _, hb.alloc hb.size _⟩
    · cases neg
      · have hz0 : z = (V : Int) := by have := HZ.out; simpa using this
        subst hz0
        refine (NewInt_pos V w2 (by omega) (by omega)).mono ?_
        rintro e w3 ⟨rfl, rfl⟩
        have HO := Lib.hid (obj_one (w := w2) (V := V) (neg := false) (by omega) (by omega))
        go_wp2
        go_ret
        exact ⟨w2.heap.size + 1, 1, _, 1, rfl, by have := hb.size; omega, HO.out, by have := heap_alloc_new (w2.alloc (.cells #[.int .u64 (V : Int)] 246)) (.cells #[.bool false, .slice (some ⟨w2.heap.size, 0, none⟩) 1 1] 212); simpa using this, (hb.alloc hb.size _).alloc (by have := hb.size; simp; omega) _⟩
      · have hz0 : z = -(V : Int) := by have := HZ.out; simpa using this
        subst hz0
        refine (NewInt_neg V w2 (by omega) (by omega)).mono ?_
        rintro e w3 ⟨rfl, rfl⟩
        have HO := Lib.hid (obj_one (w := w2) (V := V) (neg := true) (by omega) (by omega))
        go_wp2
        go_ret
        exact ⟨w2.heap.size + 1, 1, _, 1, rfl, by have := hb.size; omega, HO.out, by have := heap_alloc_new (w2.alloc (.cells #[.int .u64 (V : Int)] 246)) (.cells #[.bool true, .slice (some ⟨w2.heap.size, 0, none⟩) 1 1] 212); simpa using this, (hb.alloc hb.size _).alloc (by have := hb.size; simp; omega) _⟩
  · have HG := Lib.hid (fun W => get_any 0 (some ⟨b, 0, none⟩) W)
    have HH := Lib.hid hh
    have hbl := (Array.getElem?_eq_some_iff.1 hh).1
    have hgl := hr.lt
    have HR := Lib.hid hr; clear hr
    have HF := Lib.hid hf; clear hf
    have HN := Lib.hid hN; clear hN
    clear hs hh
    go_enter Tryz.func70, Tryz.ntmps70
    go_wp2_with fail
    refine (HG.out _).mono ?_
    rintro e w2 ⟨rfl, hb2⟩
    have hb : Below w.heap.size w w2 := ((Below.refl _ _).alloc (Nat.le_refl _) _).trans (hb2.mono (by simp))
    clear hb2
    have HSET := Lib.hid (Int_Set_some w2.heap.size 0 b 0 g 0 c n V #[.bool false, .slice none 0 0] _ 212 _ false neg (w2.alloc (.cells #[.bool false, .slice none 0 0] 212)) HN.out.1 h0 (by omega) (by have := hb.size; simp; omega)
      (heap_alloc_new w2 _) ((Below.heap_alloc _ _ _ (by have := hb.size; omega)).trans ((hb.block b hbl).trans HH.out)) rfl rfl rfl rfl (by have := hb.size; omega)
      (fun i hi => by
        rw [World.cell?_of_block (w := w2) (a := ⟨g, 0 + i, none⟩) (Below.heap_alloc w2 _ g (by have := hb.size; omega)), hb.cell (p := ⟨g, 0 + i, none⟩) hgl, Nat.zero_add, HR.out.cell (by omega), HF.out i hi]))
    go_wp2_with fail
    refine HSET.out.mono ?_
    rintro e w3 ⟨rfl, hset⟩
    have HS3 := Lib.hid hset; clear hset
    go_wp2
    go_ret
    obtain ⟨a', c', hsh, _⟩ := HS3.out.shape
    have hch := HS3.out.choose_spec.2.1
    refine ⟨w2.heap.size, n, a', c', rfl, hb.size, HS3.out.obj HN.out hn (by simp), hsh, Chg.below (hb.alloc hb.size _) (by have := hb.size; simp; omega) hch hb.size⟩

end Go.Proofs.YtpcleebnfgnhdaaGreatDoor

/- Walks: *Int's Bytes; impl.number. -/
set_option linter.unusedVariables false
set_option linter.unusedSimpArgs false
namespace Go.Proofs.YtpcleebnfgnhdaaGreatDoor
open Go.RowKit
open Num

theorem u8Info : (Tryz.prog.info? 5).map (fun i => (i.zero, i.size, i.bytes)) = some (some (.int .u8 0), 1, 1) := by kernel_rfl
theorem bytesUnder : Tryz.prog.underlying 28 = some (.slice 5) := by kernel_rfl
theorem run_make_bytes (c : Nat) (hc : c ≤ 281474976710656) : ∀ W : World, (Instr.makeSlice 28 (.int .i64 (c : Int)) (.int .i64 (c : Int))).run Tryz.prog W =
    .ok (.slice (some ⟨W.heap.size, 0, none⟩) c c) (W.alloc (.cells (madeCells #[.int .u8 0] c) 5)) := by
  intro W
  obtain ⟨i0, hi, hzz⟩ := Option.map_eq_some_iff.1 u8Info
  simp only [Prod.mk.injEq] at hzz
  obtain ⟨hz0, hz1, hz2⟩ := hzz
  have h := run_make (P := Tryz.prog) W 28 5 i0 (.int .u8 0) bytesUnder hi hz0 .i64 .i64 (c : Int) (c : Int) (by omega) (by omega) (by rw [hz2]; omega) (by omega)
  simp only [Int.toNat_natCast, hz1, Nat.mul_one] at h
  exact h

theorem bytes_zero (a b : Option Addr) (c d : Nat) (w : World) :
    Calls Tryz.prog 93 #[.slice a 0 c, .slice b 0 d] w fun e w' => e = .returned (.int .i64 0) ∧ w = w' := by
  go_enter Tryz.func93, Tryz.ntmps93
  go_wp2_with fail
  refine wp_loop_rounds 1 ?_
  rw [rounds_succ]
  go_wp2_with fail
  refine wp_loop_rounds 1 ?_
  rw [rounds_succ]
  go_wp2
  go_ret
  exact ⟨rfl, rfl⟩

theorem Int_Bytes_any (b o n V : Nat) (neg : Bool) (w : World) (h : IntObj w b o neg n V) :
    Calls Tryz.prog 72 #[.pointer (some ⟨b, o, none⟩)] w fun e w' => ∃ s m, e = .returned s ∧ MagAt w' s m V ∧ (∀ a k c, s = .slice (some a) k c → w.heap.size ≤ a.block) ∧ m ≤ 8 * n ∧ Below w.heap.size w w' := by
  obtain ⟨ca, ta, s, hx, x0, x1, hN, hn, hs⟩ := h
  have hx1 : w.cell? ⟨b, o + 1, none⟩ = some s := (cell_of_row w b (o + 1) ca ta (0, 0) hx).trans x1
  have hbl := (Array.getElem?_eq_some_iff.1 hx).1
  clear hx x0 x1
  rcases hs with ⟨rfl, a, c, rfl⟩ | ⟨h0, g, p, c, rfl, hg, hc⟩
  · obtain rfl : V = 0 := hN.zero_iff.1 rfl
    have hmk : ∀ W : World, (Instr.makeSlice 28 (.int .i64 0) (.int .i64 0)).run Tryz.prog W = .ok (.slice (some ⟨W.heap.size, 0, none⟩) 0 0) (W.alloc (.cells (madeCells #[.int .u8 0] 0) 5)) := run_make_bytes 0 (by omega)
    clear hN
    have HB := Lib.hid (fun W => bytes_zero a (some ⟨w.heap.size, 0, none⟩) c 0 W)
    have HXA := Lib.hid (fun O => (World.cell?_of_block (w := w) (a := ⟨b, o + 1, none⟩) (Below.heap_alloc w O b hbl)).trans hx1)
    go_enter Tryz.func72, Tryz.ntmps72
    go_wp2_with fail
    refine (HB.out _).mono ?_
    rintro e w' ⟨rfl, rfl⟩
    go_wp2
    go_ret
    exact ⟨_, 0, rfl, ⟨⟨by simp, fun h => absurd h (by omega)⟩, .inl ⟨rfl, _, _, rfl⟩⟩, (fun a k c h => by injection h with h; injection h with h; subst h; exact Nat.le_refl _), by omega, (Below.refl _ _).alloc (Nat.le_refl _) _⟩
  · have hmk := run_make_bytes (8 * n) (by omega)
    have e8 : ((8 * n : Nat) : Int) = (n : Int) * 8 := by omega
    rw [e8] at hmk
    clear e8
    have HN := Lib.hid hN; clear hN
    have HC := Lib.hid hc; clear hc
    go_enter Tryz.func72, Tryz.ntmps72
    have hrow := Row.made w 5 (8 * n) (.int .u8 0)
    have hb1 : Below w.heap.size w (w.alloc (.cells (madeCells #[.int .u8 0] (8 * n)) 5)) := (Below.refl _ _).alloc (Nat.le_refl _) _
    have HB := Lib.hid (bytes_some w.heap.size (8 * n) g p c n V _ _ hrow (by omega) (Nat.lt_of_lt_of_le hg hb1.size) hn HN.out.1 (fun i hi => (hb1.cell (p := ⟨g, p + i, none⟩) hg).trans (HC.out i hi)))
    clear hrow
    go_wp2_with fail
    refine HB.out.mono ?_
    rintro e w' ⟨r, f', hr, hNb, rfl, hrow, hf, hch, hsz⟩
    have hb2 : Below w.heap.size w w' := Chg.below hb1 hb1.size hch (Nat.le_refl _)
    have HROW := Lib.hid hrow; clear hrow
    have HF := Lib.hid hf; clear hf
    have HNB := Lib.hid hNb; clear hNb
    have HCH := Lib.hid hch; clear hch
    clear hsz
    by_cases hr8 : 8 * n = r
    · go_wp2
      go_ret
      have hV0 : V = 0 := HNB.out.zero_iff.1 (by omega)
      exact ⟨_, 8 * n - r, rfl, ⟨HNB.out, .inl ⟨by omega, _, _, by first | rfl | (rw [show 8 * n - r = 0 by omega])⟩⟩, (fun a k c h => by injection h with h; injection h with h; subst h; exact Nat.le_refl _), by omega, hb2⟩
    · go_wp2
      go_ret
      exact ⟨_, 8 * n - r, rfl, ⟨HNB.out, .inr ⟨by omega, w.heap.size, r, 8 * n - r, rfl, Nat.le_refl _, HROW.out.lt, fun i hi => by
        rw [HROW.out.cell (by omega), HF.out _ (by omega), show 8 * n - 1 - (r + i) = 8 * n - r - 1 - i by omega]⟩⟩, (fun a k c h => by injection h with h; injection h with h; subst h; exact Nat.le_refl _), by omega, hb2⟩


theorem IntObj.cells {w : World} {b n V : Nat} {neg : Bool} {a : Option Addr} {c : Nat} {T : Nat} (h : w.heap[b]? = some (.cells #[.bool neg, .slice a n c] T (0, 0))) : w.cell? ⟨b, 0, none⟩ = some (.bool neg) ∧ w.cell? ⟨b, 1, none⟩ = some (.slice a n c) :=
  ⟨(cell_of_row w _ 0 _ _ (0, 0) h).trans rfl, (cell_of_row w _ 1 _ _ (0, 0) h).trans rfl⟩

theorem MagAt.shape {w : World} {s : Value} {n V : Nat} (h : MagAt w s n V) : ∃ a c, s = .slice a n c := by
  rcases h.2 with ⟨rfl, a, c, rfl⟩ | ⟨_, g, p, c, rfl, _⟩
  · exact ⟨a, c, rfl⟩
  · exact ⟨_, c, rfl⟩
theorem MagAt.far {w : World} {s : Value} {n V : Nat} (h : MagAt w s n V) {p : Addr} (hne : ∀ a k c, s = .slice (some a) k c → a.block ≠ p.block) (u : Value) : MagAt (w.setCell p u) s n V := by
  refine ⟨h.1, ?_⟩
  rcases h.2 with h2 | ⟨h0, g, o, c, rfl, hnc, hg, hc⟩
  · exact .inl h2
  · have hgp : g ≠ p.block := hne ⟨g, o, none⟩ n c rfl
    exact .inr ⟨h0, g, o, c, rfl, hnc, by simpa [World.setCell] using hg, fun i hi => (World.cell?_of_block (w := w) (a := ⟨g, o + i, none⟩) (Below.heap_setCell w p u g hgp)).trans (hc i hi)⟩
theorem set1 {w3 : World} {B T i : Nat} {cs : Array Value} {x : Value} (h : w3.heap[B]? = some (.cells cs T (0, 0))) : (w3.setCell ⟨B, i, none⟩ x).heap[B]? = some (.cells (cs.setIfInBounds i x) T (0, 0)) := by
  simp only [World.setCell, Array.getElem?_modify, if_true, h, Option.map_some]; rfl

theorem number_any (base : Nat) (v : Value) (neg : Bool) (V : Nat) (w : World) (h : IntIs w base v neg V) (hneg : neg = true → 0 < V) :
    Calls Tryz.prog 47 #[v] w fun e w' => ∃ s m, e = .returned (.agg #[.int .i64 2, .bool neg, s, .int .u64 0, .string ⟨#[]⟩, .slice none 0 0]) ∧ MagAt w' s m V ∧ m ≤ 134217728 ∧ (∀ a k c, s = .slice (some a) k c → w.heap.size ≤ a.block) ∧ Below w.heap.size w w' := by
  obtain ⟨z, p, rfl⟩ := h.shape
  have hb1 : Below w.heap.size w ((w.alloc (.cells #[.int .i64 z, .pointer p] 110)).alloc (.cells #[.int .i64 0, .bool false, .slice none 0 0, .int .u64 0, .string ⟨#[]⟩, .slice none 0 0] 32)) := ((Below.refl _ _).alloc (Nat.le_refl _) _).alloc (by simp) _
  have HB := Lib.hid (BigInt_any base _ neg V _ (h.below hb1) hneg)
  clear h
  go_enter Tryz.func47, Tryz.ntmps47
  go_wp2_with fail
  refine HB.out.mono ?_
  rintro e w2 ⟨b, n, a, c, rfl, hbb, hobj, hh, hb2⟩
  have hb3 : Below w.heap.size w w2 := hb1.trans (hb2.mono (by simp; omega))
  have hR : w2.heap[w.heap.size + 1]? = some (.cells #[.int .i64 0, .bool false, .slice none 0 0, .int .u64 0, .string ⟨#[]⟩, .slice none 0 0] 32 (0, 0)) := (hb2.block _ (by simp)).trans (by have := heap_alloc_new (w.alloc (.cells #[.int .i64 z, .pointer p] 110)) (.cells #[.int .i64 0, .bool false, .slice none 0 0, .int .u64 0, .string ⟨#[]⟩, .slice none 0 0] 32); simpa using this)
  obtain ⟨x0, x1⟩ := IntObj.cells (n := n) (V := V) hh
  have hsz2 : w.heap.size + 2 ≤ w2.heap.size := by have := hb2.size; simpa using this
  have hn24 : n ≤ 16777216 := by obtain ⟨_, _, _, _, _, _, _, h, _⟩ := hobj; exact h
  have hsg : ((if n = 0 then (0 : Int) else if neg then -1 else 1) < 0) = (neg = true) := by
    have hN : Nw n V := by obtain ⟨_, _, _, _, _, _, h, _⟩ := hobj; exact h
    by_cases hn : n = 0
    · have hV := hN.zero_iff.1 hn
      cases neg
      · simp [hn]
      · exact absurd (hneg rfl) (by omega)
    · cases neg <;> simp [hn]
  have HSN' := Sign_any b 0 n c a neg w2 x0 x1
  obtain ⟨sg, hsge⟩ : ∃ sg : Int, sg = (if n = 0 then (0 : Int) else if neg then -1 else 1) := ⟨_, rfl⟩
  rw [← hsge] at HSN' hsg
  have HSN := Lib.hid HSN'
  have hd : decide (sg < 0) = neg := by cases neg <;> simp [hsg] <;> simpa using hsg
  have HBY := Lib.hid (Int_Bytes_any b 0 n V neg w2 hobj)
  have HRR := Lib.hid hR
  clear hobj hh hb1 hb2 hR HSN' hsge hsg
  go_wp2_with fail
  refine HSN.out.mono ?_
  rintro e w3 ⟨rfl, rfl⟩
  go_wp2_with fail
  refine HBY.out.mono ?_
  rintro e w3 ⟨s, m, rfl, hmag, hnew, hm8, hb4⟩
  have hR3 := (hb4.block (w.heap.size + 1) (by omega)).trans HRR.out
  have hb5 : Below w.heap.size w w3 := hb3.trans (hb4.mono (by omega))
  obtain ⟨sa, sc, rfl⟩ := hmag.shape
  have c0 := (cell_of_row w3 _ 0 _ _ (0, 0) hR3).trans rfl
  have c1 := (cell_of_row w3 _ 1 _ _ (0, 0) hR3).trans rfl
  have c2 := (cell_of_row w3 _ 2 _ _ (0, 0) hR3).trans rfl
  have c3 := (cell_of_row w3 _ 3 _ _ (0, 0) hR3).trans rfl
  have c4 := (cell_of_row w3 _ 4 _ _ (0, 0) hR3).trans rfl
  have c5 := (cell_of_row w3 _ 5 _ _ (0, 0) hR3).trans rfl
  have f0 : ∀ i, w3.frozen? ⟨w.heap.size + 1, i, none⟩ = false := fun i => by simp [World.frozen?, hR3]
  have HM := Lib.hid hmag; clear hmag
  have HNEW := Lib.hid hnew; clear hnew
  have HR3 := Lib.hid hR3; clear hR3
  clear hb4
  go_wp2
  have hW := set1 (i := 5) (x := .slice none 0 0) (set1 (i := 4) (x := .string ⟨#[]⟩) (set1 (i := 3) (x := .int .u64 0) (set1 (i := 2) (x := .slice sa m sc) (set1 (i := 1) (x := .bool neg) (set1 (i := 0) (x := .int .i64 2) HR3.out)))))
  have e0 := (cell_of_row _ _ 0 _ _ (0, 0) hW).trans rfl
  have e1 := (cell_of_row _ _ 1 _ _ (0, 0) hW).trans rfl
  have e2 := (cell_of_row _ _ 2 _ _ (0, 0) hW).trans rfl
  have e3 := (cell_of_row _ _ 3 _ _ (0, 0) hW).trans rfl
  have e4 := (cell_of_row _ _ 4 _ _ (0, 0) hW).trans rfl
  have e5 := (cell_of_row _ _ 5 _ _ (0, 0) hW).trans rfl
  have hne : ∀ a k c, Value.slice sa m sc = .slice (some a) k c → a.block ≠ w.heap.size + 1 := fun a k c h => by have := HNEW.out a k c h; omega
  refine bodyPost_ret (v := .agg #[.int .i64 2, .bool neg, .slice sa m sc, .int .u64 0, .string ⟨#[]⟩, .slice none 0 0]) (by simp [results, Tryz.results47, go_sem, e0, e1, e2, e3, e4, e5]) rfl ⟨_, m, rfl, ?_, by omega, (fun a k c h => by have := HNEW.out a k c h; omega), ?_⟩
  · exact (((((HM.out.far hne _).far hne _).far hne _).far hne _).far hne _).far hne _
  · exact (((((hb5.setCell (by simp) _).setCell (by simp) _).setCell (by simp) _).setCell (by simp) _).setCell (by simp) _).setCell (by simp) _

end Go.Proofs.YtpcleebnfgnhdaaGreatDoor

/- append onto an empty slice that is not nil: a fresh row. No program in sight. -/
set_option linter.unusedVariables false
set_option linter.unusedSimpArgs false
namespace Go.Proofs.YtpcleebnfgnhdaaGreatDoor
open Go.RowKit
open Num

theorem below_drewN {B n : Nat} {w w' : World} (h : Below B w w') : Below B w (w'.drewN n) := ⟨h.os, h.tape, h.output, h.size, h.block⟩
theorem heap2_0 (w : World) (A B : Obj) : ((w.alloc A).alloc B).heap[w.heap.size]? = some A := (heap_alloc_old _ _ (by simp)).trans (heap_alloc_new w A)
theorem heap2_1 (w : World) (A B : Obj) : ((w.alloc A).alloc B).heap[w.heap.size + 1]? = some B := by have := heap_alloc_new (w.alloc A) B; simpa using this
theorem heap3_0 (w : World) (A B C : Obj) : (((w.alloc A).alloc B).alloc C).heap[w.heap.size]? = some A := (heap_alloc_old _ _ (by simp; omega)).trans (heap2_0 w A B)
theorem heap3_1 (w : World) (A B C : Obj) : (((w.alloc A).alloc B).alloc C).heap[w.heap.size + 1]? = some B := (heap_alloc_old _ _ (by simp)).trans (heap2_1 w A B)
theorem heap3_2 (w : World) (A B C : Obj) : (((w.alloc A).alloc B).alloc C).heap[w.heap.size + 2]? = some C := by have := heap_alloc_new ((w.alloc A).alloc B) C; simpa using this

/-- v is a slice of m cells, in a block that is new since w, with the cells src -/
def Fresh (w w' : World) (v : Value) (m : Nat) (src : Nat → Value) (T : TypeId) : Prop :=
  Below w.heap.size w w' ∧ ((m = 0 ∧ ∃ a c, v = .slice a 0 c) ∨ (0 < m ∧ ∃ c N f, v = .slice (some ⟨w.heap.size, 0, none⟩) m c ∧ m ≤ c ∧ m ≤ N ∧ Row w' w.heap.size T N f ∧ ∀ j, j < m → f j = src j))

theorem Fresh.shape {w w' : World} {v : Value} {m : Nat} {src : Nat → Value} {T : TypeId} (h : Fresh w w' v m src T) : ∃ a c, v = .slice a m c := by
  rcases h.2 with ⟨rfl, a, c, rfl⟩ | ⟨h0, c, N, f, rfl, _⟩
  · exact ⟨a, c, rfl⟩
  · exact ⟨_, c, rfl⟩

theorem Fresh.new {w w' : World} {v : Value} {m : Nat} {src : Nat → Value} {T : TypeId} (h : Fresh w w' v m src T) : ∀ a k c, v = .slice (some a) k c → 0 < m → a.block = w.heap.size := by
  intro a k c e h0
  rcases h.2 with ⟨rfl, _⟩ | ⟨_, c, N, f, rfl, _⟩
  · omega
  · injection e with e; injection e with e; subst e; rfl

theorem run_append_fresh {P : Program} {w : World} (t ty : TypeId) (e : TypeId) (z : Value) (ht : P.underlying t = some (.slice e)) (hi : (P.info? e).map (fun i => (i.zero, i.size, i.bytes)) = some (some z, 1, 1)) (hz : z.cells = #[z])
    (B : Addr) (sp : Option Addr) (m c : Nat) (src : Nat → Value) (hm : m ≤ 1099511627776)
    (hsrc : 0 < m → ∃ ad, sp = some ad ∧ ∀ j, j < m → w.cell? (ad.add j) = some (src j)) :
    ∃ v' w', (Builtin.append_ #[t, t] ty #[.slice (some B) 0 0, .slice sp m c]).run P w = .ok v' w' ∧ Fresh w w' v' m src e := by
  obtain ⟨i, hi, hi2⟩ := Option.map_eq_some_iff.1 hi
  simp only [Prod.mk.injEq] at hi2
  obtain ⟨hz0, hsz, hby⟩ := hi2
  by_cases h0 : m = 0
  · subst h0
    refine ⟨.slice (some B) 0 0, w, ?_, Below.refl _ _, .inl ⟨rfl, _, _, rfl⟩⟩
    cases sp <;> simp [Builtin.append_, run_underlying ht, sizeOf, typeInfo, hi, Builtin.lenOf, Builtin.firstCells, loadCells, loadCellsFrom, storeCells]
  · obtain ⟨ad, rfl, hc⟩ := hsrc (by omega)
    have hr := run_append_grow (P := P) w t ty e i z ht hi hz0 B 0 0 [] (by simp) (by simp) ad m c ((List.range m).map src) (by simp [hsz]) (by
      intro j v hj
      simp only [List.getElem?_map, Option.map_eq_some_iff] at hj
      obtain ⟨q, hq, rfl⟩ := hj
      have hjm : j < m := by
        have := (List.getElem?_eq_some_iff.1 hq).1
        simpa using this
      rw [List.getElem?_range hjm] at hq
      injection hq with hq
      subst hq
      exact hc _ hjm) (by omega) (by omega) (growslice_fits (by omega) (by rw [hby]; omega))
    refine ⟨_, _, hr, ⟨rfl, rfl, rfl, by simp, fun k hk => heap_alloc_old w.drew _ hk⟩, .inr ⟨by omega, grownCap w (0 + m) 0 e, _, _, by rw [Nat.zero_add], ?_, ?_, Row.lit w.drew e _, fun j hj => ?_⟩⟩
    · have := grownCap_ge w (0 + m) 0 e
      omega
    · simp
    · have hj2 : j < ((List.range m).map src).length := by simpa using hj
      simp [Array.getD, hj, Array.getElem_append]
      intro hn
      omega

theorem wpList_append_fresh {P : Program} {w : World} {ops : Array Oper} {rest : List Oper} {o : Oper} {a : Act} {Q : Exit → Act → World → Prop} (hgd : o.guard = none) (s x : Operand) (t : TypeId)
    (ho : o.op = .call { callee := .builtin .append, args := #[s, x], argTypes := #[t, t] }) (e : TypeId) (z : Value) (ht : P.underlying t = some (.slice e)) (hi : (P.info? e).map (fun i => (i.zero, i.size, i.bytes)) = some (some z, 1, 1)) (hz : z.cells = #[z])
    (B : Addr) (hs : a.eval s = .slice (some B) 0 0) (sp : Option Addr) (m c : Nat) (hx : a.eval x = .slice sp m c) (src : Nat → Value) (hm : m ≤ 1099511627776)
    (hsrc : 0 < m → ∃ ad, sp = some ad ∧ ∀ j, j < m → w.cell? (ad.add j) = some (src j))
    (h : ∀ v' w', Hid (Fresh w w' v' m src e) → wpList P ops Q rest (a.put o.dst v') w') : wpList P ops Q (o :: rest) a w := by
  obtain ⟨v', w', hr, hf⟩ := run_append_fresh (P := P) (w := w) t o.type e z ht hi hz B sp m c src hm hsrc
  refine wpList_plain hgd fun K hK => ?_
  unfold Oper.wp execOp
  simp only [ho, resolve, invoke, builtin, Sem.run_bind, Sem.run_pure, Result.andThen_ok, List.map_toArray, List.map_cons, List.map_nil, hs, hx, hr]
  exact hK _ _ (h v' w' hf)

theorem step_append_fresh {P : Program} {w : World} {ops : Array Oper} {o : Oper} {a : Act} {K : Act → World → Prop} {Q : Exit → Act → World → Prop} {E : Prop} (hgd : o.guard = none) (s x : Operand) (t : TypeId)
    (ho : o.op = .call { callee := .builtin .append, args := #[s, x], argTypes := #[t, t] }) (e : TypeId) (z : Value) (ht : P.underlying t = some (.slice e)) (hi : (P.info? e).map (fun i => (i.zero, i.size, i.bytes)) = some (some z, 1, 1)) (hz : z.cells = #[z])
    (B : Addr) (hs : a.eval s = .slice (some B) 0 0) (sp : Option Addr) (m c : Nat) (hx : a.eval x = .slice sp m c) (src : Nat → Value) (hm : m ≤ 1099511627776)
    (hsrc : 0 < m → ∃ ad, sp = some ad ∧ ∀ j, j < m → w.cell? (ad.add j) = some (src j))
    (h : ∀ v' w', Hid (Fresh w w' v' m src e) → K (a.put o.dst v') w') :
    if Region.wanted o (yielded ops a.tmps) = true then Oper.wp P o a w K Q else E := by
  obtain ⟨v', w', hr, hf⟩ := run_append_fresh (P := P) (w := w) t o.type e z ht hi hz B sp m c src hm hsrc
  have hw : Region.wanted o (yielded ops a.tmps) = true := by simp [Region.wanted, hgd]
  rw [if_pos hw]
  unfold Oper.wp execOp
  simp only [ho, resolve, invoke, builtin, Sem.run_bind, Sem.run_pure, Result.andThen_ok, List.map_toArray, List.map_cons, List.map_nil, hs, hx, hr]
  exact h v' w' hf

end Go.Proofs.YtpcleebnfgnhdaaGreatDoor

/- Walks: spec.cut, spec.Of, laws.told, laws.whole. -/
set_option linter.unusedVariables false
set_option linter.unusedSimpArgs false
namespace Go.Proofs.YtpcleebnfgnhdaaGreatDoor
open Go.RowKit
open Num

/-- the slice s holds n bytes, the highest first, of V, leading zeros among them -/
def BytAt (w : World) (s : Value) (n V : Nat) : Prop :=
  V < 2 ^ (8 * n) ∧ ((n = 0 ∧ ∃ a c, s = .slice a 0 c) ∨ (0 < n ∧ ∃ g p c, s = .slice (some ⟨g, p, none⟩) n c ∧ n ≤ c ∧ g < w.heap.size ∧ ∀ i, i < n → w.cell? ⟨g, p + i, none⟩ = some (.int .u8 (dg V (n - 1 - i)))))
theorem MagAt.byt {w : World} {s : Value} {n V : Nat} (h : MagAt w s n V) : BytAt w s n V := ⟨h.1.1, h.2⟩
theorem u8InfoO : (Tryz.prog.info? 5).map (fun i => (i.zero, i.size, i.bytes)) = some (some (.int .u8 0), 1, 1) := u8Info

/-- what the spec's functions answer: a fresh magnitude -/
def NewMag (w w' : World) (s : Value) (m V : Nat) : Prop := MagAt w' s m V ∧ (∀ a k c, s = .slice (some a) k c → 0 < m → w.heap.size ≤ a.block) ∧ Below w.heap.size w w'
theorem Fresh.mag {w0 w w' : World} {v : Value} {m V : Nat} {src : Nat → Value} (h : Fresh w w' v m src 5) (hb0 : Below w0.heap.size w0 w) (hN : Nb m V) (hs : ∀ i, i < m → src i = .int .u8 (dg V (m - 1 - i))) : NewMag w0 w' v m V := by
  obtain ⟨hb, h⟩ := h
  have hb2 := hb0.trans (hb.mono hb0.size)
  rcases h with ⟨rfl, a, c, rfl⟩ | ⟨h0, c, N, f, rfl, hmc, hmN, hr, hf⟩
  · exact ⟨⟨hN, .inl ⟨rfl, a, c, rfl⟩⟩, fun _ _ _ _ h => absurd h (by omega), hb2⟩
  · refine ⟨⟨hN, .inr ⟨h0, _, 0, c, rfl, hmc, hr.lt, fun i hi => ?_⟩⟩, fun a k c e _ => ?_, hb2⟩
    · rw [Nat.zero_add, hr.cell (by omega), hf i hi, hs i hi]
    · injection e with e; injection e with e; subst e; exact hb0.size
theorem NewMag.from {w0 w w' : World} {s : Value} {m V : Nat} (h : NewMag w w' s m V) (hb : Below w0.heap.size w0 w) : NewMag w0 w' s m V :=
  ⟨h.1, fun a k c e h0 => Nat.le_trans hb.size (h.2.1 a k c e h0), hb.trans (h.2.2.mono hb.size)⟩

theorem NewMag.put {w w' : World} {s : Value} {m V : Nat} (h : NewMag w w' s m V) {B o : Nat} (hB : w.heap.size ≤ B) (hne : ∀ a k c, s = .slice (some a) k c → 0 < m → a.block ≠ B) (u : Value) : NewMag w (w'.setCell ⟨B, o, none⟩ u) s m V := by
  refine ⟨?_, h.2.1, h.2.2.setCell hB _⟩
  refine ⟨h.1.1, ?_⟩
  rcases h.1.2 with h2 | ⟨h0, g, q, c, rfl, hnc, hg, hc⟩
  · exact .inl h2
  · have hgp : g ≠ B := hne ⟨g, q, none⟩ m c rfl h0
    exact .inr ⟨h0, g, q, c, rfl, hnc, by simpa [World.setCell] using hg, fun i hi => (World.cell?_of_block (w := w') (a := ⟨g, q + i, none⟩) (Below.heap_setCell w' ⟨B, o, none⟩ u g hgp)).trans (hc i hi)⟩
theorem NewMag.on {w w' w2 : World} {s : Value} {m V : Nat} (h : NewMag w w' s m V) (hb : Below w'.heap.size w' w2) : NewMag w w2 s m V :=
  ⟨h.1.below hb, h.2.1, h.2.2.trans (hb.mono h.2.2.size)⟩

theorem cut_any (s : Value) (n V : Nat) (w : World) (h : BytAt w s n V) (hn : n ≤ 1099511627776) :
    Calls Tryz.prog 65 #[s] w fun e w' => ∃ s' m, e = .returned s' ∧ m ≤ n ∧ NewMag w w' s' m V := by
  obtain ⟨hV, h⟩ := h
  rcases h with ⟨rfl, a, c, rfl⟩ | ⟨h0, g, p, c, rfl, hnc, hg, hc⟩
  · obtain rfl : V = 0 := by simpa using hV
    go_enter Tryz.func65, Tryz.ntmps65
    go_wp2_with fail
    refine wp_loop_rounds 1 ?_
    rw [rounds_succ]
    go_wp2_with ((with_reducible show wpList _ _ _ _ _ _); refine wpList_append_fresh rfl (.tmp 17) (.tmp 20) 28 rfl 5 (.int .u8 0) bytesUnder u8Info rfl _ rfl _ 0 _ rfl (fun _ => .int .u8 0) (by omega) (fun h => absurd h (by omega)) ?_; intro v' w' hfr)
    go_ret
    exact ⟨_, 0, rfl, Nat.le_refl _, hfr.out.mag ((Below.refl _ _).alloc (Nat.le_refl _) _) ⟨by simp, fun h => absurd h (by omega)⟩ (fun i hi => absurd hi (by omega))⟩
  · have HV := Lib.hid hV; clear hV
    have HC := Lib.hid hc
    go_enter Tryz.func65, Tryz.ntmps65
    go_wp2_with fail
    go_loop [3] (fun i => ∃ r : Nat, r ≤ n ∧ i = .int .i64 r ∧ V < 2 ^ (8 * (n - r))) (fun i => n - (intOf i).toNat)
    case atStart => exact ⟨0, by omega, by go_num, by simpa using HV.out⟩
    case round =>
      obtain ⟨r, hr, rfl, hrV⟩ := hrel
      by_cases hrn : r < n
      · have cr := HC.out r hrn
        by_cases hz : dg V (n - 1 - r) = 0
        · go_wp2
          go_round
          case rel =>
            refine ⟨r + 1, by omega, by go_num, ?_⟩
            have := lt_of_dg_zero (n := n - 1 - r) (by rw [show n - 1 - r + 1 = n - r by omega]; exact hrV) hz
            rw [show n - (r + 1) = n - 1 - r by omega]; exact this
          case measure => simp [intOf]; omega
        · have hN : Nb (n - r) V := ⟨hrV, fun _ => by have := le_of_dg_ne hz; rwa [show n - r - 1 = n - 1 - r by omega]⟩
          have HN := Lib.hid hN; clear hN
          have HRV := Lib.hid hrV; clear hrV
          go_wp2_with ((with_reducible show wpList _ _ _ _ _ _); refine wpList_append_fresh rfl (.tmp 17) (.tmp 20) 28 rfl 5 (.int .u8 0) bytesUnder u8Info rfl _ rfl _ (n - r) _ rfl (fun j => .int .u8 (dg V (n - r - 1 - j))) (by omega) (fun h => ⟨_, rfl, fun j hj => by rw [add_at, World.cell?_of_block (w := w) (Below.heap_alloc w _ g hg), show p + r + j = p + (r + j) by omega, HC.out _ (by omega), show n - 1 - (r + j) = n - r - 1 - j by omega]⟩) ?_; intro v' w' hfr)
          go_ret
          exact ⟨_, rfl, n - r, by omega, hfr.out.mag ((Below.refl _ _).alloc (Nat.le_refl _) _) HN.out (fun i hi => rfl)⟩
      · obtain rfl : r = n := by omega
        obtain rfl : V = 0 := by simpa using hrV
        go_wp2_with ((with_reducible show wpList _ _ _ _ _ _); refine wpList_append_fresh rfl (.tmp 17) (.tmp 20) 28 rfl 5 (.int .u8 0) bytesUnder u8Info rfl _ rfl _ 0 _ (by first | rfl | (go_num) | (simp)) (fun _ => .int .u8 0) (by omega) (fun h => absurd h (by omega)) ?_; intro v' w' hfr)
        all_goals go_ret
        all_goals exact ⟨_, rfl, 0, by omega, hfr.out.mag ((Below.refl _ _).alloc (Nat.le_refl _) _) ⟨by simp, fun h => absurd h (by omega)⟩ (fun i hi => absurd hi (by omega))⟩

theorem Of_any (neg : Bool) (s : Value) (n V : Nat) (w : World) (h : BytAt w s n V) (hn : n ≤ 1099511627776) :
    Calls Tryz.prog 41 #[.bool neg, s] w fun e w' => ∃ s' m, e = .returned (.agg #[.bool (neg && decide (0 < V)), s']) ∧ m ≤ n ∧ NewMag w w' s' m V := by
  have HC := Lib.hid (cut_any s n V _ ⟨h.1, by
    rcases h.2 with h | ⟨h0, g, p, c, e, hnc, hg, hc⟩
    · exact .inl h
    · exact .inr ⟨h0, g, p, c, e, hnc, Nat.lt_of_lt_of_le hg (by simp), fun i hi => (World.cell?_of_block (w := w) (Below.heap_alloc w (.cells #[.bool false, .slice none 0 0] 84) g hg)).trans (hc i hi)⟩⟩ hn)
  have hone : ∃ a c, s = .slice a n c := by
    rcases h.2 with ⟨rfl, a, c, rfl⟩ | ⟨h0, g, p, c, e, _⟩
    · exact ⟨a, c, rfl⟩
    · exact ⟨_, c, e⟩
  obtain ⟨sa, sc, rfl⟩ := hone
  clear h
  go_enter Tryz.func41, Tryz.ntmps41
  go_wp2_with fail
  refine HC.out.mono ?_
  rintro e w2 ⟨s', m, rfl, hmn, hnew⟩
  have hb0 : Below w.heap.size w (w.alloc (.cells #[.bool false, .slice none 0 0] 84)) := (Below.refl _ _).alloc (Nat.le_refl _) _
  have hnew0 := hnew.from hb0
  have hR : w2.heap[w.heap.size]? = some (.cells #[.bool false, .slice none 0 0] 84 (0, 0)) := (hnew.2.2.block _ (by simp)).trans (heap_alloc_new w _)
  obtain ⟨a', c', rfl⟩ := hnew.1.shape
  have hnw : ∀ a k c, Value.slice a' m c' = .slice (some a) k c → 0 < m → a.block ≠ w.heap.size := fun a k c e h0 => by have := hnew.2.1 a k c e h0; simp at this; omega
  have hd : decide (0 < m) = decide (0 < V) := by
    have := hnew.1.1.zero_iff
    by_cases h : m = 0
    · have hv := this.1 h
      subst h hv; simp
    · have h2 : V ≠ 0 := fun e => h (this.2 e)
      simp; omega
  have HN := Lib.hid hnew0
  have HD := Lib.hid hd
  have HW := Lib.hid hnw
  have HR := Lib.hid hR
  have c0 := (cell_of_row w2 _ 0 _ _ (0, 0) hR).trans rfl
  have c1 := (cell_of_row w2 _ 1 _ _ (0, 0) hR).trans rfl
  have f0 : ∀ i, w2.frozen? ⟨w.heap.size, i, none⟩ = false := fun i => by simp [World.frozen?, hR]
  clear hnew hnew0 hd hnw hR hb0
  cases neg
  · go_wp2
    have hW := set1 (i := 1) (x := .slice a' m c') (set1 (i := 0) (x := .bool false) HR.out)
    have e0 := (cell_of_row _ _ 0 _ _ (0, 0) hW).trans rfl
    have e1 := (cell_of_row _ _ 1 _ _ (0, 0) hW).trans rfl
    refine bodyPost_ret (v := .agg #[.bool false, .slice a' m c']) (by simp [results, Tryz.results41, go_sem, e0, e1]) rfl ⟨_, m, by simp, hmn, (HN.out.put (Nat.le_refl _) HW.out _).put (Nat.le_refl _) HW.out _⟩
  · go_wp2
    have hW := set1 (i := 1) (x := .slice a' m c') (set1 (i := 0) (x := .bool (decide (0 < m))) HR.out)
    have e0 := (cell_of_row _ _ 0 _ _ (0, 0) hW).trans rfl
    have e1 := (cell_of_row _ _ 1 _ _ (0, 0) hW).trans rfl
    refine bodyPost_ret (v := .agg #[.bool (decide (0 < m)), .slice a' m c']) (by simp [results, Tryz.results41, go_sem, e0, e1]) rfl ⟨_, m, by rw [HD.out]; simp, hmn, (HN.out.put (Nat.le_refl _) HW.out _).put (Nat.le_refl _) HW.out _⟩

end Go.Proofs.YtpcleebnfgnhdaaGreatDoor

/- Walks: laws.told, laws.whole, laws.is. -/
set_option linter.unusedVariables false
set_option linter.unusedSimpArgs false
namespace Go.Proofs.YtpcleebnfgnhdaaGreatDoor
open Go.RowKit
open Num

/-- the program's value of an integer -/
abbrev valInt (neg : Bool) (s : Value) : Value := .agg #[.int .i64 2, .bool neg, s, .int .u64 0, .string ⟨#[]⟩, .slice none 0 0]

theorem dg_shift (V t j : Nat) : dg (V / 2 ^ (8 * t)) j = dg V (j + t) := by
  unfold dg
  rw [Nat.div_div_eq_div_mul, ← Nat.pow_add, show 8 * t + 8 * j = 8 * (j + t) by omega]
/-- the first k of n bytes -/
theorem BytAt.first {w : World} {s : Value} {n V k : Nat} (h : BytAt w s n V) (hk : k ≤ n) {a : Option Addr} {c : Nat} (hs : s = .slice a n c) : BytAt w (.slice a k c) k (V / 2 ^ (8 * (n - k))) := by
  refine ⟨?_, ?_⟩
  · rw [Nat.div_lt_iff_lt_mul (Nat.two_pow_pos _), ← Nat.pow_add, show 8 * k + 8 * (n - k) = 8 * n by omega]
    exact h.1
  · by_cases h0 : k = 0
    · exact .inl ⟨h0, a, c, by rw [h0]⟩
    · rcases h.2 with ⟨rfl, _⟩ | ⟨_, g, p, c', e, hnc, hg, hc⟩
      · omega
      · rw [hs] at e
        injection e with e1 _ e3
        subst e1 e3
        refine .inr ⟨by omega, g, p, c, rfl, by omega, hg, fun i hi => ?_⟩
        rw [hc i (by omega), dg_shift, show k - 1 - i + (n - k) = n - 1 - i by omega]
theorem BytAt.shape {w : World} {s : Value} {n V : Nat} (h : BytAt w s n V) : ∃ a c, s = .slice a n c ∧ n ≤ c ∨ ∃ a c, s = .slice a 0 c ∧ n = 0 := by
  rcases h.2 with ⟨rfl, a, c, rfl⟩ | ⟨_, g, p, c, rfl, hnc, _⟩
  · exact ⟨a, c, .inr ⟨a, c, rfl, rfl⟩⟩
  · exact ⟨_, c, .inl ⟨rfl, hnc⟩⟩
theorem BytAt.below {w w' : World} {s : Value} {n V : Nat} (h : BytAt w s n V) (hb : Below w.heap.size w w') : BytAt w' s n V := by
  refine ⟨h.1, ?_⟩
  rcases h.2 with h | ⟨h0, g, p, c, rfl, hnc, hg, hc⟩
  · exact .inl h
  · exact .inr ⟨h0, g, p, c, rfl, hnc, Nat.lt_of_lt_of_le hg hb.size, fun i hi => (hb.cell (p := ⟨g, p + i, none⟩) hg).trans (hc i hi)⟩

end Go.Proofs.YtpcleebnfgnhdaaGreatDoor

/- Floats: the native functions, the type switch of NumberToInt. -/
set_option linter.unusedVariables false
set_option linter.unusedSimpArgs false
namespace Go.Proofs.YtpcleebnfgnhdaaGreatDoor
open Go.RowKit
open Num

theorem run_frombits (n : Int) (w : World) : (callFunc 64 #[.int .u64 n]).run Tryz.prog w = .ok (.value (.float .f64 n.toNat)) w := by kernel_rfl
theorem run_tobits (b : Nat) (w : World) : (callFunc 73 #[.float .f64 b]).run Tryz.prog w = .ok (.value (.int .u64 b)) w := by kernel_rfl
theorem assert_int_int (v : Value) (w : World) : (Instr.typeAssert (.iface 110 v) 59 110 true).run Tryz.prog w = .ok (.tuple #[v, .bool true]) w := by kernel_rfl
theorem assert_float_int (v : Value) (w : World) : (Instr.typeAssert (.iface 112 v) 59 110 true).run Tryz.prog w = .ok (.tuple #[.agg #[.int .i64 0, .pointer none], .bool false]) w := by kernel_rfl
theorem assert_float_float (v : Value) (w : World) : (Instr.typeAssert (.iface 112 v) 59 112 true).run Tryz.prog w = .ok (.tuple #[v, .bool true]) w := by kernel_rfl
theorem assert_string_int (v : Value) (w : World) : (Instr.typeAssert (.iface 96 v) 59 110 true).run Tryz.prog w = .ok (.tuple #[.agg #[.int .i64 0, .pointer none], .bool false]) w := by kernel_rfl
theorem assert_string_float (v : Value) (w : World) : (Instr.typeAssert (.iface 96 v) 59 112 true).run Tryz.prog w = .ok (.tuple #[.float .f64 0, .bool false]) w := by kernel_rfl
theorem assert_bool_int (v : Value) (w : World) : (Instr.typeAssert (.iface 105 v) 59 110 true).run Tryz.prog w = .ok (.tuple #[.agg #[.int .i64 0, .pointer none], .bool false]) w := by kernel_rfl
theorem assert_bool_float (v : Value) (w : World) : (Instr.typeAssert (.iface 105 v) 59 112 true).run Tryz.prog w = .ok (.tuple #[.float .f64 0, .bool false]) w := by kernel_rfl

end Go.Proofs.YtpcleebnfgnhdaaGreatDoor

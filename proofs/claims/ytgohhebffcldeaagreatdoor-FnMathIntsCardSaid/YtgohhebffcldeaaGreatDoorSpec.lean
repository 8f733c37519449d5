/- Walks: spec.cut, spec.Of, laws.told, laws.whole. -/
import Derived.Test.YtgohhebffcldeaaGreatDoorInt5
import Derived.Test.YtgohhebffcldeaaGreatDoorApp
set_option linter.unusedVariables false
set_option linter.unusedSimpArgs false
namespace Go.Proofs.YtgohhebffcldeaaGreatDoor
open Go.RowKit
open Num

/-- the slice s holds n bytes, the highest first, of V, leading zeros among them -/
def BytAt (w : World) (s : Value) (n V : Nat) : Prop :=
  V < 2 ^ (8 * n) ∧ ((n = 0 ∧ ∃ a c, s = .slice a 0 c) ∨ (0 < n ∧ ∃ g p c, s = .slice (some ⟨g, p, none⟩) n c ∧ n ≤ c ∧ g < w.heap.size ∧ ∀ i, i < n → w.cell? ⟨g, p + i, none⟩ = some (.int .u8 (dg V (n - 1 - i)))))
theorem MagAt.byt {w : World} {s : Value} {n V : Nat} (h : MagAt w s n V) : BytAt w s n V := ⟨h.1.1, h.2⟩
theorem u8InfoO : (Tryz.prog.info? 5).map (fun i => (i.zero, i.size, i.bytes)) = some (some (.int .u8 0), 1, 1) := u8Info

/-- what the spec's functions answer: a fresh magnitude -/
def NewMag (w w' : World) (s : Value) (m V : Nat) : Prop := MagAt w' s m V ∧ (∀ a k c, s = .slice (some a) k c → 0 < m → w.heap.size ≤ a.block) ∧ Below w.heap.size w w'
theorem Fresh.mag {w0 w w' : World} {v : Value} {m V : Nat} {src : Nat → Value} (h : Fresh w w' v m src 5) (hb0 : Below w0.heap.size w0 w) (hN : Nb m V) (hs : ∀ i, i < m → src i = .int .u8 (dg V (m - 1 - i))) : NewMag w0 w' v m V := by
  obtain ⟨hb, h⟩ := h
  have hb2 := hb0.trans (hb.mono hb0.size)
  rcases h with ⟨rfl, a, c, rfl⟩ | ⟨h0, c, N, f, rfl, hmc, hmN, hr, hf⟩
  · exact ⟨⟨hN, .inl ⟨rfl, a, c, rfl⟩⟩, fun _ _ _ _ h => absurd h (by omega), hb2⟩
  · refine ⟨⟨hN, .inr ⟨h0, _, 0, c, rfl, hmc, hr.lt, fun i hi => ?_⟩⟩, fun a k c e _ => ?_, hb2⟩
    · rw [Nat.zero_add, hr.cell (by omega), hf i hi, hs i hi]
    · injection e with e; injection e with e; subst e; exact hb0.size
theorem NewMag.from {w0 w w' : World} {s : Value} {m V : Nat} (h : NewMag w w' s m V) (hb : Below w0.heap.size w0 w) : NewMag w0 w' s m V :=
  ⟨h.1, fun a k c e h0 => Nat.le_trans hb.size (h.2.1 a k c e h0), hb.trans (h.2.2.mono hb.size)⟩

theorem NewMag.put {w w' : World} {s : Value} {m V : Nat} (h : NewMag w w' s m V) {B o : Nat} (hB : w.heap.size ≤ B) (hne : ∀ a k c, s = .slice (some a) k c → 0 < m → a.block ≠ B) (u : Value) : NewMag w (w'.setCell ⟨B, o, none⟩ u) s m V := by
  refine ⟨?_, h.2.1, h.2.2.setCell hB _⟩
  refine ⟨h.1.1, ?_⟩
  rcases h.1.2 with h2 | ⟨h0, g, q, c, rfl, hnc, hg, hc⟩
  · exact .inl h2
  · have hgp : g ≠ B := hne ⟨g, q, none⟩ m c rfl h0
    exact .inr ⟨h0, g, q, c, rfl, hnc, by simpa [World.setCell] using hg, fun i hi => (World.cell?_of_block (w := w') (a := ⟨g, q + i, none⟩) (Below.heap_setCell w' ⟨B, o, none⟩ u g hgp)).trans (hc i hi)⟩
theorem NewMag.on {w w' w2 : World} {s : Value} {m V : Nat} (h : NewMag w w' s m V) (hb : Below w'.heap.size w' w2) : NewMag w w2 s m V :=
  ⟨h.1.below hb, h.2.1, h.2.2.trans (hb.mono h.2.2.size)⟩

theorem cut_any (s : Value) (n V : Nat) (w : World) (h : BytAt w s n V) (hn : n ≤ 1099511627776) :
    Calls Tryz.prog 17 #[s] w fun e w' => ∃ s' m, e = .returned s' ∧ m ≤ n ∧ NewMag w w' s' m V := by
  obtain ⟨hV, h⟩ := h
  rcases h with ⟨rfl, a, c, rfl⟩ | ⟨h0, g, p, c, rfl, hnc, hg, hc⟩
  · obtain rfl : V = 0 := by simpa using hV
    go_enter Tryz.func17, Tryz.ntmps17
    go_wp2_with fail
    refine wp_loop_rounds 1 ?_
    rw [rounds_succ]
    go_wp2_with ((with_reducible show wpList _ _ _ _ _ _); refine wpList_append_fresh rfl (.tmp 17) (.tmp 20) 22 rfl 5 (.int .u8 0) bytesUnder u8Info rfl _ rfl _ 0 _ rfl (fun _ => .int .u8 0) (by omega) (fun h => absurd h (by omega)) ?_; intro v' w' hfr)
    go_ret
    exact ⟨_, 0, rfl, Nat.le_refl _, hfr.out.mag ((Below.refl _ _).alloc (Nat.le_refl _) _) ⟨by simp, fun h => absurd h (by omega)⟩ (fun i hi => absurd hi (by omega))⟩
  · have HV := Lib.hid hV; clear hV
    have HC := Lib.hid hc
    go_enter Tryz.func17, Tryz.ntmps17
    go_wp2_with fail
    go_loop [3] (fun i => ∃ r : Nat, r ≤ n ∧ i = .int .i64 r ∧ V < 2 ^ (8 * (n - r))) (fun i => n - (intOf i).toNat)
    case atStart => exact ⟨0, by omega, by go_num, by simpa using HV.out⟩
    case round =>
      obtain ⟨r, hr, rfl, hrV⟩ := hrel
      by_cases hrn : r < n
      · have cr := HC.out r hrn
        by_cases hz : dg V (n - 1 - r) = 0
        · go_wp2
          go_round
          case rel =>
            refine ⟨r + 1, by omega, by go_num, ?_⟩
            have := lt_of_dg_zero (n := n - 1 - r) (by rw [show n - 1 - r + 1 = n - r by omega]; exact hrV) hz
            rw [show n - (r + 1) = n - 1 - r by omega]; exact this
          case measure => simp [intOf]; omega
        · have hN : Nb (n - r) V := ⟨hrV, fun _ => by have := le_of_dg_ne hz; rwa [show n - r - 1 = n - 1 - r by omega]⟩
          have HN := Lib.hid hN; clear hN
          have HRV := Lib.hid hrV; clear hrV
          go_wp2_with ((with_reducible show wpList _ _ _ _ _ _); refine wpList_append_fresh rfl (.tmp 17) (.tmp 20) 22 rfl 5 (.int .u8 0) bytesUnder u8Info rfl _ rfl _ (n - r) _ rfl (fun j => .int .u8 (dg V (n - r - 1 - j))) (by omega) (fun h => ⟨_, rfl, fun j hj => by rw [add_at, World.cell?_of_block (w := w) (Below.heap_alloc w _ g hg), show p + r + j = p + (r + j) by omega, HC.out _ (by omega), show n - 1 - (r + j) = n - r - 1 - j by omega]⟩) ?_; intro v' w' hfr)
          go_ret
          exact ⟨_, rfl, n - r, by omega, hfr.out.mag ((Below.refl _ _).alloc (Nat.le_refl _) _) HN.out (fun i hi => rfl)⟩
      · obtain rfl : r = n := by omega
        obtain rfl : V = 0 := by simpa using hrV
        go_wp2_with ((with_reducible show wpList _ _ _ _ _ _); refine wpList_append_fresh rfl (.tmp 17) (.tmp 20) 22 rfl 5 (.int .u8 0) bytesUnder u8Info rfl _ rfl _ 0 _ (by first | rfl | (go_num) | (simp)) (fun _ => .int .u8 0) (by omega) (fun h => absurd h (by omega)) ?_; intro v' w' hfr)
        all_goals go_ret
        all_goals exact ⟨_, rfl, 0, by omega, hfr.out.mag ((Below.refl _ _).alloc (Nat.le_refl _) _) ⟨by simp, fun h => absurd h (by omega)⟩ (fun i hi => absurd hi (by omega))⟩

theorem Of_any (neg : Bool) (s : Value) (n V : Nat) (w : World) (h : BytAt w s n V) (hn : n ≤ 1099511627776) :
    Calls Tryz.prog 6 #[.bool neg, s] w fun e w' => ∃ s' m, e = .returned (.agg #[.bool (neg && decide (0 < V)), s']) ∧ m ≤ n ∧ NewMag w w' s' m V := by
  have HC := Lib.hid (cut_any s n V _ ⟨h.1, by
    rcases h.2 with h | ⟨h0, g, p, c, e, hnc, hg, hc⟩
    · exact .inl h
    · exact .inr ⟨h0, g, p, c, e, hnc, Nat.lt_of_lt_of_le hg (by simp), fun i hi => (World.cell?_of_block (w := w) (Below.heap_alloc w (.cells #[.bool false, .slice none 0 0] 29) g hg)).trans (hc i hi)⟩⟩ hn)
  have hone : ∃ a c, s = .slice a n c := by
    rcases h.2 with ⟨rfl, a, c, rfl⟩ | ⟨h0, g, p, c, e, _⟩
    · exact ⟨a, c, rfl⟩
    · exact ⟨_, c, e⟩
  obtain ⟨sa, sc, rfl⟩ := hone
  clear h
  go_enter Tryz.func6, Tryz.ntmps6
  go_wp2_with fail
  refine HC.out.mono ?_
  rintro e w2 ⟨s', m, rfl, hmn, hnew⟩
  have hb0 : Below w.heap.size w (w.alloc (.cells #[.bool false, .slice none 0 0] 29)) := (Below.refl _ _).alloc (Nat.le_refl _) _
  have hnew0 := hnew.from hb0
  have hR : w2.heap[w.heap.size]? = some (.cells #[.bool false, .slice none 0 0] 29 (0, 0)) := (hnew.2.2.block _ (by simp)).trans (heap_alloc_new w _)
  obtain ⟨a', c', rfl⟩ := hnew.1.shape
  have hnw : ∀ a k c, Value.slice a' m c' = .slice (some a) k c → 0 < m → a.block ≠ w.heap.size := fun a k c e h0 => by have := hnew.2.1 a k c e h0; simp at this; omega
  have hd : decide (0 < m) = decide (0 < V) := by
    have := hnew.1.1.zero_iff
    by_cases h : m = 0
    · have hv := this.1 h
      subst h hv; simp
    · have h2 : V ≠ 0 := fun e => h (this.2 e)
      simp; omega
  have HN := Lib.hid hnew0
  have HD := Lib.hid hd
  have HW := Lib.hid hnw
  have HR := Lib.hid hR
  have c0 := (cell_of_row w2 _ 0 _ _ (0, 0) hR).trans rfl
  have c1 := (cell_of_row w2 _ 1 _ _ (0, 0) hR).trans rfl
  have f0 : ∀ i, w2.frozen? ⟨w.heap.size, i, none⟩ = false := fun i => by simp [World.frozen?, hR]
  clear hnew hnew0 hd hnw hR hb0
  cases neg
  · go_wp2
    have hW := set1 (i := 1) (x := .slice a' m c') (set1 (i := 0) (x := .bool false) HR.out)
    have e0 := (cell_of_row _ _ 0 _ _ (0, 0) hW).trans rfl
    have e1 := (cell_of_row _ _ 1 _ _ (0, 0) hW).trans rfl
    refine bodyPost_ret (v := .agg #[.bool false, .slice a' m c']) (by simp [results, Tryz.results6, go_sem, e0, e1]) rfl ⟨_, m, by simp, hmn, (HN.out.put (Nat.le_refl _) HW.out _).put (Nat.le_refl _) HW.out _⟩
  · go_wp2
    have hW := set1 (i := 1) (x := .slice a' m c') (set1 (i := 0) (x := .bool (decide (0 < m))) HR.out)
    have e0 := (cell_of_row _ _ 0 _ _ (0, 0) hW).trans rfl
    have e1 := (cell_of_row _ _ 1 _ _ (0, 0) hW).trans rfl
    refine bodyPost_ret (v := .agg #[.bool (decide (0 < m)), .slice a' m c']) (by simp [results, Tryz.results6, go_sem, e0, e1]) rfl ⟨_, m, by rw [HD.out]; simp, hmn, (HN.out.put (Nat.le_refl _) HW.out _).put (Nat.le_refl _) HW.out _⟩

end Go.Proofs.YtgohhebffcldeaaGreatDoor

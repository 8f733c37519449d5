import Derived.Test.YtjkmppdmejgjiaaGreatDoorEz34
import Derived.Test.YtjkmppdmejgjiaaGreatDoorEz24
/- Walks: Get and Has by a table; two dicts, two sets compared. -/
set_option linter.unusedVariables false
set_option linter.unusedSimpArgs false
namespace Go.Proofs.YtjkmppdmejgjiaaGreatDoor
open Go.RowKit
open Num

theorem Get_of (b : Nat) (k : Value) (R : Value → Bool → World → Prop) (w : World) (h : Calls Tryz.prog 233 #[.pointer (some ⟨b, 0, none⟩), k] w fun e w' => ∃ t u r, e = .returned (.tuple #[.iface t u, .bool r, .nilIface]) ∧ R (.iface t u) r w') :
    Calls Tryz.prog 232 #[.pointer (some ⟨b, 0, none⟩), k] w fun e w' => ∃ t u r, e = .returned (.tuple #[.iface t u, .bool r, .nilIface]) ∧ R (.iface t u) r w' := by
  have H := Lib.hid h
  clear h
  go_enter Tryz.func232, Tryz.ntmps232
  go_wp2_with fail
  refine H.out.mono ?_
  rintro e w2 ⟨t, u, r, rfl, hr⟩
  have HR := Lib.hid hr; clear hr
  go_wp2
  exact bodyPost_ret (v := .tuple #[.iface t u, .bool r, .nilIface]) (by simp [results, Tryz.results232, go_sem]) rfl ⟨_, _, _, rfl, HR.out⟩
theorem Has_of (b : Nat) (k : Value) (R : Bool → World → Prop) (w : World) (h : Calls Tryz.prog 233 #[.pointer (some ⟨b, 0, none⟩), k] w fun e w' => ∃ t u r, e = .returned (.tuple #[.iface t u, .bool r, .nilIface]) ∧ R r w') :
    Calls Tryz.prog 244 #[.pointer (some ⟨b, 0, none⟩), k] w fun e w' => ∃ r, e = .returned (.tuple #[.bool r, .nilIface]) ∧ R r w' := by
  have H := Lib.hid h
  clear h
  go_enter Tryz.func244, Tryz.ntmps244
  go_wp2_with fail
  refine H.out.mono ?_
  rintro e w2 ⟨t, u, r, rfl, hr⟩
  have HR := Lib.hid hr; clear hr
  go_wp2
  exact bodyPost_ret (v := .tuple #[.bool r, .nilIface]) (by simp [results, Tryz.results244, go_sem]) rfl ⟨_, rfl, HR.out⟩

/-- a comparison's answer -/
def AllG (n1 n2 : Nat) (g : Nat → Bool) : Prop := n1 = n2 ∧ ∀ i, i < n1 → g i = true
def SaysIff (P : Prop) (w : World) (e : Ending) (w' : World) : Prop := ∃ r, e = .returned (.tuple #[.bool r, .nilIface]) ∧ (r = true ↔ P) ∧ Below w.heap.size w w'
/-- the pointer to the entry i of n -/
def eptr (b n i : Nat) : Value := if i < n then .pointer (some ⟨b, 1 + 5 * (7 - i), none⟩) else .pointer none
def pOff : Value → Nat
  | .pointer (some a) => a.off + 1
  | _ => 0
theorem ht_head (b n : Nat) (laid : Bool) (H : Nat → Nat) (K V : Nat → Value) : htCell b laid n H K V 44 = eptr b n 0 := by
  show (if n = 0 then _ else _) = _
  unfold eptr
  by_cases h : n = 0
  · rw [if_pos h, if_neg (by omega)]
  · rw [if_neg h, if_pos (by omega)]
theorem ht_ent (b n : Nat) (laid : Bool) (H : Nat → Nat) (K V : Nat → Value) (i : Nat) (hi : i < n) (hn : n ≤ 8) :
    htCell b laid n H K V (1 + 5 * (7 - i) + 1) = K i ∧ htCell b laid n H K V (1 + 5 * (7 - i) + 2) = V i ∧ htCell b laid n H K V (1 + 5 * (7 - i) + 3) = eptr b n (i + 1) := by
  have hx : eptr b n (i + 1) = (if 8 - n < 7 - i then .pointer (some ⟨b, 1 + 5 * (7 - i - 1), none⟩) else .pointer none) := by
    unfold eptr
    by_cases h : i + 1 < n
    · rw [if_pos h, if_pos (by omega), show 7 - (i + 1) = 7 - i - 1 by omega]
    · rw [if_neg h, if_neg (by omega)]
  rw [hx]
  have h8 : 8 - n ≤ 7 - i := by omega
  rcases (show i = 0 ∨ i = 1 ∨ i = 2 ∨ i = 3 ∨ i = 4 ∨ i = 5 ∨ i = 6 ∨ i = 7 by omega) with rfl | rfl | rfl | rfl | rfl | rfl | rfl | rfl <;>
    · refine ⟨?_, ?_, ?_⟩ <;>
        (show htEnt b n H K V _ _ = _
         unfold htEnt
         rw [if_pos h8]
         rfl)

set_option maxRecDepth 100000 in
set_option maxHeartbeats 4000000 in
theorem dictsEqual_any (t1 t2 b1 b2 n1 n2 D : Nat) (laid1 laid2 : Bool) (H1 H2 : Nat → Nat) (K1 V1 K2 V2 : Nat → Value) (g : Nat → Bool) (w : World) (hD : 1 ≤ D) (hD2 : D ≤ 1000000) (hn1 : n1 ≤ 8) (hn2 : n2 ≤ 8)
    (h1 : Row w b1 t1 47 (htCell b1 laid1 n1 H1 K1 V1)) (h2 : Row w b2 t2 47 (htCell b2 laid2 n2 H2 K2 V2)) (hV : ∀ i, i < n1 → (∃ t u, K1 i = .iface t u) ∧ ∃ t u, V1 i = .iface t u)
    (hG : ∀ i, i < n1 → ∀ W, Below w.heap.size w W → Calls Tryz.prog 232 #[.pointer (some ⟨b2, 0, none⟩), K1 i] W fun e w' => ∃ t u r, e = .returned (.tuple #[.iface t u, .bool r, .nilIface]) ∧ Below W.heap.size W w' ∧
      (r = false → g i = false) ∧ (r = true → ∀ W2, Below w.heap.size w W2 → Calls Tryz.prog 21 #[V1 i, .iface t u, .int .i64 ((D : Int) - 1)] W2 fun e w' => e = .returned (.tuple #[.bool (g i), .nilIface]) ∧ Below W2.heap.size W2 w')) :
    Calls Tryz.prog 231 #[.pointer (some ⟨b1, 0, none⟩), .pointer (some ⟨b2, 0, none⟩), .int .i64 D] w (SaysIff (AllG n1 n2 g) w) := by
  have HL1 := Lib.hid (DictLen_any b1 n1 w (h1.cell (i := 42) (by omega)) hn1)
  have HL2 := Lib.hid (DictLen_any b2 n2 w (h2.cell (i := 42) (by omega)) hn2)
  have c44 : w.cell? ⟨b1, 44, none⟩ = some (eptr b1 n1 0) := by
    have := h1.cell (i := 44) (by omega)
    rwa [ht_head] at this
  have HR1 := Lib.hid h1; have HG := Lib.hid hG; have HV := Lib.hid hV; have HLT := Lib.hid h1.lt
  have hde : IntKind.i64.wrap ((D : Int) - 1) = (D : Int) - 1 := by simp only [IntKind.wrap_i64]; omega
  have hde2 : wrap64 ((D : Int) - 1) = (D : Int) - 1 := by unfold wrap64; omega
  clear h1 h2 hG hV
  go_enter Tryz.func231, Tryz.ntmps231
  go_wp2_with fail
  refine HL1.out.mono ?_
  rintro e w2 ⟨rfl, rfl⟩
  go_wp2_with fail
  refine HL2.out.mono ?_
  rintro e w3 ⟨rfl, rfl⟩
  clear HL1 HL2
  by_cases hnn : n1 = n2
  · subst hnn
    obtain ⟨x0, hx0⟩ : ∃ x0, x0 = eptr b1 n1 0 := ⟨_, rfl⟩
    rw [← hx0] at c44
    have HX0 := Lib.hid hx0
    clear hx0
    go_wp2
    go_loopw [8] (fun x wr => ∃ i : Nat, i ≤ n1 ∧ x = eptr b1 n1 i ∧ Below w3.heap.size w3 wr ∧ ∀ j, j < i → g j = true) (fun x _ => pOff x)
    case atStart => exact ⟨0, by omega, HX0.out, Below.refl _ _, fun j hj => absurd hj (by omega)⟩
    case round =>
      obtain ⟨i, hi, rfl, hb, hg⟩ := hrel
      have HB := Lib.hid hb; have HGA := Lib.hid hg
      clear hg HX0 c44
      by_cases he : i < n1
      · have hx : eptr b1 n1 i = .pointer (some ⟨b1, 1 + 5 * (7 - i), none⟩) := if_pos he
        obtain ⟨e1, e2, e3⟩ := ht_ent b1 n1 laid1 H1 K1 V1 i he hn1
        obtain ⟨⟨tk, uk, hk⟩, tv, uv, hv⟩ := HV.out i he
        have HI := Lib.hid he
        obtain ⟨p, hp⟩ : ∃ p, p = 1 + 5 * (7 - i) := ⟨_, rfl⟩
        have d1 : wr.cell? ⟨b1, p + 1, none⟩ = some (.iface tk uk) := by
          have := (HR1.out.below hb HLT.out).cell (i := p + 1) (by omega)
          rwa [hp, e1, hk, ← hp] at this
        have d2 : wr.cell? ⟨b1, p + 2, none⟩ = some (.iface tv uv) := by
          have := (HR1.out.below hb HLT.out).cell (i := p + 2) (by omega)
          rwa [hp, e2, hv, ← hp] at this
        obtain ⟨x1, hx1⟩ : ∃ x1, x1 = eptr b1 n1 (i + 1) := ⟨_, rfl⟩
        have HN := Lib.hid (show ∀ W, Below w3.heap.size w3 W → W.cell? ⟨b1, p + 3, none⟩ = some x1 from fun W hb => by
          have := (HR1.out.below hb HLT.out).cell (i := p + 3) (by omega)
          rwa [hp, e3, ← hp, ← hx1] at this)
        have HX1 := Lib.hid hx1
        have HM := Lib.hid (show pOff x1 < pOff (.pointer (some ⟨b1, p, none⟩)) by
          rw [hx1]
          unfold eptr
          split
          · simp only [pOff]; omega
          · simp [pOff])
        have HGI := Lib.hid (show ∀ W, Below w3.heap.size w3 W → Calls Tryz.prog 232 #[.pointer (some ⟨b2, 0, none⟩), .iface tk uk] W fun e w' => ∃ t u r, e = .returned (.tuple #[.iface t u, .bool r, .nilIface]) ∧ Below W.heap.size W w' ∧
      (r = false → g i = false) ∧ (r = true → ∀ W2, Below w3.heap.size w3 W2 → Calls Tryz.prog 21 #[.iface tv uv, .iface t u, .int .i64 ((D : Int) - 1)] W2 fun e w' => e = .returned (.tuple #[.bool (g i), .nilIface]) ∧ Below W2.heap.size W2 w') from fun W hb => by
          have := HG.out i he W hb
          rwa [hk, hv] at this)
        rw [hx, ← hp]
        clear hx e1 e2 e3 hk hv hp hx1 hb he HG HV hi
        go_wp2
        go_quiet (fail)
        obtain ⟨w4, hw4⟩ : ∃ w4, w4 = wr.drewN nq := ⟨_, rfl⟩
        rw [← hw4]
        have HB4 := Lib.hid (show Below w3.heap.size w3 w4 by rw [hw4]; exact ⟨HB.out.os, HB.out.tape, HB.out.output, HB.out.size, HB.out.block⟩)
        have HC := Lib.hid (HGI.out w4 HB4.out)
        clear hw4 d1 d2 HB
        go_wp2_with fail
        refine HC.out.mono ?_
        rintro e w5 ⟨t, u, r, rfl, hb5, hf, ht⟩
        have HB5 := Lib.hid (HB4.out.trans (hb5.mono HB4.out.size))
        have HF := Lib.hid hf; have HT := Lib.hid ht
        clear hb5 hf ht
        cases r
        · go_wp2
          exact bodyPost_ret (v := .tuple #[.bool false, .nilIface]) (by simp [results, Tryz.results231, go_sem]) rfl ⟨false, rfl, ⟨fun h => (by cases h), fun h => by have := h.2 i HI.out; rw [HF.out (by first | rfl | trivial)] at this; cases this⟩, HB5.out⟩
        · have HQ := Lib.hid (HT.out (by first | rfl | trivial) w5 HB5.out)
          obtain ⟨gi, hgi⟩ : ∃ gi, gi = g i := ⟨_, rfl⟩
          rw [← hgi] at HQ
          have HGG := Lib.hid hgi
          clear hgi
          go_wp2_with fail
          refine HQ.out.mono ?_
          rintro e w6 ⟨rfl, hb6⟩
          have HB6 := Lib.hid (HB5.out.trans (hb6.mono HB5.out.size))
          have d3 := HN.out w6 HB6.out
          clear hb6
          cases gi
          · go_wp2
            exact bodyPost_ret (v := .tuple #[.bool false, .nilIface]) (by simp [results, Tryz.results231, go_sem]) rfl ⟨false, rfl, ⟨fun h => (by cases h), fun h => by have := h.2 i HI.out; rw [← HGG.out] at this; cases this⟩, HB6.out⟩
          · go_wp2
            go_round
            case rel => exact ⟨i + 1, HI.out, HX1.out, HB6.out, fun j hj => by
              by_cases e : j = i
              · rw [e]; exact HGG.out.symm
              · exact HGA.out j (by omega)⟩
            case measure => exact HM.out
      · have hx : eptr b1 n1 i = .pointer none := if_neg he
        rw [hx]
        have HI := Lib.hid (show i = n1 by omega)
        clear hx hb he hi
        go_wp2
        exact bodyPost_ret (v := .tuple #[.bool true, .nilIface]) (by simp [results, Tryz.results231, go_sem]) rfl ⟨true, rfl, ⟨fun _ => ⟨rfl, fun j hj => HGA.out j (by have := HI.out; omega)⟩, fun _ => rfl⟩, HB.out⟩
  · have hne : ((n1 : Int) != (n2 : Int)) = true := by simp; omega
    have HNN := Lib.hid hnn
    clear hnn
    go_wp2
    exact bodyPost_ret (v := .tuple #[.bool false, .nilIface]) (by simp [results, Tryz.results231, go_sem]) rfl ⟨false, rfl, ⟨fun h => (by cases h), fun h => absurd h.1 HNN.out⟩, Below.refl _ _⟩

set_option maxRecDepth 100000 in
set_option maxHeartbeats 4000000 in
theorem setsEqual_any (t1 t2 b1 b2 n1 n2 : Nat) (laid1 laid2 : Bool) (H1 H2 : Nat → Nat) (K1 V1 K2 V2 : Nat → Value) (g : Nat → Bool) (w : World) (hn1 : n1 ≤ 8) (hn2 : n2 ≤ 8)
    (h1 : Row w b1 t1 47 (htCell b1 laid1 n1 H1 K1 V1)) (h2 : Row w b2 t2 47 (htCell b2 laid2 n2 H2 K2 V2)) (hV : ∀ i, i < n1 → ∃ t u, K1 i = .iface t u)
    (hG : ∀ i, i < n1 → ∀ W, Below w.heap.size w W → Calls Tryz.prog 244 #[.pointer (some ⟨b2, 0, none⟩), K1 i] W fun e w' => e = .returned (.tuple #[.bool (g i), .nilIface]) ∧ Below W.heap.size W w') :
    Calls Tryz.prog 240 #[.pointer (some ⟨b1, 0, none⟩), .pointer (some ⟨b2, 0, none⟩)] w (SaysIff (AllG n1 n2 g) w) := by
  have HL1 := Lib.hid (SetLen_any b1 n1 w (h1.cell (i := 42) (by omega)) hn1)
  have HL2 := Lib.hid (SetLen_any b2 n2 w (h2.cell (i := 42) (by omega)) hn2)
  have c44 : w.cell? ⟨b1, 44, none⟩ = some (eptr b1 n1 0) := by
    have := h1.cell (i := 44) (by omega)
    rwa [ht_head] at this
  have HR1 := Lib.hid h1; have HG := Lib.hid hG; have HV := Lib.hid hV; have HLT := Lib.hid h1.lt
  clear h1 h2 hG hV
  go_enter Tryz.func240, Tryz.ntmps240
  go_wp2_with fail
  refine HL1.out.mono ?_
  rintro e w2 ⟨rfl, rfl⟩
  go_wp2_with fail
  refine HL2.out.mono ?_
  rintro e w3 ⟨rfl, rfl⟩
  clear HL1 HL2
  by_cases hnn : n1 = n2
  · subst hnn
    obtain ⟨x0, hx0⟩ : ∃ x0, x0 = eptr b1 n1 0 := ⟨_, rfl⟩
    rw [← hx0] at c44
    have HX0 := Lib.hid hx0
    clear hx0
    go_wp2
    go_loopw [6] (fun x wr => ∃ i : Nat, i ≤ n1 ∧ x = eptr b1 n1 i ∧ Below w3.heap.size w3 wr ∧ ∀ j, j < i → g j = true) (fun x _ => pOff x)
    case atStart => exact ⟨0, by omega, HX0.out, Below.refl _ _, fun j hj => absurd hj (by omega)⟩
    case round =>
      obtain ⟨i, hi, rfl, hb, hg⟩ := hrel
      have HB := Lib.hid hb; have HGA := Lib.hid hg
      clear hg HX0 c44
      by_cases he : i < n1
      · have hx : eptr b1 n1 i = .pointer (some ⟨b1, 1 + 5 * (7 - i), none⟩) := if_pos he
        obtain ⟨e1, e2, e3⟩ := ht_ent b1 n1 laid1 H1 K1 V1 i he hn1
        obtain ⟨tk, uk, hk⟩ := HV.out i he
        have HI := Lib.hid he
        obtain ⟨p, hp⟩ : ∃ p, p = 1 + 5 * (7 - i) := ⟨_, rfl⟩
        have d1 : wr.cell? ⟨b1, p + 1, none⟩ = some (.iface tk uk) := by
          have := (HR1.out.below hb HLT.out).cell (i := p + 1) (by omega)
          rwa [hp, e1, hk, ← hp] at this
        obtain ⟨x1, hx1⟩ : ∃ x1, x1 = eptr b1 n1 (i + 1) := ⟨_, rfl⟩
        have HN := Lib.hid (show ∀ W, Below w3.heap.size w3 W → W.cell? ⟨b1, p + 3, none⟩ = some x1 from fun W hb => by
          have := (HR1.out.below hb HLT.out).cell (i := p + 3) (by omega)
          rwa [hp, e3, ← hp, ← hx1] at this)
        have HX1 := Lib.hid hx1
        have HM := Lib.hid (show pOff x1 < pOff (.pointer (some ⟨b1, p, none⟩)) by
          rw [hx1]
          unfold eptr
          split
          · simp only [pOff]; omega
          · simp [pOff])
        obtain ⟨gi, hgi⟩ : ∃ gi, gi = g i := ⟨_, rfl⟩
        have HQ := Lib.hid (HG.out i he wr hb)
        rw [← hgi, hk] at HQ
        have HGG := Lib.hid hgi
        rw [hx, ← hp]
        clear hx e1 e2 e3 hk hp hx1 hb he HG HV hi hgi
        go_wp2_with fail
        refine HQ.out.mono ?_
        rintro e w6 ⟨rfl, hb6⟩
        have HB6 := Lib.hid (HB.out.trans (hb6.mono HB.out.size))
        have d3 := HN.out w6 HB6.out
        clear hb6
        cases gi
        · go_wp2
          exact bodyPost_ret (v := .tuple #[.bool false, .nilIface]) (by simp [results, Tryz.results240, go_sem]) rfl ⟨false, rfl, ⟨fun h => (by cases h), fun h => by have := h.2 i HI.out; rw [← HGG.out] at this; cases this⟩, HB6.out⟩
        · go_wp2
          go_round
          case rel => exact ⟨i + 1, HI.out, HX1.out, HB6.out, fun j hj => by
            by_cases e : j = i
            · rw [e]; exact HGG.out.symm
            · exact HGA.out j (by omega)⟩
          case measure => exact HM.out
      · have hx : eptr b1 n1 i = .pointer none := if_neg he
        rw [hx]
        have HI := Lib.hid (show i = n1 by omega)
        clear hx hb he hi
        go_wp2
        exact bodyPost_ret (v := .tuple #[.bool true, .nilIface]) (by simp [results, Tryz.results240, go_sem]) rfl ⟨true, rfl, ⟨fun _ => ⟨rfl, fun j hj => HGA.out j (by have := HI.out; omega)⟩, fun _ => rfl⟩, HB.out⟩
  · have hne : ((n1 : Int) != (n2 : Int)) = true := by simp; omega
    have HNN := Lib.hid hnn
    clear hnn
    go_wp2
    exact bodyPost_ret (v := .tuple #[.bool false, .nilIface]) (by simp [results, Tryz.results240, go_sem]) rfl ⟨false, rfl, ⟨fun h => (by cases h), fun h => absurd h.1 HNN.out⟩, Below.refl _ _⟩
end Go.Proofs.YtjkmppdmejgjiaaGreatDoor

/- Walks: CompareSameType of lists, dicts, sets; CompareDepth of any two values. -/
set_option linter.unusedVariables false
set_option linter.unusedSimpArgs false
namespace Go.Proofs.YtjkmppdmejgjiaaGreatDoor
open Go.RowKit
open Num

/-! ### plain: what two dicts' equality is -/
theorem dictIn_all {f : Tr → Tr → Bool} {m : List Tr} : ∀ (l : List Tr), l.length % 2 = 0 → (dictIn f m l = true ↔ ∀ i, i < (keysOf l).length → dictIn.lookIn f ((keysOf l).getD i .non) ((valsOf l).getD i .non) m = true)
  | [], _ => by simp [dictIn, keysOf]
  | [a], h => by simp at h
  | a :: b :: l, h => by
    have ih := dictIn_all (f := f) (m := m) l (by simp at h; omega)
    simp only [dictIn, Bool.and_eq_true, keysOf, valsOf, List.length_cons]
    rw [ih]
    constructor
    · rintro ⟨h1, h2⟩ i hi
      cases i with
      | zero => simpa using h1
      | succ i => simpa using h2 i (by omega)
    · intro h
      exact ⟨by simpa using h 0 (by omega), fun i hi => by simpa using h (i + 1) (by omega)⟩
theorem lookIn_at {f : Tr → Tr → Bool} {k v : Tr} : ∀ (m : List Tr) (j : Nat), m.length % 2 = 0 → j < (keysOf m).length → (∀ i, i < j → f ((keysOf m).getD i .non) k = false) → f ((keysOf m).getD j .non) k = true → dictIn.lookIn f k v m = f v ((valsOf m).getD j .non)
  | [], j, _, h, _, _ => by simp [keysOf] at h
  | [a], j, h, _, _, _ => by simp at h
  | a :: b :: m, j, he, h, h1, h2 => by
    simp only [dictIn.lookIn, keysOf, valsOf] at h h1 h2 ⊢
    cases j with
    | zero =>
      have : f a k = true := by simpa using h2
      simp [this]
    | succ j =>
      have h0 : f a k = false := by simpa using h1 0 (by omega)
      rw [h0]
      simp only [Bool.false_eq_true, if_false]
      have := lookIn_at (f := f) (k := k) (v := v) m j (by simp at he; omega) (by simp at h; omega) (fun i hi => by simpa using h1 (i + 1) (by omega)) (by simpa using h2)
      simpa using this
theorem lookIn_none {f : Tr → Tr → Bool} {k v : Tr} : ∀ (m : List Tr), m.length % 2 = 0 → (∀ i, i < (keysOf m).length → f ((keysOf m).getD i .non) k = false) → dictIn.lookIn f k v m = false
  | [], _, _ => rfl
  | [a], h, _ => by simp at h
  | a :: b :: m, he, h => by
    have h0 : f a k = false := by simpa [keysOf] using h 0 (by simp [keysOf])
    simp only [dictIn.lookIn, h0, Bool.false_eq_true, if_false]
    exact lookIn_none m (by simp at he; omega) (fun i hi => by simpa [keysOf] using h (i + 1) (by simp [keysOf]; omega))

theorem star_flt : ∀ (d : Nat) (v : Value) (T : Tr) (w : World), StarAt w d v T → FltT d T
  | 0, _, _, _, _ => trivial
  | d + 1, v, T, w, h => by
    cases T with
    | flt B => exact h.2
    | tup l =>
      obtain ⟨s, rfl, hs⟩ := h
      rcases hs with ⟨rfl, _⟩ | ⟨_, g, p, c, _, _, _, _, hk⟩
      · intro k hk; cases hk
      · intro k hk'
        obtain ⟨i, hi, rfl⟩ := List.getElem_of_mem hk'
        obtain ⟨u, _, hu⟩ := hk i hi
        exact star_flt d u _ w hu
    | _ => trivial

/-! ### a key looked up in a table -/
theorem Look_tab (t b d : Nat) (Q : Value → Tr → Prop) (ks vs : List Tr) (k : Value) (X : Tr) (w : World) (hd : d ≤ 10) (hT : TabAt w t b (StarAt w d) Q d ks vs) (hk : StarAt w d k X) (kx : KeyT d X) (sx : Slim d X)
    (hK : ∀ y ∈ ks, KeyT d y ∧ Slim d y) (hQ : ∀ u y, Q u y → ∃ tv uv, u = .iface tv uv) (hkt : KT w) (hcl : CL w) :
    Calls Tryz.prog 233 #[.pointer (some ⟨b, 0, none⟩), k] w fun e w' => ∃ tv uv r, e = .returned (.tuple #[.iface tv uv, .bool r, .nilIface]) ∧ Below w.heap.size w w' ∧
      (r = false → ∀ i, i < ks.length → eqv d X (ks.getD i .non) = false) ∧ (r = true → ∃ i, i < ks.length ∧ eqv d X (ks.getD i .non) = true ∧ Q (.iface tv uv) (vs.getD i .non)) := by
  obtain ⟨K, V, laid, h8, hvl, hl, hr, hh⟩ := hT
  have gk : ∀ i (h : i < ks.length), ks.getD i .non = ks[i] := fun i h => by simp [h]
  have gv : ∀ i (h : i < vs.length), vs.getD i .non = vs[i] := fun i h => by simp [h]
  refine (lookup_any t b ks.length laid _ K V (fun i => eqv d X (ks.getD i .non)) k (hashT d X) w h8 (hl.imp id (fun e => by rw [e]; rfl)) (fun i _ => ⟨nzH_pos _, nzH_lt (hashT_lt d _)⟩) (hashT_lt d _) hr (fun W hb => Hash_any d k X W (hk.below hb) kx sx) (fun i hi => hQ _ _ (hh i hi (by omega)).2)
    (fun i hi W hb _ => by
      have := hh i hi (by omega)
      have hy := hK ks[i] (List.getElem_mem hi)
      show Calls _ _ _ _ fun e w' => e = .returned (.tuple #[.bool (eqv d X (ks.getD i .non)), .nilIface]) ∧ _
      rw [gk i hi]
      exact Equal_key d k (K i) X ks[i] W hd (hk.below hb) (this.1.below hb) kx hy.1 sx hy.2 (hkt.below hb) (hcl.below hb))).mono ?_
  rintro e w' ⟨h, hb⟩
  rcases h with ⟨i, hi, _, hf, rfl⟩ | ⟨hn, rfl⟩
  · have hq := (hh i hi (by omega)).2
    obtain ⟨tv, uv, hv⟩ := hQ _ _ hq
    rw [hv] at hq ⊢
    exact ⟨tv, uv, true, rfl, hb, fun h => (by cases h), fun _ => ⟨i, hi, hf, by rw [gv i (by omega)]; exact hq⟩⟩
  · refine ⟨_, _, false, rfl, hb, fun _ i hi => ?_, fun h => by cases h⟩
    have hy := hK ks[i] (List.getElem_mem hi)
    have hu := (hh i hi (by omega)).1
    rw [gk i hi]
    cases he : eqv d X ks[i] with
    | false => rfl
    | true =>
      have e1 := hash_eqv d X ks[i] kx hy.1 (star_flt d _ _ w hk) (star_flt d _ _ w hu) he
      have := hn i hi (by simp only [gk i hi, e1])
      simp only [gk i hi, he] at this
      exact this

/-! ### CompareSameType -/
theorem must_lst (v : Value) (w : World) : (Instr.typeAssert (.iface 76 v) 50 76 false).run Tryz.prog w = .ok v w := by kernel_rfl
theorem must_dic (v : Value) (w : World) : (Instr.typeAssert (.iface 79 v) 50 79 false).run Tryz.prog w = .ok v w := by kernel_rfl
theorem must_set (v : Value) (w : World) : (Instr.typeAssert (.iface 82 v) 50 82 false).run Tryz.prog w = .ok v w := by kernel_rfl
theorem cst_lst : CstM 76 212 := ⟨fun u W => by kernel_rfl, fun a W => by kernel_rfl⟩
theorem cst_dic : CstM 79 225 := ⟨fun u W => by kernel_rfl, fun a W => by kernel_rfl⟩
theorem cst_set : CstM 82 234 := ⟨fun u W => by kernel_rfl, fun a W => by kernel_rfl⟩
theorem Cst_dic (p q : Option Addr) (D : Nat) (r : Bool) (w : World)
    (h : Calls Tryz.prog 231 #[.pointer p, .pointer q, .int .i64 D] w fun e w' => e = .returned (.tuple #[.bool r, .nilIface]) ∧ Below w.heap.size w w') :
    Calls Tryz.prog 225 #[.pointer p, .int .i8 37, .iface 79 (.pointer q), .int .i64 D] w fun e w' => e = .returned (.tuple #[.bool r, .nilIface]) ∧ Below w.heap.size w w' := by
  have m1 := must_dic (.pointer q)
  have HS := Lib.hid h
  clear h
  go_enter Tryz.func225, Tryz.ntmps225
  go_wp2_with fail
  refine HS.out.mono ?_
  rintro e w2 ⟨rfl, hb2⟩
  have HB2 := Lib.hid hb2; clear hb2
  go_wp2
  go_ret2
  exact ⟨rfl, HB2.out⟩
theorem Cst_set (p q : Option Addr) (D : Nat) (r : Bool) (w : World)
    (h : Calls Tryz.prog 240 #[.pointer p, .pointer q] w fun e w' => e = .returned (.tuple #[.bool r, .nilIface]) ∧ Below w.heap.size w w') :
    Calls Tryz.prog 234 #[.pointer p, .int .i8 37, .iface 82 (.pointer q), .int .i64 D] w fun e w' => e = .returned (.tuple #[.bool r, .nilIface]) ∧ Below w.heap.size w w' := by
  have m1 := must_set (.pointer q)
  have HS := Lib.hid h
  clear h
  go_enter Tryz.func234, Tryz.ntmps234
  go_wp2_with fail
  refine HS.out.mono ?_
  rintro e w2 ⟨rfl, hb2⟩
  have HB2 := Lib.hid hb2; clear hb2
  go_wp2
  go_ret2
  exact ⟨rfl, HB2.out⟩
theorem Cst_lst (b1 b2 D : Nat) (s1 s2 : Value) (r : Bool) (w : World) (h1 : w.cell? ⟨b1, 0, none⟩ = some s1) (h2 : w.cell? ⟨b2, 0, none⟩ = some s2) (hs1 : ∃ a n c, s1 = .slice a n c) (hs2 : ∃ a n c, s2 = .slice a n c)
    (h : Calls Tryz.prog 218 #[.int .i8 37, s1, s2, .int .i64 D] w.drew fun e w' => e = .returned (.tuple #[.bool r, .nilIface]) ∧ Below w.drew.heap.size w.drew w') :
    Calls Tryz.prog 212 #[.pointer (some ⟨b1, 0, none⟩), .int .i8 37, .iface 76 (.pointer (some ⟨b2, 0, none⟩)), .int .i64 D] w fun e w' => e = .returned (.tuple #[.bool r, .nilIface]) ∧ Below w.heap.size w w' := by
  obtain ⟨a1, n1, c1, rfl⟩ := hs1
  obtain ⟨a2, n2, c2, rfl⟩ := hs2
  have m1 := must_lst (.pointer (some ⟨b2, 0, none⟩))
  have HS := Lib.hid h
  clear h
  go_enter Tryz.func212, Tryz.ntmps212
  go_wp2_with fail
  go_region_law (go_simp; go_at_call 218; (with_reducible refine HS.out.mono ?_); rintro e w2 ⟨rfl, hb2⟩; have HB2 := Lib.hid (below_undrew hb2); clear hb2)
  all_goals go_wp2
  all_goals go_ret2
  all_goals exact ⟨rfl, HB2.out⟩
end Go.Proofs.YtjkmppdmejgjiaaGreatDoor

/- Walks: CompareDepth of any two values that can be made. -/
set_option linter.unusedVariables false
set_option linter.unusedSimpArgs false
namespace Go.Proofs.YtjkmppdmejgjiaaGreatDoor
open Go.RowKit
open Num

theorem getD_el {l : List Tr} {i : Nat} (h : i < l.length) : l.getD i .non = l[i] := by simp [h]
theorem SaysIff.bool {P : Prop} {w w' : World} {e : Ending} {b : Bool} (h : SaysIff P w e w') (hP : P ↔ b = true) : e = .returned (.tuple #[.bool b, .nilIface]) ∧ Below w.heap.size w w' := by
  obtain ⟨r, rfl, hr, hb⟩ := h
  refine ⟨?_, hb⟩
  have : r = b := by rw [Bool.eq_iff_iff, hr, hP]
  rw [this]
theorem keysOf_getD_mem (l : List Tr) (i : Nat) (h : i < (keysOf l).length) : (keysOf l).getD i .non ∈ keysOf l := by
  rw [getD_el h]; exact List.getElem_mem h
theorem keys_sub : ∀ (l : List Tr) (x : Tr), x ∈ keysOf l → x ∈ l
  | [], x, h => by simp [keysOf] at h
  | [a], x, h => by simp [keysOf] at h
  | a :: b :: l, x, h => by
    rcases List.mem_cons.1 (show x ∈ a :: keysOf l from h) with h | h
    · simp [h]
    · have := keys_sub l x h; simp [this]
theorem vals_sub : ∀ (l : List Tr) (x : Tr), x ∈ valsOf l → x ∈ l
  | [], x, h => by simp [valsOf] at h
  | [a], x, h => by simp [valsOf] at h
  | a :: b :: l, x, h => by
    rcases List.mem_cons.1 (show x ∈ b :: valsOf l from h) with h | h
    · simp [h]
    · have := vals_sub l x h; simp [this]
theorem TabAt.row {w : World} {t : TypeId} {b d : Nat} {P Q : Value → Tr → Prop} {ks vs : List Tr} (h : TabAt w t b P Q d ks vs) : ∃ K V laid, ks.length ≤ 8 ∧ vs.length = ks.length ∧ Row w b t 47 (htCell b laid ks.length (fun i => nzH (hashT d (ks.getD i .non))) K V) ∧
    ∀ i, i < ks.length → P (K i) (ks.getD i .non) ∧ Q (V i) (vs.getD i .non) := by
  obtain ⟨K, V, laid, h8, hv, _, hr, hh⟩ := h
  refine ⟨K, V, laid, h8, hv, hr, fun i hi => ?_⟩
  have := hh i hi (by omega)
  rw [getD_el hi, getD_el (show i < vs.length by omega)]
  exact this

theorem CD_any : ∀ (d D : Nat) (x y : Value) (X Y : Tr) (w : World), d ≤ 11 → StarAt w d x X → StarAt w d y Y → CleanT d X → CleanT d Y → KT w → CL w → d ≤ D → D ≤ 1000000 →
    Calls Tryz.prog 39 #[.int .i8 37, x, y, .int .i64 D] w fun e w' => e = .returned (.tuple #[.bool (eqv d X Y), .nilIface]) ∧ Below w.heap.size w w'
  | 0, _, _, _, _, _, _, _, h, _, _, _, _, _, _, _ => h.elim
  | d + 1, D, x, y, X, Y, w, hd, hx, hy, cx, cy, hk, hcl, hD, hD2 => by
    by_cases hp : X.kind ≤ 5 ∨ X.kind ≠ Y.kind
    · exact CompareDepth_flat d D (by omega) hD2 x y X Y w hx hy hk hp
    · have h5 : ¬ X.kind ≤ 5 := fun h => hp (.inl h)
      have hq : X.kind = Y.kind := Decidable.byContradiction fun h => hp (.inr h)
      clear hp
      have hED : ∀ (l m : List Tr), (∀ k ∈ l, CleanT d k) → (∀ k ∈ m, CleanT d k) → ∀ (u v : Value) (a b : Tr) (W : World), a ∈ l → b ∈ m → StarAt W d u a → StarAt W d v b → Below w.heap.size w W →
          Calls Tryz.prog 21 #[u, v, .int .i64 ((D : Int) - 1)] W fun e w' => e = .returned (.tuple #[.bool (eqv d a b), .nilIface]) ∧ Below W.heap.size W w' := fun l m cl cm u v a b W ha hb hu hv hbw => by
        rw [show (D : Int) - 1 = ((D - 1 : Nat) : Int) by omega]
        exact EqualDepth_of u v _ (eqv d a b) W (CD_any d (D - 1) u v a b W (by omega) hu hv (cl a ha) (cm b hb) (hk.below hbw) (hcl.below hbw) (by omega) (by omega))
      cases X <;> first | (exfalso; simp [Tr.kind] at h5; done) | skip
      all_goals cases Y <;> first | (exfalso; simp [Tr.kind] at hq; done) | skip
      case lst.lst l m =>
        have hx' := hx; have hy' := hy
        obtain ⟨b1, s, rfl, h1, hs⟩ := hx
        obtain ⟨b2, t, rfl, h2, ht⟩ := hy
        have sh : ∀ {s : Value} {l : List Tr}, ElemsAt w (StarAt w d) s l → ∃ a n c, s = .slice a n c := fun h => by
          rcases h with ⟨_, a, c, h⟩ | ⟨_, g, p, c, h, _⟩
          · exact ⟨_, _, _, h⟩
          · exact ⟨_, _, _, h⟩
        have hl : l.length ≤ 8 := cx.2
        have hm : m.length ≤ 8 := cy.2
        exact CompareDepth_same d d D (by omega) _ _ _ _ _ _ _ w hx' hy' rfl (comp_lst _) (cst_lst.1 _) cst_lst.2 (fun W hb =>
          Cst_lst b1 b2 D s t (allTwo (eqv d) l m) W (cell_of_row W b1 0 _ _ (0, 0) ((hb.block _ (Array.getElem?_eq_some_iff.1 h1).1).trans h1)) (cell_of_row W b2 0 _ _ (0, 0) ((hb.block _ (Array.getElem?_eq_some_iff.1 h2).1).trans h2)) (sh hs) (sh ht)
            (sliceCompare_any (StarAt W.drew d) (StarAt W.drew d) (eqv d) D (by omega) hD2 s t l m (by omega) (by omega) W.drew (hs.below hb.drew (fun u T h => h.below hb.drew)) (ht.below hb.drew (fun u T h => h.below hb.drew))
              (fun u v a b W2 ha hb1 hu hv hb2 => hED l m cx.1 cy.1 u v a b W2 ha hb1 (hu.below hb2) (hv.below hb2) (hb.drew.trans (hb2.mono hb.drew.size)))))
      case tup.tup l m =>
        have hx' := hx; have hy' := hy
        obtain ⟨s, rfl, hs⟩ := hx
        obtain ⟨t, rfl, ht⟩ := hy
        have hl : l.length ≤ 16 := cx.2
        have hm : m.length ≤ 16 := cy.2
        exact CompareDepth_same d d D (by omega) _ _ _ _ _ _ _ w hx' hy' rfl (comp_tup _) (cst_tup.1 _) cst_tup.2 (fun W hb =>
          Cst_tup (StarAt W d) (StarAt W d) (eqv d) D (by omega) hD2 s t l m (by omega) (by omega) W (hs.below hb (fun u T h => h.below hb)) (ht.below hb (fun u T h => h.below hb))
            (fun u v a b W2 ha hb1 hu hv hb2 => hED l m cx.1 cy.1 u v a b W2 ha hb1 (hu.below hb2) (hv.below hb2) (hb.trans (hb2.mono hb.size))))
      case dic.dic l m =>
        have hx' := hx; have hy' := hy
        obtain ⟨b1, rfl, el, ht1⟩ := hx
        obtain ⟨b2, rfl, em, ht2⟩ := hy
        obtain ⟨cl, _, _, kl, al⟩ := cx
        obtain ⟨cm, _, _, km, am⟩ := cy
        refine CompareDepth_same d d D (by omega) _ _ _ _ _ _ _ w hx' hy' rfl (comp_dic _) (cst_dic.1 _) cst_dic.2 (fun W hb => Cst_dic _ _ D _ W ?_)
        have r1 := ht1.below hb (P' := StarAt W d) (Q' := StarAt W d) (fun u x h => h.below hb) (fun u x h => h.below hb)
        have r2 := ht2.below hb (P' := StarAt W d) (Q' := StarAt W d) (fun u x h => h.below hb) (fun u x h => h.below hb)
        obtain ⟨K1, V1, laid1, n1, _, q1, e1⟩ := r1.row
        obtain ⟨K2, V2, laid2, n2, _, q2, e2⟩ := r2.row
        have lm : (keysOf m).length = (valsOf m).length := by rw [keysOf_length, valsOf_length]
        have ll : (keysOf l).length = (valsOf l).length := by rw [keysOf_length, valsOf_length]
        refine (dictsEqual_any _ _ b1 b2 _ _ D laid1 laid2 _ _ K1 V1 K2 V2 (fun i => dictIn.lookIn (eqv d) ((keysOf l).getD i .non) ((valsOf l).getD i .non) m) W (by omega) hD2 n1 n2 q1 q2 (fun i hi => ⟨(e1 i hi).1.iface, (e1 i hi).2.iface⟩) (fun i hi W2 hb2 => ?_)).mono (fun e w' h => h.bool ?_)
        · have hbw := hb.trans (hb2.mono hb.size)
          have kx := kl _ (keysOf_getD_mem l i hi)
          refine (Get_of b2 (K1 i) (fun v r w' => Below W2.heap.size W2 w' ∧ (r = false → dictIn.lookIn (eqv d) ((keysOf l).getD i .non) ((valsOf l).getD i .non) m = false) ∧ (r = true → ∀ W3, Below W.heap.size W W3 → Calls Tryz.prog 21 #[V1 i, v, .int .i64 ((D : Int) - 1)] W3 fun e w' => e = .returned (.tuple #[.bool (dictIn.lookIn (eqv d) ((keysOf l).getD i .non) ((valsOf l).getD i .non) m), .nilIface]) ∧ Below W3.heap.size W3 w')) W2 ?_).mono (fun e w' h => h)
          refine (Look_tab _ b2 d (StarAt W d) (keysOf m) (valsOf m) (K1 i) ((keysOf l).getD i .non) W2 (by omega) (r2.below hb2 (fun u x h => h.below hb2) (fun u x h => h)) ((e1 i hi).1.below hb2) kx.1 kx.2 km (fun u y h => h.iface) (hk.below hbw) (hcl.below hbw)).mono ?_
          rintro e w' ⟨tv, uv, r, rfl, hb3, hno, hyes⟩
          have hcomm : ∀ j, j < (keysOf m).length → eqv d ((keysOf m).getD j .non) ((keysOf l).getD i .non) = eqv d ((keysOf l).getD i .non) ((keysOf m).getD j .non) := fun j hj => eqv_comm d _ _ (km _ (keysOf_getD_mem m j hj)).1 kx.1
          refine ⟨tv, uv, r, rfl, hb3, fun h => lookIn_none m em (fun j hj => (hcomm j hj).trans (hno h j hj)), fun h W3 hb4 => ?_⟩
          obtain ⟨j, hj, hej, hqj⟩ := hyes h
          have hat : dictIn.lookIn (eqv d) ((keysOf l).getD i .non) ((valsOf l).getD i .non) m = eqv d ((valsOf l).getD i .non) ((valsOf m).getD j .non) := lookIn_at m j em hj (fun i' hi' => by
            have hf := am.get i' j hi' hj
            cases hc : eqv d ((keysOf m).getD i' .non) ((keysOf l).getD i .non) with
            | false => rfl
            | true =>
              have u1 := (e2 i' (by omega)).1
              have u2 := (e2 j hj).1
              have := eqv_trans d _ _ ((keysOf m).getD j .non) (km _ (keysOf_getD_mem m i' (by omega))).1 kx.1 (km _ (keysOf_getD_mem m j hj)).1 (star_flt d _ _ _ u1) (star_flt d _ _ _ (e1 i hi).1) (star_flt d _ _ _ u2) hc
              rw [hf, hej] at this
              exact this.symm) ((hcomm j hj).trans hej)
          rw [hat]
          have vm : ∀ {l : List Tr} {i : Nat}, i < (valsOf l).length → (valsOf l).getD i .non ∈ l := fun {l i} h => vals_sub l _ (by rw [getD_el h]; exact List.getElem_mem h)
          exact hED l m cl cm _ _ _ _ W3 (vm (by omega)) (vm (by omega)) ((e1 i hi).2.below hb4) (hqj.below hb4) (hb.trans (hb4.mono hb.size))
        · show AllG _ _ _ ↔ (l.length == m.length && dictIn (eqv d) m l) = true
          rw [Bool.and_eq_true, dictIn_all l el, beq_iff_eq]
          unfold AllG
          rw [keysOf_length, keysOf_length]
          constructor
          · rintro ⟨h1, h2⟩
            exact ⟨by omega, h2⟩
          · rintro ⟨h1, h2⟩
            exact ⟨by omega, h2⟩
      case set.set l m =>
        have hx' := hx; have hy' := hy
        obtain ⟨b1, rfl, ht1⟩ := hx
        obtain ⟨b2, rfl, ht2⟩ := hy
        obtain ⟨cl, _, kl, al⟩ := cx
        obtain ⟨cm, _, km, am⟩ := cy
        refine CompareDepth_same d d D (by omega) _ _ _ _ _ _ _ w hx' hy' rfl (comp_set _) (cst_set.1 _) cst_set.2 (fun W hb => Cst_set _ _ D _ W ?_)
        have r1 := ht1.below hb (P' := StarAt W d) (fun u x h => h.below hb) (fun u x h => h)
        have r2 := ht2.below hb (P' := StarAt W d) (fun u x h => h.below hb) (fun u x h => h)
        obtain ⟨K1, V1, laid1, n1, _, q1, e1⟩ := r1.row
        obtain ⟨K2, V2, laid2, n2, _, q2, e2⟩ := r2.row
        have gm : ∀ (l : List Tr) i, i < l.length → l.getD i .non ∈ l := fun l i h => by rw [getD_el h]; exact List.getElem_mem h
        refine (setsEqual_any _ _ b1 b2 _ _ laid1 laid2 _ _ K1 V1 K2 V2 (fun i => m.any fun y => eqv d y (l.getD i .non)) W n1 n2 q1 q2 (fun i hi => (e1 i hi).1.iface) (fun i hi W2 hb2 => ?_)).mono (fun e w' h => h.bool ?_)
        · have hbw := hb.trans (hb2.mono hb.size)
          have kx := kl _ (gm l i hi)
          have hcomm : ∀ j, j < m.length → eqv d (m.getD j .non) (l.getD i .non) = eqv d (l.getD i .non) (m.getD j .non) := fun j hj => eqv_comm d _ _ (km _ (gm m j hj)).1 kx.1
          refine (Has_of b2 (K1 i) (fun r w' => r = (m.any fun y => eqv d y (l.getD i .non)) ∧ Below W2.heap.size W2 w') W2 ?_).mono (fun e w' h => by obtain ⟨r, rfl, rfl, h⟩ := h; exact ⟨rfl, h⟩)
          refine (Look_tab _ b2 d (fun u _ => u = .iface 99 (.int .u8 0)) m m (K1 i) (l.getD i .non) W2 (by omega) (r2.below hb2 (fun u x h => h.below hb2) (fun u x h => h)) ((e1 i hi).1.below hb2) kx.1 kx.2 km (fun u y h => ⟨_, _, h⟩) (hk.below hbw) (hcl.below hbw)).mono ?_
          rintro e w' ⟨tv, uv, r, rfl, hb3, hno, hyes⟩
          refine ⟨tv, uv, r, rfl, ?_, hb3⟩
          cases r with
          | false =>
            symm
            rw [List.any_eq_false]
            intro y hy
            obtain ⟨j, hj, rfl⟩ := List.getElem_of_mem hy
            have h1 := hno rfl j hj
            rw [← hcomm j hj, getD_el hj] at h1
            exact fun h => by rw [h1] at h; cases h
          | true =>
            symm
            rw [List.any_eq_true]
            obtain ⟨j, hj, hej, _⟩ := hyes rfl
            exact ⟨m.getD j .non, gm m j hj, (hcomm j hj).trans hej⟩
        · show AllG _ _ _ ↔ (l.length == m.length && l.all fun x => m.any fun y => eqv d y x) = true
          rw [Bool.and_eq_true, beq_iff_eq, List.all_eq_true]
          unfold AllG
          constructor
          · rintro ⟨h1, h2⟩
            refine ⟨h1, fun x hx => ?_⟩
            obtain ⟨i, hi, rfl⟩ := List.getElem_of_mem hx
            have h3 : (m.any fun y => eqv d y (l.getD i .non)) = true := h2 i hi
            rwa [getD_el hi] at h3
          · rintro ⟨h1, h2⟩
            exact ⟨h1, fun i hi => h2 _ (gm l i hi)⟩
end Go.Proofs.YtjkmppdmejgjiaaGreatDoor

import Derived.Test.YtpcleebnfgnhdaaGreatDoorGz24
import Derived.Maps.AppendAt
/- Walks: a value of the package is made of one of the specification. -/
set_option linter.unusedVariables false
set_option linter.unusedSimpArgs false
namespace Go.Proofs.YtpcleebnfgnhdaaGreatDoor
open Go.RowKit
open Num

theorem scalar_none (w : World) :
    Calls Tryz.prog 58 #[.int .i64 0, valSix 0 0 ⟨#[]⟩ (.slice none 0 0)] w fun e w' => e = .returned (.tuple #[.iface 104 (.int .u8 0), .bool true]) ∧ Below w.heap.size w w' := by
  go_enter Tryz.func58, Tryz.ntmps58
  go_wp2
  go_ret2
  exact ⟨rfl, (Below.refl _ _).alloc (Nat.le_refl _) _⟩
theorem scalar_bytes (text : ByteArray) (w : World) :
    Calls Tryz.prog 58 #[.int .i64 5, valSix 5 0 text (.slice none 0 0)] w fun e w' => e = .returned (.tuple #[.iface 114 (.string text), .bool true]) ∧ Below w.heap.size w w' := by
  go_enter Tryz.func58, Tryz.ntmps58
  go_wp2
  go_ret2
  exact ⟨rfl, (Below.refl _ _).alloc (Nat.le_refl _) _⟩
theorem value_none (w : World) :
    Calls Tryz.prog 67 #[valSix 0 0 ⟨#[]⟩ (.slice none 0 0)] w fun e w' => e = .returned (.tuple #[.iface 104 (.int .u8 0), .bool true]) ∧ Below w.heap.size w w' := by
  have HW := Lib.hid (fun W : World => scalar_none W)
  go_enter Tryz.func67, Tryz.ntmps67
  go_wp2_with fail
  refine (HW.out _).mono ?_
  rintro e w' ⟨rfl, hb⟩
  go_wp2
  go_ret2
  exact ⟨rfl, ((Below.refl _ _).alloc (Nat.le_refl _) _).trans (hb.mono (by simp))⟩
theorem value_bytes (text : ByteArray) (w : World) :
    Calls Tryz.prog 67 #[valSix 5 0 text (.slice none 0 0)] w fun e w' => e = .returned (.tuple #[.iface 114 (.string text), .bool true]) ∧ Below w.heap.size w w' := by
  have HW := Lib.hid (fun W : World => scalar_bytes text W)
  go_enter Tryz.func67, Tryz.ntmps67
  go_wp2_with fail
  refine (HW.out _).mono ?_
  rintro e w' ⟨rfl, hb⟩
  go_wp2
  go_ret2
  exact ⟨rfl, ((Below.refl _ _).alloc (Nat.le_refl _) _).trans (hb.mono (by simp))⟩

theorem NewList_any (a : Option Addr) (n c : Nat) (w : World) :
    Calls Tryz.prog 56 #[.slice a n c] w fun e w' => e = .returned (.pointer (some ⟨w.heap.size, 0, none⟩)) ∧ w.alloc (.cells #[.slice a n c, .bool false, .int .u32 0] 162) = w' := by
  go_enter Tryz.func56, Tryz.ntmps56
  go_wp2
  go_ret
  exact ⟨rfl, rfl⟩

theorem ElemsAt.shape {w : World} {P : Value → Tr → Prop} {s : Value} {l : List Tr} (h : ElemsAt w P s l) : ∃ a c, s = .slice a l.length c := by
  rcases h with ⟨rfl, a, c, rfl⟩ | ⟨_, g, p, c, rfl, _⟩
  · exact ⟨a, c, rfl⟩
  · exact ⟨_, c, rfl⟩
theorem KidsAt.shape {w : World} {P : Value → Tr → Prop} {s : Value} {l : List Tr} (h : KidsAt w P s l) : ∃ a c, s = .slice a l.length c := by
  rcases h with ⟨rfl, a, c, rfl⟩ | ⟨_, g, p, c, rfl, _⟩
  · exact ⟨a, c, rfl⟩
  · exact ⟨_, c, rfl⟩

/-- what 'values' leaves, behind the box that 'value' makes -/
def KidsMade (d : Nat) (l : List Tr) (w : World) (s : Value) (w' : World) : Prop := ElemsAt w' (fun u T => NewIn w.heap.size w' fun W => StarAt W d u T) s l ∧ (∀ a n c, s = .slice (some a) n c → 0 < n → w.heap.size ≤ a.block) ∧ Below w.heap.size w w'
theorem elems_le {w : World} {B B' d : Nat} {s : Value} {l : List Tr} (h : ElemsAt w (fun u T => NewIn B w fun W => StarAt W d u T) s l) (hB : B' ≤ B) : ElemsAt w (fun u T => NewIn B' w fun W => StarAt W d u T) s l :=
  h.imp (fun u t _ h => h.le hB)

theorem value_lst (d : Nat) (ks : Value) (l : List Tr) (w : World) (hks : ∃ a n c, ks = .slice a n c)
    (hV : ∀ W, Below w.heap.size w W → Calls Tryz.prog 44 #[ks] W fun e w' => ∃ s, e = .returned (.tuple #[s, .bool true]) ∧ KidsMade d l W s w') :
    Calls Tryz.prog 67 #[valSix 6 0 ⟨#[]⟩ ks] w (ValIs (d + 1) (.lst l) w) := by
  obtain ⟨a, n, c, rfl⟩ := hks
  have HV := Lib.hid (hV (w.alloc (.cells #[.int .i64 6, .bool false, .slice none 0 0, .int .u64 0, .string ⟨#[]⟩, .slice a n c] 32)) ((Below.refl _ _).alloc (Nat.le_refl _) _))
  clear hV
  go_enter Tryz.func67, Tryz.ntmps67
  go_wp2_with fail
  refine HV.out.mono ?_
  rintro e w3 ⟨s, rfl, hs⟩
  obtain ⟨sa, sc, rfl⟩ := hs.1.shape
  have d0 := (cell_of_row _ _ 0 _ _ (0, 0) ((hs.2.2.block w.heap.size (by simp)).trans (heap_alloc_new w _))).trans rfl
  have HS := Lib.hid hs
  clear hs
  go_wp2_with fail
  refine (NewList_any _ _ _ _).mono ?_
  rintro e w4 ⟨rfl, rfl⟩
  go_wp2
  go_ret2
  obtain ⟨hE, hN, hb⟩ := HS.out
  have hb0 : Below w.heap.size w w3 := ((Below.refl _ _).alloc (Nat.le_refl _) _).trans (hb.mono (by simp))
  refine ⟨_, rfl, fun W h1 h2 => ?_, hb0.alloc hb0.size _⟩
  have h3 : w3.heap.size ≤ W.heap.size := by simp at h1; omega
  refine ⟨w3.heap.size, .slice sa l.length sc, rfl, ?_, ?_⟩
  · exact (h2 _ hb0.size (by simp)).trans (heap_alloc_new w3 _)
  · refine (elems_le (B' := w.heap.size) hE (by simp)).newIn (F := fun W u T => StarAt W d u T) (fun a n c e h => Nat.le_trans (by simp) (hN a n c e h)) W h3 (fun b hB hl => ?_)
    exact (h2 b hB (by simp; omega)).trans (Below.heap_alloc w3 _ b hl)

theorem value_tup (d : Nat) (ks : Value) (l : List Tr) (w : World) (hks : ∃ a n c, ks = .slice a n c)
    (hV : ∀ W, Below w.heap.size w W → Calls Tryz.prog 44 #[ks] W fun e w' => ∃ s, e = .returned (.tuple #[s, .bool true]) ∧ KidsMade d l W s w') :
    Calls Tryz.prog 67 #[valSix 7 0 ⟨#[]⟩ ks] w (ValIs (d + 1) (.tup l) w) := by
  obtain ⟨a, n, c, rfl⟩ := hks
  have HV := Lib.hid (hV (w.alloc (.cells #[.int .i64 7, .bool false, .slice none 0 0, .int .u64 0, .string ⟨#[]⟩, .slice a n c] 32)) ((Below.refl _ _).alloc (Nat.le_refl _) _))
  clear hV
  go_enter Tryz.func67, Tryz.ntmps67
  go_wp2_with fail
  refine HV.out.mono ?_
  rintro e w3 ⟨s, rfl, hs⟩
  obtain ⟨sa, sc, rfl⟩ := hs.1.shape
  have d0 := (cell_of_row _ _ 0 _ _ (0, 0) ((hs.2.2.block w.heap.size (by simp)).trans (heap_alloc_new w _))).trans rfl
  have HS := Lib.hid hs
  clear hs
  go_wp2
  go_ret2
  obtain ⟨hE, hN, hb⟩ := HS.out
  have hb0 : Below w.heap.size w w3 := ((Below.refl _ _).alloc (Nat.le_refl _) _).trans (hb.mono (by simp))
  exact ⟨_, rfl, ((elems_le (B' := w.heap.size) hE (by simp)).newIn (F := fun W u T => StarAt W d u T) (fun a n c e h => Nat.le_trans (by simp) (hN a n c e h))).imp (fun W h => ⟨_, rfl, h⟩), hb0⟩

theorem value_dic (d : Nat) (ks : Value) (l : List Tr) (w : World) (hks : ∃ a n c, ks = .slice a n c) (hd : d ≤ 10) (he : l.length % 2 = 0) (hl : l.length ≤ 16)
    (hK : ∀ k ∈ keysOf l, KeyT d k ∧ Slim d k) (hA : Apart d (keysOf l)) (hkt : KT w) (hcl : CL w)
    (hV : ∀ W, Below w.heap.size w W → Calls Tryz.prog 44 #[ks] W fun e w' => ∃ s, e = .returned (.tuple #[s, .bool true]) ∧ KidsMade d l W s w') :
    Calls Tryz.prog 67 #[valSix 8 0 ⟨#[]⟩ ks] w (ValIs (d + 1) (.dic l) w) := by
  obtain ⟨a, n, c, rfl⟩ := hks
  have HV := Lib.hid (hV (w.alloc (.cells #[.int .i64 8, .bool false, .slice none 0 0, .int .u64 0, .string ⟨#[]⟩, .slice a n c] 32)) ((Below.refl _ _).alloc (Nat.le_refl _) _))
  have HD := Lib.hid (fun (s : Value) (W : World) (hb : Below w.heap.size w W) (hs : ElemsAt W (fun u T => NewIn w.heap.size W fun W => StarAt W d u T) s l) => dict_any (fun u T => NewIn w.heap.size W fun W => StarAt W d u T) d s l W hd he hl (fun u T h => h.self) hs hK hA (hkt.below hb) (hcl.below hb))
  clear hV hK hA hkt hcl
  go_enter Tryz.func67, Tryz.ntmps67
  go_wp2_with fail
  refine HV.out.mono ?_
  rintro e w3 ⟨s, rfl, hs⟩
  obtain ⟨sa, sc, rfl⟩ := hs.1.shape
  have d0 := (cell_of_row _ _ 0 _ _ (0, 0) ((hs.2.2.block w.heap.size (by simp)).trans (heap_alloc_new w _))).trans rfl
  have hb0 : Below w.heap.size w w3 := ((Below.refl _ _).alloc (Nat.le_refl _) _).trans (hs.2.2.mono (by simp))
  have HC := Lib.hid (HD.out _ w3 hb0 (elems_le (B' := w.heap.size) hs.1 (by simp)))
  have HB0 := Lib.hid hb0
  clear hs hb0
  go_wp2_with fail
  refine HC.out.mono ?_
  rintro e w4 ⟨b, rfl, hbb, htab, hb4⟩
  have HT := Lib.hid htab; have HB4 := Lib.hid hb4; have HBB := Lib.hid hbb
  clear htab hb4 hbb
  go_wp2
  go_ret2
  exact ⟨_, rfl, (HT.out.newIn (F := fun W u T => StarAt W d u T) (G := fun W u T => StarAt W d u T) (Nat.le_trans HB0.out.size HBB.out) HB4.out).imp (fun W h => ⟨b, rfl, he, h⟩), HB0.out.trans (HB4.out.mono HB0.out.size)⟩

theorem TabAt.imp {w : World} {t : TypeId} {b : Nat} {P P' Q Q' : Value → Tr → Prop} {d : Nat} {ks vs : List Tr} (h : TabAt w t b P Q d ks vs) (hP : ∀ u x, P u x → P' u x) (hQ : ∀ u x, Q u x → Q' u x) : TabAt w t b P' Q' d ks vs :=
  h.below (Below.refl _ _) hP hQ
theorem value_set (d : Nat) (ks : Value) (l : List Tr) (w : World) (hks : ∃ a n c, ks = .slice a n c) (hd : d ≤ 10) (hl : l.length ≤ 8)
    (hK : ∀ k ∈ l, KeyT d k ∧ Slim d k) (hA : Apart d l) (hkt : KT w) (hcl : CL w)
    (hV : ∀ W, Below w.heap.size w W → Calls Tryz.prog 44 #[ks] W fun e w' => ∃ s, e = .returned (.tuple #[s, .bool true]) ∧ KidsMade d l W s w') :
    Calls Tryz.prog 67 #[valSix 9 0 ⟨#[]⟩ ks] w (ValIs (d + 1) (.set l) w) := by
  obtain ⟨a, n, c, rfl⟩ := hks
  have HV := Lib.hid (hV (w.alloc (.cells #[.int .i64 9, .bool false, .slice none 0 0, .int .u64 0, .string ⟨#[]⟩, .slice a n c] 32)) ((Below.refl _ _).alloc (Nat.le_refl _) _))
  have HD := Lib.hid (fun (s : Value) (W : World) (hb : Below w.heap.size w W) (hs : ElemsAt W (fun u T => NewIn w.heap.size W fun W => StarAt W d u T) s l) => set_any (fun u T => NewIn w.heap.size W fun W => StarAt W d u T) d s l W hd hl (fun u T h => h.self) hs hK hA (hkt.below hb) (hcl.below hb))
  clear hV hK hA hkt hcl
  go_enter Tryz.func67, Tryz.ntmps67
  go_wp2_with fail
  refine HV.out.mono ?_
  rintro e w3 ⟨s, rfl, hs⟩
  obtain ⟨sa, sc, rfl⟩ := hs.1.shape
  have d0 := (cell_of_row _ _ 0 _ _ (0, 0) ((hs.2.2.block w.heap.size (by simp)).trans (heap_alloc_new w _))).trans rfl
  have hb0 : Below w.heap.size w w3 := ((Below.refl _ _).alloc (Nat.le_refl _) _).trans (hs.2.2.mono (by simp))
  have HC := Lib.hid (HD.out _ w3 hb0 (elems_le (B' := w.heap.size) hs.1 (by simp)))
  have HB0 := Lib.hid hb0
  clear hs hb0
  go_wp2_with fail
  refine HC.out.mono ?_
  rintro e w4 ⟨b, rfl, hbb, htab, hb4⟩
  have HT := Lib.hid htab; have HB4 := Lib.hid hb4; have HBB := Lib.hid hbb
  clear htab hb4 hbb
  go_wp2
  go_ret2
  exact ⟨_, rfl, ((HT.out.imp (Q' := fun u T => NewIn w.heap.size w3 fun W => u = .iface 104 (.int .u8 0)) (fun _ _ h => h) (fun u T h => fun _ _ _ => h)).newIn (F := fun W u T => StarAt W d u T) (G := fun W u T => u = .iface 104 (.int .u8 0)) (Nat.le_trans HB0.out.size HBB.out) HB4.out).imp (fun W h => ⟨b, rfl, h⟩), HB0.out.trans (HB4.out.mono HB0.out.size)⟩

/-- a tree that can be made: short, its keys apart -/
def CleanT : Nat → Tr → Prop
  | 0, _ => False
  | d + 1, x => (∀ k ∈ x.kids, CleanT d k) ∧
    match x with
    | .lst l => l.length ≤ 8
    | .tup l => l.length ≤ 16
    | .dic l => l.length % 2 = 0 ∧ l.length ≤ 16 ∧ (∀ k ∈ keysOf l, KeyT d k ∧ Slim d k) ∧ Apart d (keysOf l)
    | .set l => l.length ≤ 8 ∧ (∀ k ∈ l, KeyT d k ∧ Slim d k) ∧ Apart d l
    | _ => True

theorem nw_40 {V m k : Nat} (hN : Nb m V) (hm : m ≤ 40) (hk : Nw k V) : k ≤ 1048576 := by
  by_cases h : k ≤ 6
  · omega
  · exfalso
    have h1 := hk.2 (by omega)
    have h2 := hN.1
    have h3 : 2 ^ (8 * m) ≤ 2 ^ (64 * (k - 1)) := Nat.pow_le_pow_right (by decide) (by omega)
    omega

theorem value_any : ∀ (d : Nat) (v : Value) (T : Tr) (w : World), d ≤ 11 → ValAt w d v T → CleanT d T → KT w → CL w → Calls Tryz.prog 67 #[v] w (ValIs d T w)
  | 0, _, _, _, _, h, _, _, _ => h.elim
  | d + 1, v, T, w, hd, h, hc, hkt, hcl => by
    have hVS : ∀ (ks : Value) (l : List Tr), KidsAt w (ValAt w d) ks l → T.kids = l → l.length ≤ 1000000 → ∀ W, Below w.heap.size w W → Calls Tryz.prog 44 #[ks] W fun e w' => ∃ s, e = .returned (.tuple #[s, .bool true]) ∧ KidsMade d l W s w' := fun ks l hk hT hl W hb =>
      (values_any d ks l W hl (hk.below hb (fun u t h => h.below hb)) (fun u T2 W2 hT2 hv hb2 => value_any d u T2 W2 (by omega) hv (hc.1 T2 (hT ▸ hT2)) ((hkt.below hb).below hb2) ((hcl.below hb).below hb2))).mono (by
        rintro e w' ⟨s, rfl, h1, h2, h3⟩
        exact ⟨s, rfl, h1, h2, h3⟩)
    cases T with
    | non =>
      obtain rfl := h
      exact (value_none w).mono (by rintro e w' ⟨rfl, hb⟩; exact ⟨_, rfl, fun W _ _ => rfl, hb⟩)
    | bool b =>
      obtain rfl := h
      cases b
      · exact (value_bool 0 (by omega) w).mono (by rintro e w' ⟨rfl, hb⟩; exact ⟨_, rfl, fun W _ _ => rfl, hb⟩)
      · exact (value_bool 1 (by omega) w).mono (by rintro e w' ⟨rfl, hb⟩; exact ⟨_, rfl, fun W _ _ => rfl, hb⟩)
    | int n V =>
      obtain ⟨s, m, rfl, hm, h1, h2⟩ := h
      refine (value_int n s m V w hm (by omega) h2).mono ?_
      rintro e w' ⟨v, rfl, hI, hb⟩
      exact ⟨_, rfl, hI.newIn.imp (fun W h => ⟨v, rfl, h, h2, fun k hk => nw_40 hm.1 h1 hk⟩), hb⟩
    | flt B =>
      obtain ⟨rfl, hB⟩ := h
      exact (value_float B hB w).mono (by rintro e w' ⟨rfl, hb⟩; exact ⟨_, rfl, fun W _ _ => ⟨rfl, hB⟩, hb⟩)
    | str s =>
      obtain ⟨rfl, hs⟩ := h
      exact (value_string s w).mono (by rintro e w' ⟨rfl, hb⟩; exact ⟨_, rfl, fun W _ _ => ⟨rfl, hs⟩, hb⟩)
    | byt s =>
      obtain ⟨rfl, hs⟩ := h
      exact (value_bytes s w).mono (by rintro e w' ⟨rfl, hb⟩; exact ⟨_, rfl, fun W _ _ => ⟨rfl, hs⟩, hb⟩)
    | lst l =>
      obtain ⟨ks, rfl, hk⟩ := h
      have h8 : l.length ≤ 8 := hc.2
      obtain ⟨a, c, e⟩ := hk.shape
      exact value_lst d ks l w ⟨a, _, c, e⟩ (hVS ks l hk rfl (by omega))
    | tup l =>
      obtain ⟨ks, rfl, hk⟩ := h
      have h8 : l.length ≤ 16 := hc.2
      obtain ⟨a, c, e⟩ := hk.shape
      exact value_tup d ks l w ⟨a, _, c, e⟩ (hVS ks l hk rfl (by omega))
    | dic l =>
      obtain ⟨ks, rfl, hk⟩ := h
      obtain ⟨h1, h2, h3, h4⟩ : l.length % 2 = 0 ∧ l.length ≤ 16 ∧ (∀ k ∈ keysOf l, KeyT d k ∧ Slim d k) ∧ Apart d (keysOf l) := hc.2
      obtain ⟨a, c, e⟩ := hk.shape
      exact value_dic d ks l w ⟨a, _, c, e⟩ (by omega) h1 h2 h3 h4 hkt hcl (hVS ks l hk rfl (by omega))
    | set l =>
      obtain ⟨ks, rfl, hk⟩ := h
      obtain ⟨h1, h2, h3⟩ : l.length ≤ 8 ∧ (∀ k ∈ l, KeyT d k ∧ Slim d k) ∧ Apart d l := hc.2
      obtain ⟨a, c, e⟩ := hk.shape
      exact value_set d ks l w ⟨a, _, c, e⟩ (by omega) h1 h2 h3 hkt hcl (hVS ks l hk rfl (by omega))
end Go.Proofs.YtpcleebnfgnhdaaGreatDoor

/- Plain: a slice of values of the specification that a call makes and appends to. -/
set_option linter.unusedVariables false
set_option linter.unusedSimpArgs false
namespace Go.Proofs.YtpcleebnfgnhdaaGreatDoor
open Go.RowKit
open Num

/-- a magnitude whose bytes lie in a block of S -/
def MagB (w : World) (S : Nat → Prop) (s : Value) (n V : Nat) : Prop := MagAt w s n V ∧ ∀ a k c, s = .slice (some a) k c → 0 < n → S a.block
/-- a slice of values of the specification in blocks of S -/
def KidsB (w : World) (S : Nat → Prop) (P : Value → Tr → Prop) (ks : Value) (l : List Tr) : Prop :=
  (l = [] ∧ ∃ a c, ks = .slice a 0 c) ∨
  (0 < l.length ∧ ∃ g p c, ks = .slice (some ⟨g, p, none⟩) l.length c ∧ S g ∧ l.length ≤ c ∧ c ≤ 9223372036854775807 ∧ g < w.heap.size ∧ ∀ i (h : i < l.length), ∃ u, V6 w g (p + i * 6) u ∧ P u l[i])
/-- a value of the specification, of so many levels, in blocks of S -/
def ValB (w : World) (S : Nat → Prop) : Nat → Value → Tr → Prop
  | 0, _, _ => False
  | d + 1, v, T =>
    match T with
    | .non => v = valSix 0 0 ⟨#[]⟩ (.slice none 0 0)
    | .bool b => v = valSix 1 (if b then 1 else 0) ⟨#[]⟩ (.slice none 0 0)
    | .int n V => ∃ s m, v = .agg #[.int .i64 2, .bool n, s, .int .u64 0, .string ⟨#[]⟩, .slice none 0 0] ∧ MagB w S s m V ∧ m ≤ 40 ∧ (n = true → 0 < V)
    | .flt F => v = valSix 3 F ⟨#[]⟩ (.slice none 0 0) ∧ F < 18446744073709551616
    | .str s => v = valSix 4 0 s (.slice none 0 0) ∧ s.size ≤ 60
    | .byt s => v = valSix 5 0 s (.slice none 0 0) ∧ s.size ≤ 60
    | .lst l => ∃ ks, v = valSix 6 0 ⟨#[]⟩ ks ∧ KidsB w S (ValB w S d) ks l
    | .tup l => ∃ ks, v = valSix 7 0 ⟨#[]⟩ ks ∧ KidsB w S (ValB w S d) ks l
    | .dic l => ∃ ks, v = valSix 8 0 ⟨#[]⟩ ks ∧ KidsB w S (ValB w S d) ks l
    | .set l => ∃ ks, v = valSix 9 0 ⟨#[]⟩ ks ∧ KidsB w S (ValB w S d) ks l

theorem V6.turn {w w' : World} {g p : Nat} {v : Value} (h : V6 w g p v) (hb : w'.heap[g]? = w.heap[g]?) : V6 w' g p v := by
  obtain ⟨c0, c1, c2, c3, c4, c5, e, h0, h1, h2, h3, h4, h5⟩ := h
  exact ⟨c0, c1, c2, c3, c4, c5, e, (World.cell?_of_block (w := w) (a := ⟨g, p, none⟩) hb).trans h0, (World.cell?_of_block (w := w) (a := ⟨g, p + 1, none⟩) hb).trans h1, (World.cell?_of_block (w := w) (a := ⟨g, p + 2, none⟩) hb).trans h2, (World.cell?_of_block (w := w) (a := ⟨g, p + 3, none⟩) hb).trans h3, (World.cell?_of_block (w := w) (a := ⟨g, p + 4, none⟩) hb).trans h4, (World.cell?_of_block (w := w) (a := ⟨g, p + 5, none⟩) hb).trans h5⟩
theorem MagB.turn {w w' : World} {S S' : Nat → Prop} {s : Value} {n V : Nat} (h : MagB w S s n V) (hS : ∀ b, S b → S' b) (hs : w.heap.size ≤ w'.heap.size) (hb : ∀ b, S b → b < w.heap.size → w'.heap[b]? = w.heap[b]?) : MagB w' S' s n V := by
  obtain ⟨⟨hN, h⟩, hg⟩ := h
  refine ⟨⟨hN, ?_⟩, fun a k c e h0 => hS _ (hg a k c e h0)⟩
  rcases h with h | ⟨h0, g, p, c, rfl, hc, hl, hk⟩
  · exact .inl h
  · exact .inr ⟨h0, g, p, c, rfl, hc, by omega, fun i hi => (World.cell?_of_block (w := w) (a := ⟨g, p + i, none⟩) (hb g (hg _ _ _ rfl h0) hl)).trans (hk i hi)⟩
theorem KidsB.turn {w w' : World} {S S' : Nat → Prop} {P Q : Value → Tr → Prop} {ks : Value} {l : List Tr} (h : KidsB w S P ks l) (hS : ∀ b, S b → S' b) (hs : w.heap.size ≤ w'.heap.size) (hb : ∀ b, S b → b < w.heap.size → w'.heap[b]? = w.heap[b]?) (hPQ : ∀ u t, P u t → Q u t) : KidsB w' S' Q ks l := by
  rcases h with h | ⟨h0, g, p, c, e, hg, hc, hc2, hl, hk⟩
  · exact .inl h
  · exact .inr ⟨h0, g, p, c, e, hS g hg, hc, hc2, by omega, fun i hi => by
      obtain ⟨u, hu, hp⟩ := hk i hi
      exact ⟨u, hu.turn (hb g hg hl), hPQ _ _ hp⟩⟩
theorem ValB.turn {w w' : World} {S S' : Nat → Prop} (hS : ∀ b, S b → S' b) (hs : w.heap.size ≤ w'.heap.size) (hb : ∀ b, S b → b < w.heap.size → w'.heap[b]? = w.heap[b]?) : ∀ {d : Nat} {v : Value} {T : Tr}, ValB w S d v T → ValB w' S' d v T
  | 0, _, _, h => h
  | d + 1, v, T, h => by
    cases T with
    | non => exact h
    | bool b => exact h
    | int n V => obtain ⟨s, m, e, hm, h1, h2⟩ := h; exact ⟨s, m, e, hm.turn hS hs hb, h1, h2⟩
    | flt F => exact h
    | str s => exact h
    | byt s => exact h
    | lst l => obtain ⟨ks, e, hk⟩ := h; exact ⟨ks, e, hk.turn hS hs hb (fun u t h => ValB.turn hS hs hb h)⟩
    | tup l => obtain ⟨ks, e, hk⟩ := h; exact ⟨ks, e, hk.turn hS hs hb (fun u t h => ValB.turn hS hs hb h)⟩
    | dic l => obtain ⟨ks, e, hk⟩ := h; exact ⟨ks, e, hk.turn hS hs hb (fun u t h => ValB.turn hS hs hb h)⟩
    | set l => obtain ⟨ks, e, hk⟩ := h; exact ⟨ks, e, hk.turn hS hs hb (fun u t h => ValB.turn hS hs hb h)⟩
theorem ValB.below {w w' : World} {S : Nat → Prop} {d : Nat} {v : Value} {T : Tr} (h : ValB w S d v T) (hb : Below w.heap.size w w') : ValB w' S d v T := h.turn (fun _ h => h) hb.size (fun b _ hl => hb.block b hl)
theorem ValB.sub {w : World} {S S' : Nat → Prop} {d : Nat} {v : Value} {T : Tr} (h : ValB w S d v T) (hS : ∀ b, S b → S' b) : ValB w S' d v T := h.turn hS (Nat.le_refl _) (fun _ _ _ => rfl)
theorem KidsB.at_ {w : World} {S : Nat → Prop} {P Q : Value → Tr → Prop} {ks : Value} {l : List Tr} (h : KidsB w S P ks l) (hPQ : ∀ u t, P u t → Q u t) : KidsAt w Q ks l := by
  rcases h with h | ⟨h0, g, p, c, e, hg, hc, hc2, hl, hk⟩
  · exact .inl h
  · exact .inr ⟨h0, g, p, c, e, hc, hc2, hl, fun i hi => by
      obtain ⟨u, hu, hp⟩ := hk i hi
      exact ⟨u, hu, hPQ _ _ hp⟩⟩
theorem ValB.at_ {w : World} {S : Nat → Prop} : ∀ {d : Nat} {v : Value} {T : Tr}, ValB w S d v T → ValAt w d v T
  | 0, _, _, h => h
  | d + 1, v, T, h => by
    cases T with
    | non => exact h
    | bool b => exact h
    | int n V => obtain ⟨s, m, e, hm, h1, h2⟩ := h; exact ⟨s, m, e, hm.1, h1, h2⟩
    | flt F => exact h
    | str s => exact h
    | byt s => exact h
    | lst l => obtain ⟨ks, e, hk⟩ := h; exact ⟨ks, e, hk.at_ (fun u t h => ValB.at_ h)⟩
    | tup l => obtain ⟨ks, e, hk⟩ := h; exact ⟨ks, e, hk.at_ (fun u t h => ValB.at_ h)⟩
    | dic l => obtain ⟨ks, e, hk⟩ := h; exact ⟨ks, e, hk.at_ (fun u t h => ValB.at_ h)⟩
    | set l => obtain ⟨ks, e, hk⟩ := h; exact ⟨ks, e, hk.at_ (fun u t h => ValB.at_ h)⟩
/-- what lies in S lies in what of S is there -/
theorem ValB.there {w : World} {S : Nat → Prop} : ∀ {d : Nat} {v : Value} {T : Tr}, ValB w S d v T → ValB w (fun b => S b ∧ b < w.heap.size) d v T
  | 0, _, _, h => h
  | d + 1, v, T, h => by
    have hk : ∀ {ks : Value} {l : List Tr}, KidsB w S (ValB w S d) ks l → KidsB w (fun b => S b ∧ b < w.heap.size) (ValB w (fun b => S b ∧ b < w.heap.size) d) ks l := fun hk => by
      rcases hk with h | ⟨h0, g, p, c, e, hg, hc, hc2, hl, hk⟩
      · exact .inl h
      · exact .inr ⟨h0, g, p, c, e, ⟨hg, hl⟩, hc, hc2, hl, fun i hi => by
          obtain ⟨u, hu, hp⟩ := hk i hi
          exact ⟨u, hu, ValB.there hp⟩⟩
    cases T with
    | non => exact h
    | bool b => exact h
    | int n V =>
      obtain ⟨s, m, e, hm, h1, h2⟩ := h
      refine ⟨s, m, e, ⟨hm.1, fun a k c e2 h0 => ⟨hm.2 a k c e2 h0, ?_⟩⟩, h1, h2⟩
      rcases hm.1.2 with ⟨h3, _⟩ | ⟨_, g, p, c', e3, _, hl, _⟩
      · omega
      · rw [e3] at e2; injection e2 with e2; injection e2 with e2; rw [← e2]; exact hl
    | flt F => exact h
    | str s => exact h
    | byt s => exact h
    | lst l => obtain ⟨ks, e, h2⟩ := h; exact ⟨ks, e, hk h2⟩
    | tup l => obtain ⟨ks, e, h2⟩ := h; exact ⟨ks, e, hk h2⟩
    | dic l => obtain ⟨ks, e, h2⟩ := h; exact ⟨ks, e, hk h2⟩
    | set l => obtain ⟨ks, e, h2⟩ := h; exact ⟨ks, e, hk h2⟩

/-- a value's cells -/
def six : Value → List Value
  | .agg cs => cs.toList
  | _ => []
def IsSix (v : Value) : Prop := ∃ c0 c1 c2 c3 c4 c5, v = .agg #[c0, c1, c2, c3, c4, c5]
theorem six_length {v : Value} (h : IsSix v) : (six v).length = 6 := by
  obtain ⟨c0, c1, c2, c3, c4, c5, rfl⟩ := h
  rfl
theorem sixes_length : ∀ (es : List (Value × Tr)), (∀ e ∈ es, IsSix e.1) → (es.flatMap fun e => six e.1).length = es.length * 6
  | [], _ => rfl
  | e :: es, h => by
    rw [List.flatMap_cons, List.length_append, six_length (h e (by simp)), sixes_length es (fun x hx => h x (by simp [hx])), List.length_cons]
    omega
theorem sixes_get : ∀ (es : List (Value × Tr)), (∀ e ∈ es, IsSix e.1) → ∀ i j (hi : i < es.length), j < 6 → (es.flatMap fun e => six e.1)[i * 6 + j]? = (six es[i].1)[j]?
  | [], _, i, j, hi, _ => by simp at hi
  | e :: es, h, 0, j, hi, hj => by
    have h6 := six_length (h e (by simp))
    rw [List.flatMap_cons, Nat.zero_mul, Nat.zero_add, List.getElem?_append_left (by omega)]
    rfl
  | e :: es, h, i + 1, j, hi, hj => by
    have h6 := six_length (h e (by simp))
    rw [List.flatMap_cons, List.getElem?_append_right (by omega), h6, show (i + 1) * 6 + j - 6 = i * 6 + j by omega]
    exact sixes_get es (fun x hx => h x (by simp [hx])) i j (by simpa using hi) hj

/-- what is known of a value in a slice of the call's own: it stands in blocks that the slice does not take -/
def EntAt (T : Nat → Prop) (w : World) (d : Nat) (ks : Value) (e : Value × Tr) : Prop :=
  IsSix e.1 ∧ ∃ S : Nat → Prop, ValB w S d e.1 e.2 ∧ (∀ b, S b → b < w.heap.size ∧ T b) ∧ ∀ g, ks.ownBlock = some g → ¬ S g
/-- a slice of the call's own that holds these values -/
def OwnE (base : Nat) (T : Nat → Prop) (w : World) (d : Nat) (ks : Value) (es : List (Value × Tr)) : Prop :=
  w.ownsRow base 32 6 ks es.length (es.flatMap fun e => six e.1) ∧ ∀ e ∈ es, EntAt T w d ks e
theorem OwnE.nil (base : Nat) (T : Nat → Prop) (w : World) (d : Nat) : OwnE base T w d (.slice none 0 0) [] := ⟨World.ownsRow_nil w base _ 6, fun e he => by simp at he⟩
theorem EntAt.turn {T : Nat → Prop} {w w' : World} {d : Nat} {ks : Value} {e : Value × Tr} (h : EntAt T w d ks e) (hs : w.heap.size ≤ w'.heap.size) (hb : ∀ b, T b → b < w.heap.size → w'.heap[b]? = w.heap[b]?) : EntAt T w' d ks e := by
  obtain ⟨h6, S, a1, a2, a3⟩ := h
  exact ⟨h6, S, a1.turn (fun _ h => h) hs (fun b hS hl => hb b (a2 b hS).2 hl), fun b hS => ⟨Nat.lt_of_lt_of_le (a2 b hS).1 hs, (a2 b hS).2⟩, a3⟩
theorem OwnE.turn {base : Nat} {T : Nat → Prop} {w w' : World} {d : Nat} {ks : Value} {es : List (Value × Tr)} (h : OwnE base T w d ks es) (hs : w.heap.size ≤ w'.heap.size) (hb : ∀ b, base ≤ b ∨ T b → b < w.heap.size → w'.heap[b]? = w.heap[b]?) : OwnE base T w' d ks es := by
  obtain ⟨⟨h1, h2⟩, h3⟩ := h
  refine ⟨⟨h1, ?_⟩, fun e he => (h3 e he).turn hs (fun b hT hl => hb b (.inr hT) hl)⟩
  rcases h2 with h2 | ⟨g, cap, cur, e, hbg, hg, rest⟩
  · exact .inl h2
  · exact .inr ⟨g, cap, cur, e, hbg, (hb g (.inl hbg) (Array.getElem?_eq_some_iff.1 hg).1).trans hg, rest⟩
theorem OwnE.below {base : Nat} {T : Nat → Prop} {w w' : World} {d : Nat} {ks : Value} {es : List (Value × Tr)} (h : OwnE base T w d ks es) (hb : Below w.heap.size w w') : OwnE base T w' d ks es :=
  h.turn hb.size (fun b _ hl => hb.block b hl)
theorem OwnE.chg {base g : Nat} {T : Nat → Prop} {w w' : World} {d : Nat} {ks : Value} {es : List (Value × Tr)} (h : OwnE base T w d ks es) (hc : Chg g w w') (hg : g < base) (hT : ¬ T g) : OwnE base T w' d ks es :=
  h.turn hc.size (fun b hl hh => hc.block b hh (fun e => by subst e; rcases hl with hl | hl; omega; exact hT hl))
theorem OwnE.lt {base : Nat} {T : Nat → Prop} {w : World} {d : Nat} {ks : Value} {es : List (Value × Tr)} (h : OwnE base T w d ks es) : ∀ g, ks.ownBlock = some g → base ≤ g ∧ g < w.heap.size := h.1.lt
theorem OwnE.shape {base : Nat} {T : Nat → Prop} {w : World} {d : Nat} {ks : Value} {es : List (Value × Tr)} (h : OwnE base T w d ks es) : ∃ a c, ks = .slice a es.length c := by
  rcases h.1.2 with ⟨rfl, h0⟩ | ⟨g, cap, cur, rfl, _⟩
  · exact ⟨none, 0, by rw [h0]⟩
  · exact ⟨_, cap, rfl⟩
theorem OwnE.kids {base : Nat} {T T' : Nat → Prop} {w : World} {d : Nat} {ks : Value} {es : List (Value × Tr)} (h : OwnE base T w d ks es) (hT : ∀ b, T b → T' b) (hB : ∀ b, base ≤ b → T' b) : KidsB w T' (ValB w T' d) ks (es.map (·.2)) := by
  obtain ⟨⟨hl, ho⟩, hE⟩ := h
  rcases ho with ⟨rfl, h0⟩ | ⟨g, cap, cur, rfl, hbg, hg, hn, hcm, hcs, htk⟩
  · exact .inl ⟨by rw [List.eq_nil_of_length_eq_zero h0]; rfl, _, _, rfl⟩
  · by_cases h0 : es.length = 0
    · exact .inl ⟨by rw [List.eq_nil_of_length_eq_zero h0]; rfl, _, _, by rw [h0]⟩
    · have hlt := (Array.getElem?_eq_some_iff.1 hg).1
      refine .inr ⟨by simp; omega, g, 0, cap, by simp, hB g hbg, by simpa using hn, by simpa [maxLen] using hcm, by omega, fun i hi => ?_⟩
      have hi' : i < es.length := by simpa using hi
      obtain ⟨⟨c0, c1, c2, c3, c4, c5, e6⟩, S, a1, a2, a3⟩ := hE es[i] (List.getElem_mem hi')
      have hcell : ∀ j, j < 6 → w.cell? ⟨g, 0 + i * 6 + j, none⟩ = (six es[i].1)[j]? := fun j hj => by
        rw [cell_of_row w g _ cur _ (0, 0) hg, ← sixes_get es (fun e he => (hE e he).1) i j hi' hj, ← htk, List.getElem?_take, if_pos (by omega), Nat.zero_add]
        simp
      rw [e6] at hcell
      refine ⟨es[i].1, ⟨c0, c1, c2, c3, c4, c5, e6, hcell 0 (by omega), hcell 1 (by omega), hcell 2 (by omega), hcell 3 (by omega), hcell 4 (by omega), hcell 5 (by omega)⟩, ?_⟩
      have := a1.sub (fun b hS => hT b (a2 b hS).2)
      simpa using this

theorem kidInfo : (Tryz.prog.info? 32).map (fun i => (i.zero.map (·.cells.size), i.size, i.bytes)) = some (some 6, 6, 88) := by kernel_rfl
theorem kidsUnder : Tryz.prog.underlying 30 = some (.slice 32) := by kernel_rfl
/-- append of values to a slice of the call's own -/
theorem run_append_kids_at {w : World} {base : Nat} {T : Nat → Prop} {d : Nat} {ks : Value} {es : List (Value × Tr)} (ty : TypeId) (h : OwnE base T w d ks es) (hl : es.length ≤ 1000) (hb : base ≤ w.heap.size)
    (g c : Nat) (ns : List (Value × Tr)) (hn : ns.length ≤ 1000) (hns : ∀ j u, (ns.flatMap fun e => six e.1)[j]? = some u → w.cell? ⟨g, j, none⟩ = some u) (h1 : ∀ u ∈ ns.flatMap (fun e => six e.1), u.oneCell' = true)
    (hnew : ∀ e ∈ ns, EntAt T w d ks e) :
    ∃ v' w', (Builtin.append_ #[30, 30] ty #[ks, .slice (some ⟨g, 0, none⟩) ns.length c]).run Tryz.prog w = .ok v' w' ∧ OwnE base T w' d v' (es ++ ns) ∧ w.grownBy w' ks.ownBlock ∧ (v'.ownBlock = ks.ownBlock ∨ v'.ownBlock = some w.heap.size) := by
  obtain ⟨i, hi, hzz⟩ := Option.map_eq_some_iff.1 kidInfo
  simp only [Prod.mk.injEq] at hzz
  obtain ⟨hz0, hz1, hz2⟩ := hzz
  obtain ⟨z, hz, hzs⟩ := Option.map_eq_some_iff.1 hz0
  obtain ⟨v', w', hr, ho, hg, _, hat⟩ := run_append_own_at (P := Tryz.prog) w base 30 ty 32 i z 6 88 kidsUnder hi hz hz1 hz2 hzs (by decide) ks es.length _ h.1 ⟨g, 0, none⟩ ns.length c _ (sixes_length ns (fun e he => (hnew e he).1)) (fun j u hj => by rw [add_at, Nat.zero_add]; exact hns j u hj) h1 (by simp only [maxLen]; omega) (by omega) hb
  refine ⟨v', w', hr, ⟨?_, fun e he => ?_⟩, hg, hat⟩
  · rw [List.length_append, List.flatMap_append]; exact ho
  · have hold : EntAt T w d ks e → EntAt T w' d v' e := fun h => by
      obtain ⟨h6, S, a1, a2, a3⟩ := h
      refine ⟨h6, S, a1.turn (fun _ h => h) hg.size (fun b hS hl => hg.block b hl (fun e => a3 b e.symm hS)), fun b hS => ⟨Nat.lt_of_lt_of_le (a2 b hS).1 hg.size, (a2 b hS).2⟩, fun g' hg' hS => ?_⟩
      rcases hat with h | h
      · exact a3 g' (h.symm.trans hg') hS
      · rw [h] at hg'; injection hg' with hg'; have := (a2 g' hS).1; omega
    rcases List.mem_append.1 he with he | he
    · exact hold (h.2 e he)
    · exact hold (hnew e he)
theorem run_append_kids {w : World} {base : Nat} {T : Nat → Prop} {d : Nat} {ks : Value} {es : List (Value × Tr)} (ty : TypeId) (h : OwnE base T w d ks es) (hl : es.length ≤ 1000) (hb : base ≤ w.heap.size)
    (g c : Nat) (ns : List (Value × Tr)) (hn : ns.length ≤ 1000) (hns : ∀ j u, (ns.flatMap fun e => six e.1)[j]? = some u → w.cell? ⟨g, j, none⟩ = some u) (h1 : ∀ u ∈ ns.flatMap (fun e => six e.1), u.oneCell' = true)
    (hnew : ∀ e ∈ ns, EntAt T w d ks e) :
    ∃ v' w', (Builtin.append_ #[30, 30] ty #[ks, .slice (some ⟨g, 0, none⟩) ns.length c]).run Tryz.prog w = .ok v' w' ∧ OwnE base T w' d v' (es ++ ns) ∧ w.grownBy w' ks.ownBlock := by
  obtain ⟨v', w', h1, h2, h3, _⟩ := run_append_kids_at ty h hl hb g c ns hn hns h1 hnew
  exact ⟨v', w', h1, h2, h3⟩
/-- .. as a step of a region that draws -/
theorem step_append_kids {w : World} {o : Oper} {ops : Array Oper} {a : Act} {K : Act → World → Prop} {Q : Exit → Act → World → Prop} {E : Prop} (hgd : o.guard = none) (s x : Operand)
    (ho : o.op = .call { callee := .builtin .append, args := #[s, x], argTypes := #[30, 30] })
    {base : Nat} {T : Nat → Prop} {d : Nat} {ks : Value} {es : List (Value × Tr)} (hs : a.eval s = ks) (h : OwnE base T w d ks es) (hl : es.length ≤ 1000) (hb : base ≤ w.heap.size)
    (g c m : Nat) (ns : List (Value × Tr)) (hm : ns.length = m) (hx : a.eval x = .slice (some ⟨g, 0, none⟩) m c) (hn : ns.length ≤ 1000) (hns : ∀ j u, (ns.flatMap fun e => six e.1)[j]? = some u → w.cell? ⟨g, j, none⟩ = some u) (h1 : ∀ u ∈ ns.flatMap (fun e => six e.1), u.oneCell' = true)
    (hnew : ∀ e ∈ ns, EntAt T w d ks e)
    (hK : ∀ v' w', Hid (OwnE base T w' d v' (es ++ ns)) → Hid (w.grownBy w' ks.ownBlock) → K (a.put o.dst v') w') :
    if Region.wanted o (yielded ops a.tmps) = true then Oper.wp Tryz.prog o a w K Q else E := by
  obtain ⟨v', w', hr, h2, h3⟩ := run_append_kids o.type h hl hb g c ns hn hns h1 hnew
  rw [hm] at hr
  have hw : Region.wanted o (yielded ops a.tmps) = true := by simp [Region.wanted, hgd]
  rw [if_pos hw]
  unfold Oper.wp execOp
  simp only [ho, resolve, invoke, builtin, Sem.run_bind, Sem.run_pure, Result.andThen_ok, List.map_toArray, List.map_cons, List.map_nil, hs, hx, hr]
  exact hK v' w' h2 h3
/-- .. as a step of a region that does not -/
theorem wpList_append_kids {w : World} {o : Oper} {ops : Array Oper} {rest : List Oper} {a : Act} {Q : Exit → Act → World → Prop} (hgd : o.guard = none) (s x : Operand)
    (ho : o.op = .call { callee := .builtin .append, args := #[s, x], argTypes := #[30, 30] })
    {base : Nat} {T : Nat → Prop} {d : Nat} {ks : Value} {es : List (Value × Tr)} (hs : a.eval s = ks) (h : OwnE base T w d ks es) (hl : es.length ≤ 1000) (hb : base ≤ w.heap.size)
    (g c m : Nat) (ns : List (Value × Tr)) (hm : ns.length = m) (hx : a.eval x = .slice (some ⟨g, 0, none⟩) m c) (hn : ns.length ≤ 1000) (hns : ∀ j u, (ns.flatMap fun e => six e.1)[j]? = some u → w.cell? ⟨g, j, none⟩ = some u) (h1 : ∀ u ∈ ns.flatMap (fun e => six e.1), u.oneCell' = true)
    (hnew : ∀ e ∈ ns, EntAt T w d ks e)
    (hK : ∀ v' w', Hid (OwnE base T w' d v' (es ++ ns)) → Hid (w.grownBy w' ks.ownBlock) → wpList Tryz.prog ops Q rest (a.put o.dst v') w') : wpList Tryz.prog ops Q (o :: rest) a w := by
  obtain ⟨v', w', hr, h2, h3⟩ := run_append_kids o.type h hl hb g c ns hn hns h1 hnew
  rw [hm] at hr
  refine wpList_plain hgd fun K hK' => ?_
  unfold Oper.wp execOp
  simp only [ho, resolve, invoke, builtin, Sem.run_bind, Sem.run_pure, Result.andThen_ok, List.map_toArray, List.map_cons, List.map_nil, hs, hx, hr]
  exact hK' _ _ (hK v' w' h2 h3)
end Go.Proofs.YtpcleebnfgnhdaaGreatDoor

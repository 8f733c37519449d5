import Derived.Test.YtpcleebnfgnhdaaGreatDoorGz22
/- Walks: an entry is put into a hash table of at most seven entries. -/
set_option linter.unusedVariables false
set_option linter.unusedSimpArgs false
namespace Go.Proofs.YtpcleebnfgnhdaaGreatDoor
open Go.RowKit
open Num

theorem ht_hash (b n : Nat) (H : Nat → Nat) (K V : Nat → Value) (i : Nat) (hi : i < 8) : htCell b true n H K V (1 + i * 5) = .int .u32 ((if 8 - n ≤ i then H (7 - i) else 0 : Nat) : Int) := by
  unfold htCell
  rw [if_neg (by omega), if_pos (by omega), show (1 + i * 5 - 1) / 5 = i by omega, show (1 + i * 5 - 1) % 5 = 0 by omega]
  unfold htEnt
  split <;> rfl
theorem ht_key (b n : Nat) (H : Nat → Nat) (K V : Nat → Value) (i : Nat) (hi : i < 8) (h : 8 - n ≤ i) : htCell b true n H K V (1 + i * 5 + 1) = K (7 - i) := by
  unfold htCell
  rw [if_neg (by omega), if_pos (by omega), show (1 + i * 5 + 1 - 1) / 5 = i by omega, show (1 + i * 5 + 1 - 1) % 5 = 1 by omega]
  unfold htEnt
  rw [if_pos h]
  rfl
theorem ht_begun (b : Nat) (H : Nat → Nat) (K V : Nat → Value) : ∀ j, j < 47 → (if j = 45 then .pointer (some ⟨b, 44, none⟩) else if j = 0 then .slice (some ⟨b, 1, none⟩) 1 1 else htCell b false 0 H K V j) = htCell b true 0 H K V j := by
  intro j hj
  unfold htCell
  by_cases h0 : j = 0
  · subst h0; rfl
  · by_cases h45 : j = 45
    · subst h45; rfl
    · rw [if_neg h45, if_neg h0, if_neg h0, if_neg h0]
      simp only [h45, if_false]

theorem ht_added0 (b h : Nat) (H : Nat → Nat) (K V : Nat → Value) (k v : Value) : ∀ j, j < 47 → (if j = 42 then .int .u32 1 else if j = 45 then .pointer (some ⟨b, 39, none⟩) else if j = 44 then .pointer (some ⟨b, 36, none⟩) else if j = 40 then .pointer (some ⟨b, 44, none⟩) else if j = 38 then v else if j = 37 then k else if j = 36 then .int .u32 h else htCell b true 0 H K V j) = htCell b true 1 (fun i => if i = 0 then h else H i) (fun i => if i = 0 then k else K i) (fun i => if i = 0 then v else V i) j := by
  intro j hj
  rcases (show j = 0 ∨ j = 1 ∨ j = 2 ∨ j = 3 ∨ j = 4 ∨ j = 5 ∨ j = 6 ∨ j = 7 ∨ j = 8 ∨ j = 9 ∨ j = 10 ∨ j = 11 ∨ j = 12 ∨ j = 13 ∨ j = 14 ∨ j = 15 ∨ j = 16 ∨ j = 17 ∨ j = 18 ∨ j = 19 ∨ j = 20 ∨ j = 21 ∨ j = 22 ∨ j = 23 ∨ j = 24 ∨ j = 25 ∨ j = 26 ∨ j = 27 ∨ j = 28 ∨ j = 29 ∨ j = 30 ∨ j = 31 ∨ j = 32 ∨ j = 33 ∨ j = 34 ∨ j = 35 ∨ j = 36 ∨ j = 37 ∨ j = 38 ∨ j = 39 ∨ j = 40 ∨ j = 41 ∨ j = 42 ∨ j = 43 ∨ j = 44 ∨ j = 45 ∨ j = 46 by omega) with rfl | rfl | rfl | rfl | rfl | rfl | rfl | rfl | rfl | rfl | rfl | rfl | rfl | rfl | rfl | rfl | rfl | rfl | rfl | rfl | rfl | rfl | rfl | rfl | rfl | rfl | rfl | rfl | rfl | rfl | rfl | rfl | rfl | rfl | rfl | rfl | rfl | rfl | rfl | rfl | rfl | rfl | rfl | rfl | rfl | rfl | rfl <;> rfl
theorem ht_added1 (b h : Nat) (H : Nat → Nat) (K V : Nat → Value) (k v : Value) : ∀ j, j < 47 → (if j = 42 then .int .u32 2 else if j = 45 then .pointer (some ⟨b, 34, none⟩) else if j = 39 then .pointer (some ⟨b, 31, none⟩) else if j = 35 then .pointer (some ⟨b, 39, none⟩) else if j = 33 then v else if j = 32 then k else if j = 31 then .int .u32 h else htCell b true 1 H K V j) = htCell b true 2 (fun i => if i = 1 then h else H i) (fun i => if i = 1 then k else K i) (fun i => if i = 1 then v else V i) j := by
  intro j hj
  rcases (show j = 0 ∨ j = 1 ∨ j = 2 ∨ j = 3 ∨ j = 4 ∨ j = 5 ∨ j = 6 ∨ j = 7 ∨ j = 8 ∨ j = 9 ∨ j = 10 ∨ j = 11 ∨ j = 12 ∨ j = 13 ∨ j = 14 ∨ j = 15 ∨ j = 16 ∨ j = 17 ∨ j = 18 ∨ j = 19 ∨ j = 20 ∨ j = 21 ∨ j = 22 ∨ j = 23 ∨ j = 24 ∨ j = 25 ∨ j = 26 ∨ j = 27 ∨ j = 28 ∨ j = 29 ∨ j = 30 ∨ j = 31 ∨ j = 32 ∨ j = 33 ∨ j = 34 ∨ j = 35 ∨ j = 36 ∨ j = 37 ∨ j = 38 ∨ j = 39 ∨ j = 40 ∨ j = 41 ∨ j = 42 ∨ j = 43 ∨ j = 44 ∨ j = 45 ∨ j = 46 by omega) with rfl | rfl | rfl | rfl | rfl | rfl | rfl | rfl | rfl | rfl | rfl | rfl | rfl | rfl | rfl | rfl | rfl | rfl | rfl | rfl | rfl | rfl | rfl | rfl | rfl | rfl | rfl | rfl | rfl | rfl | rfl | rfl | rfl | rfl | rfl | rfl | rfl | rfl | rfl | rfl | rfl | rfl | rfl | rfl | rfl | rfl | rfl <;> rfl
theorem ht_added2 (b h : Nat) (H : Nat → Nat) (K V : Nat → Value) (k v : Value) : ∀ j, j < 47 → (if j = 42 then .int .u32 3 else if j = 45 then .pointer (some ⟨b, 29, none⟩) else if j = 34 then .pointer (some ⟨b, 26, none⟩) else if j = 30 then .pointer (some ⟨b, 34, none⟩) else if j = 28 then v else if j = 27 then k else if j = 26 then .int .u32 h else htCell b true 2 H K V j) = htCell b true 3 (fun i => if i = 2 then h else H i) (fun i => if i = 2 then k else K i) (fun i => if i = 2 then v else V i) j := by
  intro j hj
  rcases (show j = 0 ∨ j = 1 ∨ j = 2 ∨ j = 3 ∨ j = 4 ∨ j = 5 ∨ j = 6 ∨ j = 7 ∨ j = 8 ∨ j = 9 ∨ j = 10 ∨ j = 11 ∨ j = 12 ∨ j = 13 ∨ j = 14 ∨ j = 15 ∨ j = 16 ∨ j = 17 ∨ j = 18 ∨ j = 19 ∨ j = 20 ∨ j = 21 ∨ j = 22 ∨ j = 23 ∨ j = 24 ∨ j = 25 ∨ j = 26 ∨ j = 27 ∨ j = 28 ∨ j = 29 ∨ j = 30 ∨ j = 31 ∨ j = 32 ∨ j = 33 ∨ j = 34 ∨ j = 35 ∨ j = 36 ∨ j = 37 ∨ j = 38 ∨ j = 39 ∨ j = 40 ∨ j = 41 ∨ j = 42 ∨ j = 43 ∨ j = 44 ∨ j = 45 ∨ j = 46 by omega) with rfl | rfl | rfl | rfl | rfl | rfl | rfl | rfl | rfl | rfl | rfl | rfl | rfl | rfl | rfl | rfl | rfl | rfl | rfl | rfl | rfl | rfl | rfl | rfl | rfl | rfl | rfl | rfl | rfl | rfl | rfl | rfl | rfl | rfl | rfl | rfl | rfl | rfl | rfl | rfl | rfl | rfl | rfl | rfl | rfl | rfl | rfl <;> rfl
theorem ht_added3 (b h : Nat) (H : Nat → Nat) (K V : Nat → Value) (k v : Value) : ∀ j, j < 47 → (if j = 42 then .int .u32 4 else if j = 45 then .pointer (some ⟨b, 24, none⟩) else if j = 29 then .pointer (some ⟨b, 21, none⟩) else if j = 25 then .pointer (some ⟨b, 29, none⟩) else if j = 23 then v else if j = 22 then k else if j = 21 then .int .u32 h else htCell b true 3 H K V j) = htCell b true 4 (fun i => if i = 3 then h else H i) (fun i => if i = 3 then k else K i) (fun i => if i = 3 then v else V i) j := by
  intro j hj
  rcases (show j = 0 ∨ j = 1 ∨ j = 2 ∨ j = 3 ∨ j = 4 ∨ j = 5 ∨ j = 6 ∨ j = 7 ∨ j = 8 ∨ j = 9 ∨ j = 10 ∨ j = 11 ∨ j = 12 ∨ j = 13 ∨ j = 14 ∨ j = 15 ∨ j = 16 ∨ j = 17 ∨ j = 18 ∨ j = 19 ∨ j = 20 ∨ j = 21 ∨ j = 22 ∨ j = 23 ∨ j = 24 ∨ j = 25 ∨ j = 26 ∨ j = 27 ∨ j = 28 ∨ j = 29 ∨ j = 30 ∨ j = 31 ∨ j = 32 ∨ j = 33 ∨ j = 34 ∨ j = 35 ∨ j = 36 ∨ j = 37 ∨ j = 38 ∨ j = 39 ∨ j = 40 ∨ j = 41 ∨ j = 42 ∨ j = 43 ∨ j = 44 ∨ j = 45 ∨ j = 46 by omega) with rfl | rfl | rfl | rfl | rfl | rfl | rfl | rfl | rfl | rfl | rfl | rfl | rfl | rfl | rfl | rfl | rfl | rfl | rfl | rfl | rfl | rfl | rfl | rfl | rfl | rfl | rfl | rfl | rfl | rfl | rfl | rfl | rfl | rfl | rfl | rfl | rfl | rfl | rfl | rfl | rfl | rfl | rfl | rfl | rfl | rfl | rfl <;> rfl
theorem ht_added4 (b h : Nat) (H : Nat → Nat) (K V : Nat → Value) (k v : Value) : ∀ j, j < 47 → (if j = 42 then .int .u32 5 else if j = 45 then .pointer (some ⟨b, 19, none⟩) else if j = 24 then .pointer (some ⟨b, 16, none⟩) else if j = 20 then .pointer (some ⟨b, 24, none⟩) else if j = 18 then v else if j = 17 then k else if j = 16 then .int .u32 h else htCell b true 4 H K V j) = htCell b true 5 (fun i => if i = 4 then h else H i) (fun i => if i = 4 then k else K i) (fun i => if i = 4 then v else V i) j := by
  intro j hj
  rcases (show j = 0 ∨ j = 1 ∨ j = 2 ∨ j = 3 ∨ j = 4 ∨ j = 5 ∨ j = 6 ∨ j = 7 ∨ j = 8 ∨ j = 9 ∨ j = 10 ∨ j = 11 ∨ j = 12 ∨ j = 13 ∨ j = 14 ∨ j = 15 ∨ j = 16 ∨ j = 17 ∨ j = 18 ∨ j = 19 ∨ j = 20 ∨ j = 21 ∨ j = 22 ∨ j = 23 ∨ j = 24 ∨ j = 25 ∨ j = 26 ∨ j = 27 ∨ j = 28 ∨ j = 29 ∨ j = 30 ∨ j = 31 ∨ j = 32 ∨ j = 33 ∨ j = 34 ∨ j = 35 ∨ j = 36 ∨ j = 37 ∨ j = 38 ∨ j = 39 ∨ j = 40 ∨ j = 41 ∨ j = 42 ∨ j = 43 ∨ j = 44 ∨ j = 45 ∨ j = 46 by omega) with rfl | rfl | rfl | rfl | rfl | rfl | rfl | rfl | rfl | rfl | rfl | rfl | rfl | rfl | rfl | rfl | rfl | rfl | rfl | rfl | rfl | rfl | rfl | rfl | rfl | rfl | rfl | rfl | rfl | rfl | rfl | rfl | rfl | rfl | rfl | rfl | rfl | rfl | rfl | rfl | rfl | rfl | rfl | rfl | rfl | rfl | rfl <;> rfl
theorem ht_added5 (b h : Nat) (H : Nat → Nat) (K V : Nat → Value) (k v : Value) : ∀ j, j < 47 → (if j = 42 then .int .u32 6 else if j = 45 then .pointer (some ⟨b, 14, none⟩) else if j = 19 then .pointer (some ⟨b, 11, none⟩) else if j = 15 then .pointer (some ⟨b, 19, none⟩) else if j = 13 then v else if j = 12 then k else if j = 11 then .int .u32 h else htCell b true 5 H K V j) = htCell b true 6 (fun i => if i = 5 then h else H i) (fun i => if i = 5 then k else K i) (fun i => if i = 5 then v else V i) j := by
  intro j hj
  rcases (show j = 0 ∨ j = 1 ∨ j = 2 ∨ j = 3 ∨ j = 4 ∨ j = 5 ∨ j = 6 ∨ j = 7 ∨ j = 8 ∨ j = 9 ∨ j = 10 ∨ j = 11 ∨ j = 12 ∨ j = 13 ∨ j = 14 ∨ j = 15 ∨ j = 16 ∨ j = 17 ∨ j = 18 ∨ j = 19 ∨ j = 20 ∨ j = 21 ∨ j = 22 ∨ j = 23 ∨ j = 24 ∨ j = 25 ∨ j = 26 ∨ j = 27 ∨ j = 28 ∨ j = 29 ∨ j = 30 ∨ j = 31 ∨ j = 32 ∨ j = 33 ∨ j = 34 ∨ j = 35 ∨ j = 36 ∨ j = 37 ∨ j = 38 ∨ j = 39 ∨ j = 40 ∨ j = 41 ∨ j = 42 ∨ j = 43 ∨ j = 44 ∨ j = 45 ∨ j = 46 by omega) with rfl | rfl | rfl | rfl | rfl | rfl | rfl | rfl | rfl | rfl | rfl | rfl | rfl | rfl | rfl | rfl | rfl | rfl | rfl | rfl | rfl | rfl | rfl | rfl | rfl | rfl | rfl | rfl | rfl | rfl | rfl | rfl | rfl | rfl | rfl | rfl | rfl | rfl | rfl | rfl | rfl | rfl | rfl | rfl | rfl | rfl | rfl <;> rfl
theorem ht_added6 (b h : Nat) (H : Nat → Nat) (K V : Nat → Value) (k v : Value) : ∀ j, j < 47 → (if j = 42 then .int .u32 7 else if j = 45 then .pointer (some ⟨b, 9, none⟩) else if j = 14 then .pointer (some ⟨b, 6, none⟩) else if j = 10 then .pointer (some ⟨b, 14, none⟩) else if j = 8 then v else if j = 7 then k else if j = 6 then .int .u32 h else htCell b true 6 H K V j) = htCell b true 7 (fun i => if i = 6 then h else H i) (fun i => if i = 6 then k else K i) (fun i => if i = 6 then v else V i) j := by
  intro j hj
  rcases (show j = 0 ∨ j = 1 ∨ j = 2 ∨ j = 3 ∨ j = 4 ∨ j = 5 ∨ j = 6 ∨ j = 7 ∨ j = 8 ∨ j = 9 ∨ j = 10 ∨ j = 11 ∨ j = 12 ∨ j = 13 ∨ j = 14 ∨ j = 15 ∨ j = 16 ∨ j = 17 ∨ j = 18 ∨ j = 19 ∨ j = 20 ∨ j = 21 ∨ j = 22 ∨ j = 23 ∨ j = 24 ∨ j = 25 ∨ j = 26 ∨ j = 27 ∨ j = 28 ∨ j = 29 ∨ j = 30 ∨ j = 31 ∨ j = 32 ∨ j = 33 ∨ j = 34 ∨ j = 35 ∨ j = 36 ∨ j = 37 ∨ j = 38 ∨ j = 39 ∨ j = 40 ∨ j = 41 ∨ j = 42 ∨ j = 43 ∨ j = 44 ∨ j = 45 ∨ j = 46 by omega) with rfl | rfl | rfl | rfl | rfl | rfl | rfl | rfl | rfl | rfl | rfl | rfl | rfl | rfl | rfl | rfl | rfl | rfl | rfl | rfl | rfl | rfl | rfl | rfl | rfl | rfl | rfl | rfl | rfl | rfl | rfl | rfl | rfl | rfl | rfl | rfl | rfl | rfl | rfl | rfl | rfl | rfl | rfl | rfl | rfl | rfl | rfl <;> rfl
theorem ht_added7 (b h : Nat) (H : Nat → Nat) (K V : Nat → Value) (k v : Value) : ∀ j, j < 47 → (if j = 42 then .int .u32 8 else if j = 45 then .pointer (some ⟨b, 4, none⟩) else if j = 9 then .pointer (some ⟨b, 1, none⟩) else if j = 5 then .pointer (some ⟨b, 9, none⟩) else if j = 3 then v else if j = 2 then k else if j = 1 then .int .u32 h else htCell b true 7 H K V j) = htCell b true 8 (fun i => if i = 7 then h else H i) (fun i => if i = 7 then k else K i) (fun i => if i = 7 then v else V i) j := by
  intro j hj
  rcases (show j = 0 ∨ j = 1 ∨ j = 2 ∨ j = 3 ∨ j = 4 ∨ j = 5 ∨ j = 6 ∨ j = 7 ∨ j = 8 ∨ j = 9 ∨ j = 10 ∨ j = 11 ∨ j = 12 ∨ j = 13 ∨ j = 14 ∨ j = 15 ∨ j = 16 ∨ j = 17 ∨ j = 18 ∨ j = 19 ∨ j = 20 ∨ j = 21 ∨ j = 22 ∨ j = 23 ∨ j = 24 ∨ j = 25 ∨ j = 26 ∨ j = 27 ∨ j = 28 ∨ j = 29 ∨ j = 30 ∨ j = 31 ∨ j = 32 ∨ j = 33 ∨ j = 34 ∨ j = 35 ∨ j = 36 ∨ j = 37 ∨ j = 38 ∨ j = 39 ∨ j = 40 ∨ j = 41 ∨ j = 42 ∨ j = 43 ∨ j = 44 ∨ j = 45 ∨ j = 46 by omega) with rfl | rfl | rfl | rfl | rfl | rfl | rfl | rfl | rfl | rfl | rfl | rfl | rfl | rfl | rfl | rfl | rfl | rfl | rfl | rfl | rfl | rfl | rfl | rfl | rfl | rfl | rfl | rfl | rfl | rfl | rfl | rfl | rfl | rfl | rfl | rfl | rfl | rfl | rfl | rfl | rfl | rfl | rfl | rfl | rfl | rfl | rfl <;> rfl

/-- a hash that is the same in many worlds is one function's -/
theorem HashIs.fix {k : Value} {h : Nat} {C : World → Prop} (hs : ∀ W, C W → HashIs k W h) {w : World} (hw : C w) :
    ∃ t u f, k = .iface t u ∧ (∀ W : World, (method 527 t u "Hash").run Tryz.prog W = .ok (f, u) W) ∧ (∀ (a : Array Value) (W : World), (callFunc f a).run Tryz.prog W = .ok (.enter f a) W) ∧
      ∀ W, C W → Calls Tryz.prog f #[u] W fun e w' => e = .returned (.tuple #[.int .u32 h, .nilIface]) ∧ Below W.heap.size W w' := by
  obtain ⟨t, u, f, rfl, hm, hen, _⟩ := hs w hw
  refine ⟨t, u, f, rfl, hm, hen, fun W hW => ?_⟩
  obtain ⟨t3, u3, f3, q, m3, e3, c3⟩ := hs W hW
  injection q with q1 q2
  subst q1; subst q2
  have h1 := hm W
  rw [m3 W] at h1
  injection h1 with h1 h2
  injection h1 with h1 h2
  subst h1
  exact c3

/-- the empty entry noted after j of the eight -/
def insP (b n j : Nat) : Value := if j = 0 then .pointer none else .pointer (some ⟨b, 1 + min (j - 1) (7 - n) * 5, none⟩)
theorem insP_free (b n j : Nat) (h : j < 8 - n) : insP b n (j + 1) = .pointer (some ⟨b, 1 + j * 5, none⟩) := by
  unfold insP
  rw [if_neg (by omega), show min (j + 1 - 1) (7 - n) = j by omega]
theorem insP_used (b n j : Nat) (hn : n ≤ 7) (h : 8 - n ≤ j) : insP b n (j + 1) = insP b n j := by
  unfold insP
  rw [if_neg (by omega), if_neg (by omega), show min (j + 1 - 1) (7 - n) = min (j - 1) (7 - n) by omega]
theorem insP_end (b n : Nat) : insP b n 8 = .pointer (some ⟨b, 1 + (7 - n) * 5, none⟩) := by
  unfold insP
  rw [if_neg (by omega), show min (8 - 1) (7 - n) = 7 - n by omega]

theorem tab_nil (W : World) : (binOp .eql 128 (.slice none 0 0) (.slice none 0 0)).run Tryz.prog W = .ok (.bool true) W := by kernel_rfl
theorem tab_some (b : Nat) (W : World) : (binOp .eql 128 (.slice (some ⟨b, 1, none⟩) 1 1) (.slice none 0 0)).run Tryz.prog W = .ok (.bool false) W := by kernel_rfl

set_option maxRecDepth 100000 in
set_option maxHeartbeats 4000000 in
theorem insert_new (t b n : Nat) (laid : Bool) (H : Nat → Nat) (K V : Nat → Value) (k : Value) (tv : Nat) (uv : Value) (h0 : Nat) (w : World) (hn : n ≤ 7) (hl : laid = true ∨ n = 0) (hH : ∀ i, i < n → 0 < H i ∧ H i < 4294967296) (hh : h0 < 4294967296)
    (hr : Row w b t 47 (htCell b laid n H K V)) (hk : ∀ W, Chg b w W → HashIs k W h0)
    (he : ∀ i, i < n → ∀ W, Chg b w W → H i = nzH h0 → Calls Tryz.prog 103 #[k, K i] W fun e w' => e = .returned (.tuple #[.bool false, .nilIface]) ∧ Below W.heap.size W w') :
    Calls Tryz.prog 84 #[.pointer (some ⟨b, 0, none⟩), k, .iface tv uv] w fun e w' => e = .returned .nilIface ∧
      Row w' b t 47 (htCell b true (n + 1) (fun i => if i = n then nzH h0 else H i) (fun i => if i = n then k else K i) (fun i => if i = n then .iface tv uv else V i)) ∧ Chg b w w' := by
  have HCM := Lib.hid (checkMutable_any t b ⟨#[105, 110, 115, 101, 114, 116, 32, 105, 110, 116, 111]⟩ w (hr.cell (i := 43) (by omega)) (hr.cell (i := 46) (by omega)))
  obtain ⟨tk, uk, fk, rfl, hm, hen, hk2⟩ := HashIs.fix hk (Chg.refl b w)
  have HR := Lib.hid hr; have HK := Lib.hid hk2; have HE := Lib.hid he; have HH := Lib.hid hH; have HL := Lib.hid hl
  obtain ⟨sa, sn, c0, hS⟩ : ∃ sa sn, w.cell? ⟨b, 0, none⟩ = some (.slice sa sn sn) ∧ ∀ W : World, (binOp .eql 128 (.slice sa sn sn) (.slice none 0 0)).run Tryz.prog W = .ok (.bool (!laid)) W := by
    cases laid
    · exact ⟨none, 0, hr.cell (i := 0) (by omega), fun W => tab_nil W⟩
    · exact ⟨some ⟨b, 1, none⟩, 1, hr.cell (i := 0) (by omega), fun W => tab_some b W⟩
  clear hr hk hk2 he hH hl
  go_enter Tryz.func84, Tryz.ntmps84
  go_wp2
  go_step3
  go_wp2_with fail
  refine HCM.out.mono ?_
  rintro e w2 ⟨rfl, rfl⟩
  go_upto_if 26 with fail
  go_cut [] from 17 to 26 (fun W => Row W b t 47 (htCell b true n H K V) ∧ Chg b w2 W)
  case first =>
    cases laid
    · obtain rfl : n = 0 := by rcases HL.out with h | h; cases h; exact h
      have HIN := Lib.hid (init_any t b _ w2 HR.out)
      go_wp2_with fail
      refine HIN.out.mono ?_
      rintro e w3 ⟨rfl, hr3, hc3⟩
      have HR3 := Lib.hid (hr3.congr (ht_begun b H K V)); have HC3 := Lib.hid hc3
      clear hr3 hc3
      go_wp2
      go_meet
      case rel => exact ⟨HR3.out, HC3.out⟩
    · go_wp2
      go_meet
      case rel => exact ⟨HR.out, Chg.refl _ _⟩
  case rest =>
    clear c0 hS HCM HL HR
    have HRC := Lib.hid hcut.1; have HCC := Lib.hid hcut.2
    clear hcut
    have HC := Lib.hid (HK.out wc HCC.out)
    go_wp2_with fail
    refine HC.out.mono ?_
    rintro e w3 ⟨rfl, hb3⟩
    have HR3 := Lib.hid (HRC.out.below hb3 HRC.out.lt); have HC3 := Lib.hid (HCC.out.trans (Chg.of_below hb3))
    clear hb3
    go_upto_if 38 with fail
    go_cut [8] from 17 to 38 (fun h W => h = .int .u32 (nzH h0) ∧ w3 = W)
    case first =>
      by_cases hz : h0 = 0
      · subst hz
        go_wp2
        go_meet
        case rel => exact ⟨rfl, rfl⟩
      · have hz1 : ((h0 : Int) == 0) = false := by simp; omega
        have hz2 : nzH h0 = h0 := by unfold nzH; rw [if_neg hz]
        go_wp2
        go_meet
        case rel => exact ⟨by rw [hz2], rfl⟩
    case rest =>
      obtain ⟨rfl, rfl⟩ := hcut
      obtain ⟨h, hhd⟩ : ∃ h, h = nzH h0 := ⟨_, rfl⟩
      have hpos : 0 < h := by rw [hhd]; exact nzH_pos _
      have hlt : h < 4294967296 := by rw [hhd]; exact nzH_lt hh
      have HHD := Lib.hid hhd
      rw [← hhd] at HE ⊢
      clear hh hhd hm hen HK
      have c0 : w3.cell? ⟨b, 0, none⟩ = some (.slice (some ⟨b, 1, none⟩) 1 1) := HR3.out.cell (i := 0) (by omega)
      have hand : bits .and .u32 (h : Int) 0 = 0 := by simp [bits]; decide
      go_wp2
      go_step3
      go_wp2
      go_quiet (fail)
      obtain ⟨w4, hw4⟩ : ∃ w4, w4 = w3.drewN nq := ⟨_, rfl⟩
      rw [← hw4]
      have HR4 := Lib.hid (show Row w4 b t 47 (htCell b true n H K V) by rw [hw4]; exact HR3.out.drewN nq)
      have HC4 := Lib.hid (show Chg b w2 w4 by rw [hw4]; exact HC3.out.drewN nq)
      clear hw4 c0 hand HR3 HC3
      go_wp2
      refine wp_loop_rounds 1 ?_
      rw [rounds_succ]
      go_wp2
      go_loopw [10, 53] (fun x i wr => ∃ j : Nat, j ≤ 8 ∧ i = .int .i64 j ∧ x = insP b n j ∧ Row wr b t 47 (htCell b true n H K V) ∧ Chg b w2 wr) (fun _ i _ => 8 - (intOf i).toNat)
      case atStart => exact ⟨0, by omega, rfl, rfl, HR4.out, HC4.out⟩
      case round =>
        obtain ⟨j, hj, rfl, rfl, hrr, hcc⟩ := hrel
        have HRR := Lib.hid hrr; have HCR := Lib.hid hcc
        clear hrr hcc HR4 HC4
        by_cases h8 : j = 8
        · subst h8
          rw [insP_end b n]
          have d0 : wr.cell? ⟨b, 0, none⟩ = some (.slice (some ⟨b, 1, none⟩) 1 1) := HRR.out.cell (i := 0) (by omega)
          have d41 : wr.cell? ⟨b, 1 + 40, none⟩ = some (.pointer none) := HRR.out.cell (i := 41) (by omega)
          have d42 : wr.cell? ⟨b, 42, none⟩ = some (.int .u32 n) := HRR.out.cell (i := 42) (by omega)
          have HOV := Lib.hid (fun W : World => overloaded_small n 1 (by omega) W)
          have hn0 : (0 : Int) ≤ (n : Int) := by omega
          go_wp2_with fail
          go_quiet ((first | (go_at_call 104; with_reducible exact Calls.quiet_of_same (HOV.out _))))
          obtain ⟨w5, hw5⟩ : ∃ w5, w5 = wr.drewN nq := ⟨_, rfl⟩
          rw [← hw5]
          have HR5 := Lib.hid (show Row w5 b t 47 (htCell b true n H K V) by rw [hw5]; exact HRR.out.drewN nq)
          have HC5 := Lib.hid (show Chg b w2 w5 by rw [hw5]; exact HCR.out.drewN nq)
          clear hw5 d0 d41 d42 HRR HCR hn0 hj
          rcases (show n = 0 ∨ n = 1 ∨ n = 2 ∨ n = 3 ∨ n = 4 ∨ n = 5 ∨ n = 6 ∨ n = 7 by omega) with rfl | rfl | rfl | rfl | rfl | rfl | rfl | rfl
          · -- 0 entries
            have x36 := HR5.out.cell (i := 36) (by omega)
            have x37 := HR5.out.cell (i := 37) (by omega)
            have x38 := HR5.out.cell (i := 38) (by omega)
            have x40 := HR5.out.cell (i := 40) (by omega)
            have x44 := HR5.out.cell (i := 44) (by omega)
            have x45 : w5.cell? ⟨b, 45, none⟩ = some (.pointer (some ⟨b, 44, none⟩)) := HR5.out.cell (i := 45) (by omega)
            have x42 : w5.cell? ⟨b, 42, none⟩ = some (.int .u32 0) := HR5.out.cell (i := 42) (by omega)
            have hfz := HR5.out.frozen
            go_wp2
            rw [Exit.noGoto_ret]
            go_ret
            refine ⟨rfl, ?_, ((((((HC5.out.set 36 _).set 37 _).set 38 _).set 40 _).set 44 _).set 45 _).set 42 _⟩
            rw [← HHD.out]
            exact (((((((HR5.out.set 36 _).set 37 _).set 38 _).set 40 _).set 44 _).set 45 _).set 42 _).congr (ht_added0 b h H K V (.iface tk uk) (.iface tv uv))
          · -- 1 entries
            have x31 := HR5.out.cell (i := 31) (by omega)
            have x32 := HR5.out.cell (i := 32) (by omega)
            have x33 := HR5.out.cell (i := 33) (by omega)
            have x35 := HR5.out.cell (i := 35) (by omega)
            have x39 := HR5.out.cell (i := 39) (by omega)
            have x45 : w5.cell? ⟨b, 45, none⟩ = some (.pointer (some ⟨b, 39, none⟩)) := HR5.out.cell (i := 45) (by omega)
            have x42 : w5.cell? ⟨b, 42, none⟩ = some (.int .u32 1) := HR5.out.cell (i := 42) (by omega)
            have hfz := HR5.out.frozen
            go_wp2
            rw [Exit.noGoto_ret]
            go_ret
            refine ⟨rfl, ?_, ((((((HC5.out.set 31 _).set 32 _).set 33 _).set 35 _).set 39 _).set 45 _).set 42 _⟩
            rw [← HHD.out]
            exact (((((((HR5.out.set 31 _).set 32 _).set 33 _).set 35 _).set 39 _).set 45 _).set 42 _).congr (ht_added1 b h H K V (.iface tk uk) (.iface tv uv))
          · -- 2 entries
            have x26 := HR5.out.cell (i := 26) (by omega)
            have x27 := HR5.out.cell (i := 27) (by omega)
            have x28 := HR5.out.cell (i := 28) (by omega)
            have x30 := HR5.out.cell (i := 30) (by omega)
            have x34 := HR5.out.cell (i := 34) (by omega)
            have x45 : w5.cell? ⟨b, 45, none⟩ = some (.pointer (some ⟨b, 34, none⟩)) := HR5.out.cell (i := 45) (by omega)
            have x42 : w5.cell? ⟨b, 42, none⟩ = some (.int .u32 2) := HR5.out.cell (i := 42) (by omega)
            have hfz := HR5.out.frozen
            go_wp2
            rw [Exit.noGoto_ret]
            go_ret
            refine ⟨rfl, ?_, ((((((HC5.out.set 26 _).set 27 _).set 28 _).set 30 _).set 34 _).set 45 _).set 42 _⟩
            rw [← HHD.out]
            exact (((((((HR5.out.set 26 _).set 27 _).set 28 _).set 30 _).set 34 _).set 45 _).set 42 _).congr (ht_added2 b h H K V (.iface tk uk) (.iface tv uv))
          · -- 3 entries
            have x21 := HR5.out.cell (i := 21) (by omega)
            have x22 := HR5.out.cell (i := 22) (by omega)
            have x23 := HR5.out.cell (i := 23) (by omega)
            have x25 := HR5.out.cell (i := 25) (by omega)
            have x29 := HR5.out.cell (i := 29) (by omega)
            have x45 : w5.cell? ⟨b, 45, none⟩ = some (.pointer (some ⟨b, 29, none⟩)) := HR5.out.cell (i := 45) (by omega)
            have x42 : w5.cell? ⟨b, 42, none⟩ = some (.int .u32 3) := HR5.out.cell (i := 42) (by omega)
            have hfz := HR5.out.frozen
            go_wp2
            rw [Exit.noGoto_ret]
            go_ret
            refine ⟨rfl, ?_, ((((((HC5.out.set 21 _).set 22 _).set 23 _).set 25 _).set 29 _).set 45 _).set 42 _⟩
            rw [← HHD.out]
            exact (((((((HR5.out.set 21 _).set 22 _).set 23 _).set 25 _).set 29 _).set 45 _).set 42 _).congr (ht_added3 b h H K V (.iface tk uk) (.iface tv uv))
          · -- 4 entries
            have x16 := HR5.out.cell (i := 16) (by omega)
            have x17 := HR5.out.cell (i := 17) (by omega)
            have x18 := HR5.out.cell (i := 18) (by omega)
            have x20 := HR5.out.cell (i := 20) (by omega)
            have x24 := HR5.out.cell (i := 24) (by omega)
            have x45 : w5.cell? ⟨b, 45, none⟩ = some (.pointer (some ⟨b, 24, none⟩)) := HR5.out.cell (i := 45) (by omega)
            have x42 : w5.cell? ⟨b, 42, none⟩ = some (.int .u32 4) := HR5.out.cell (i := 42) (by omega)
            have hfz := HR5.out.frozen
            go_wp2
            rw [Exit.noGoto_ret]
            go_ret
            refine ⟨rfl, ?_, ((((((HC5.out.set 16 _).set 17 _).set 18 _).set 20 _).set 24 _).set 45 _).set 42 _⟩
            rw [← HHD.out]
            exact (((((((HR5.out.set 16 _).set 17 _).set 18 _).set 20 _).set 24 _).set 45 _).set 42 _).congr (ht_added4 b h H K V (.iface tk uk) (.iface tv uv))
          · -- 5 entries
            have x11 := HR5.out.cell (i := 11) (by omega)
            have x12 := HR5.out.cell (i := 12) (by omega)
            have x13 := HR5.out.cell (i := 13) (by omega)
            have x15 := HR5.out.cell (i := 15) (by omega)
            have x19 := HR5.out.cell (i := 19) (by omega)
            have x45 : w5.cell? ⟨b, 45, none⟩ = some (.pointer (some ⟨b, 19, none⟩)) := HR5.out.cell (i := 45) (by omega)
            have x42 : w5.cell? ⟨b, 42, none⟩ = some (.int .u32 5) := HR5.out.cell (i := 42) (by omega)
            have hfz := HR5.out.frozen
            go_wp2
            rw [Exit.noGoto_ret]
            go_ret
            refine ⟨rfl, ?_, ((((((HC5.out.set 11 _).set 12 _).set 13 _).set 15 _).set 19 _).set 45 _).set 42 _⟩
            rw [← HHD.out]
            exact (((((((HR5.out.set 11 _).set 12 _).set 13 _).set 15 _).set 19 _).set 45 _).set 42 _).congr (ht_added5 b h H K V (.iface tk uk) (.iface tv uv))
          · -- 6 entries
            have x6 := HR5.out.cell (i := 6) (by omega)
            have x7 := HR5.out.cell (i := 7) (by omega)
            have x8 := HR5.out.cell (i := 8) (by omega)
            have x10 := HR5.out.cell (i := 10) (by omega)
            have x14 := HR5.out.cell (i := 14) (by omega)
            have x45 : w5.cell? ⟨b, 45, none⟩ = some (.pointer (some ⟨b, 14, none⟩)) := HR5.out.cell (i := 45) (by omega)
            have x42 : w5.cell? ⟨b, 42, none⟩ = some (.int .u32 6) := HR5.out.cell (i := 42) (by omega)
            have hfz := HR5.out.frozen
            go_wp2
            rw [Exit.noGoto_ret]
            go_ret
            refine ⟨rfl, ?_, ((((((HC5.out.set 6 _).set 7 _).set 8 _).set 10 _).set 14 _).set 45 _).set 42 _⟩
            rw [← HHD.out]
            exact (((((((HR5.out.set 6 _).set 7 _).set 8 _).set 10 _).set 14 _).set 45 _).set 42 _).congr (ht_added6 b h H K V (.iface tk uk) (.iface tv uv))
          · -- 7 entries
            have x1 := HR5.out.cell (i := 1) (by omega)
            have x2 := HR5.out.cell (i := 2) (by omega)
            have x3 := HR5.out.cell (i := 3) (by omega)
            have x5 := HR5.out.cell (i := 5) (by omega)
            have x9 := HR5.out.cell (i := 9) (by omega)
            have x45 : w5.cell? ⟨b, 45, none⟩ = some (.pointer (some ⟨b, 9, none⟩)) := HR5.out.cell (i := 45) (by omega)
            have x42 : w5.cell? ⟨b, 42, none⟩ = some (.int .u32 7) := HR5.out.cell (i := 42) (by omega)
            have hfz := HR5.out.frozen
            go_wp2
            rw [Exit.noGoto_ret]
            go_ret
            refine ⟨rfl, ?_, ((((((HC5.out.set 1 _).set 2 _).set 3 _).set 5 _).set 9 _).set 45 _).set 42 _⟩
            rw [← HHD.out]
            exact (((((((HR5.out.set 1 _).set 2 _).set 3 _).set 5 _).set 9 _).set 45 _).set 42 _).congr (ht_added7 b h H K V (.iface tk uk) (.iface tv uv))
        · have hj8 : (j : Int) < 8 := by omega
          have d0 := HRR.out.cell (i := 1 + j * 5) (by omega)
          rw [ht_hash b n H K V j (by omega)] at d0
          by_cases hA : j < 8 - n
          · rw [if_neg (by omega)] at d0
            have hne : ((0 : Int) != (h : Int)) = true := by simp; omega
            have HI := Lib.hid (insP_free b n j hA)
            go_wp2
            go_round
            case rel => exact ⟨j + 1, by omega, by go_num, by first | rfl | (rw [HI.out]; done) | exact HI.out.symm, HRR.out, HCR.out⟩
            case measure => simp [intOf]; omega
          · rw [if_pos (by omega)] at d0
            have HI := Lib.hid (insP_used b n j hn (by omega))
            obtain ⟨y, hy⟩ : ∃ y, y = H (7 - j) := ⟨_, rfl⟩
            have hyp := HH.out (7 - j) (by omega)
            rw [← hy] at d0 hyp
            by_cases hq : y = h
            · have HEQ := Lib.hid (HE.out (7 - j) (by omega) wr HCR.out (by rw [← hy, hq]))
              have d1 := HRR.out.cell (i := 1 + j * 5 + 1) (by omega)
              rw [ht_key b n H K V j (by omega) (by omega)] at d1
              obtain ⟨Kj, hKj⟩ : ∃ Kj, Kj = K (7 - j) := ⟨_, rfl⟩
              rw [← hKj] at HEQ d1
              clear hy hyp hKj
              subst hq
              go_wp2_with fail
              refine HEQ.out.mono ?_
              rintro e w5 ⟨rfl, hb5⟩
              have HR5 := Lib.hid (HRR.out.below hb5 HRR.out.lt); have HC5 := Lib.hid (HCR.out.trans (Chg.of_below hb5))
              clear hb5
              go_wp2
              go_round
              case rel => exact ⟨j + 1, by omega, by go_num, HI.out.symm, HR5.out, HC5.out⟩
              case measure => simp [intOf]; omega
            · have hne : ((y : Int) != (h : Int)) = true := by simp; omega
              have hz : ((y : Int) == 0) = false := by simp; omega
              clear hy hyp
              go_wp2
              go_round
              case rel => exact ⟨j + 1, by omega, by go_num, HI.out.symm, HRR.out, HCR.out⟩
              case measure => simp [intOf]; omega
end Go.Proofs.YtpcleebnfgnhdaaGreatDoor

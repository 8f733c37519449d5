import Derived.Test.YtpcleebnfgnhdaaGreatDoorGz34
import Derived.Test.YtpcleebnfgnhdaaGreatDoorGz35
/- Walk: spec.Tree. -/
set_option linter.unusedVariables false
set_option linter.unusedSimpArgs false
namespace Go.Proofs.YtpcleebnfgnhdaaGreatDoor
open Go.RowKit
open Num

/-- what Tree leaves -/
def TreeIs (N : List Nd) (S : Nat → Prop) (d i : Nat) (w : World) (e : Ending) (w' : World) : Prop :=
  ∃ (r : Bool) (k : Int) (n : Bool) (a : Option Addr) (m c : Nat) (b : Int) (s : ByteArray) (a2 : Option Addr) (m2 c2 : Nat), e = .returned (.tuple #[sixV k n a m c b s a2 m2 c2, .bool r]) ∧ Below w.heap.size w w' ∧
    (r = true → ∃ t, treeG N d i = some t ∧ ValB w' (fun b => S b ∨ w.heap.size ≤ b) d (sixV k n a m c b s a2 m2 c2) t) ∧ (r = false → treeG N d i = none)

set_option maxRecDepth 100000 in
theorem Tree_none (N : List Nd) (S : Nat → Prop) (gs : Value) (root : Int) (d i : Nat) (w : World) (hg : ∃ a c, gs = .slice a N.length c) (hd : d ≤ 100) (h : d = 0 ∨ N.length ≤ i) :
    Calls Tryz.prog 8 #[.agg #[gs, .int .i64 root], .int .i64 i, .int .i64 d] w (TreeIs N S d i w) := by
  obtain ⟨sa, sc, rfl⟩ := hg
  have hnone : treeG N d i = none := by
    rcases h with rfl | h
    · rfl
    · cases d with
      | zero => rfl
      | succ d => unfold treeG; rw [List.getElem?_eq_none h]
  have HN := Lib.hid hnone
  clear hnone
  obtain ⟨n, hn⟩ : ∃ n, n = N.length := ⟨_, rfl⟩
  rw [← hn] at h ⊢
  clear hn
  by_cases h0 : d = 0
  · have h0' : ((d : Int) == 0) = true := by simp [h0]
    clear h h0
    go_enter Tryz.func8, Tryz.ntmps8
    go_wp2
    have r1 := heap_alloc_new (w.alloc (.cells #[.slice sa n sc, .int .i64 root] 24)) (sixO 0 false none 0 0 0 ⟨#[]⟩ none 0 0)
    rw [World.size_alloc] at r1
    obtain ⟨e0, e1, e2, e3, e4, e5⟩ := box6 r1 (Below.refl _ _)
    exact bodyPost_ret (v := .tuple #[sixV 0 false none 0 0 0 ⟨#[]⟩ none 0 0, .bool false]) (by simp [results, Tryz.results8, go_sem, e0, e1, e2, e3, e4, e5]) rfl ⟨false, 0, false, none, 0, 0, 0, ⟨#[]⟩, none, 0, 0, rfl, ((Below.refl _ _).alloc (Nat.le_refl _) _).alloc (by simp) _, fun h => (by cases h), fun _ => HN.out⟩
  · have h0' : ((d : Int) == 0) = false := by simp [h0]
    have hge : (n : Int) ≤ (i : Int) := by omega
    clear h h0
    go_enter Tryz.func8, Tryz.ntmps8
    go_wp2
    have r1 := heap_alloc_new (w.alloc (.cells #[.slice sa n sc, .int .i64 root] 24)) (sixO 0 false none 0 0 0 ⟨#[]⟩ none 0 0)
    rw [World.size_alloc] at r1
    obtain ⟨e0, e1, e2, e3, e4, e5⟩ := box6 r1 (Below.refl _ _)
    exact bodyPost_ret (v := .tuple #[sixV 0 false none 0 0 0 ⟨#[]⟩ none 0 0, .bool false]) (by simp [results, Tryz.results8, go_sem, e0, e1, e2, e3, e4, e5]) rfl ⟨false, 0, false, none, 0, 0, 0, ⟨#[]⟩, none, 0, 0, rfl, ((Below.refl _ _).alloc (Nat.le_refl _) _).alloc (by simp) _, fun h => (by cases h), fun _ => HN.out⟩

/-- a tree on its way: its first kids are ts -/
def NewTr (w : World) (S : Nat → Prop) (d : Nat) (V : Obj) (X : Obj) (c0 c1 c2 c3 c4 : Value) (ts : List Tr) (wr : World) : Prop :=
  ∃ ks es, wr.heap[w.heap.size + 1 + 1 + 1]? = some (.cells #[c0, c1, c2, c3, c4, ks] 32 (0, 0)) ∧ OwnE (w.heap.size + 4) (fun b => S b ∨ w.heap.size + 4 ≤ b) wr d ks es ∧ es.map (·.2) = ts ∧ (ts = [] → ks = .slice none 0 0) ∧
    wr.heap[w.heap.size]? = some V ∧ wr.heap[w.heap.size + 1]? = some (sixO 0 false none 0 0 0 ⟨#[]⟩ none 0 0) ∧ wr.heap[w.heap.size + 1 + 1]? = some X ∧ Below w.heap.size w wr
theorem NewTr.begin (w : World) (S : Nat → Prop) (d : Nat) (V X : Obj) (c0 c1 c2 c3 c4 : Value) : NewTr w S d V X c0 c1 c2 c3 c4 [] ((((w.alloc V).alloc (sixO 0 false none 0 0 0 ⟨#[]⟩ none 0 0)).alloc X).alloc (.cells #[c0, c1, c2, c3, c4, .slice none 0 0] 32)) := by
  have h3 := heap_alloc_new (((w.alloc V).alloc (sixO 0 false none 0 0 0 ⟨#[]⟩ none 0 0)).alloc X) (.cells #[c0, c1, c2, c3, c4, .slice none 0 0] 32)
  simp only [World.size_alloc] at h3
  exact ⟨.slice none 0 0, [], h3, OwnE.nil _ _ _ _, rfl, fun _ => rfl, (Below.heap_alloc _ _ _ (by simp; omega)).trans (heap3_0 _ _ _ _), (Below.heap_alloc _ _ _ (by simp)).trans (heap3_1 _ _ _ _), (Below.heap_alloc _ _ _ (by simp)).trans (heap3_2 _ _ _ _), ((((Below.refl _ _).alloc (Nat.le_refl _) _).alloc (by simp) _).alloc (by simp; omega) _).alloc (by simp; omega) _⟩

theorem size_alloc_drew (w : World) (O : Obj) : (w.alloc O).drew.heap.size = w.heap.size + 1 := World.size_alloc w O
theorem allOf_eq : ∀ (l : List (Option Tr)) (ts : List Tr), ts.length = l.length → (∀ q (h : q < l.length) (h2 : q < ts.length), l[q] = some ts[q]) → allOf l = some ts
  | [], [], _, _ => rfl
  | [], _ :: _, h, _ => by simp at h
  | _ :: _, [], h, _ => by simp at h
  | x :: l, t :: ts, h, hq => by
    have h0 := hq 0 (by simp) (by simp)
    have h1 := allOf_eq l ts (by simpa using h) (fun q a b => by
      have := hq (q + 1) (by simp; omega) (by simp; omega)
      simpa using this)
    have h0' : x = some t := h0
    rw [h0']
    show (allOf l).map (t :: ·) = some (t :: ts)
    rw [h1]; rfl
theorem entAt_own {base : Nat} {wr w5 w6 : World} {S : Nat → Prop} {d : Nat} {ks y : Value} {t : Tr} {es : List (Value × Tr)} (h6 : IsSix y) (hS : ∀ b, S b → b < base) (hown : OwnE base (fun b => S b ∨ base ≤ b) wr d ks es) (hwr : base ≤ wr.heap.size) (hy : ValB w5 (fun b => S b ∨ wr.heap.size ≤ b) d y t) (hb : Below w5.heap.size w5 w6) :
    EntAt (fun b => S b ∨ base ≤ b) w6 d ks (y, t) := by
  refine ⟨h6, _, (hy.there).below hb, fun b hb2 => ⟨Nat.lt_of_lt_of_le hb2.2 hb.size, ?_⟩, fun g hg hb2 => ?_⟩
  · rcases hb2.1 with h | h
    · exact .inl h
    · exact .inr (by omega)
  · have := hown.lt g hg
    rcases hb2.1 with h | h
    · have := hS g h; omega
    · omega
/-- a kid that was made, in a box of its own -/
structure KidIn (N : List Nd) (S : Nat → Prop) (d y : Nat) (wr w6 : World) (bk : Nat) (r : Bool) (k : Int) (n : Bool) (a : Option Addr) (m c : Nat) (b : Int) (s : ByteArray) (a2 : Option Addr) (m2 c2 : Nat) : Prop where
  row : w6.heap[bk]? = some (sixO k n a m c b s a2 m2 c2)
  bl : Below wr.heap.size wr w6
  new : wr.heap.size ≤ bk
  yes : r = true → ∃ t, treeG N d y = some t ∧ ValB w6 (fun b => S b ∨ wr.heap.size ≤ b) d (sixV k n a m c b s a2 m2 c2) t

set_option maxRecDepth 100000 in
set_option maxHeartbeats 8000000 in
theorem Tree_node (N : List Nd) (S : Nat → Prop) (gs : Value) (root : Int) (d i : Nat) (w : World) (hg : GrB w S gs N) (hS : ∀ b, S b → b < w.heap.size) (hd : d ≤ 99) (hin : i < N.length) (hn : N.length ≤ 1000)
    (hK : ∀ x ∈ N, x.ks.length ≤ 8 ∧ (∀ k ∈ x.ks, k ≤ 1000000) ∧ (x.T.kind < 6 → x.ks = []))
    (hT : ∀ (k : Nat) (W : World), k ≤ 1000000 → Below w.heap.size w W → Calls Tryz.prog 8 #[.agg #[gs, .int .i64 root], .int .i64 k, .int .i64 d] W (TreeIs N S d k W)) :
    Calls Tryz.prog 8 #[.agg #[gs, .int .i64 root], .int .i64 i, .int .i64 ((d : Int) + 1)] w (TreeIs N S (d + 1) i w) := by
  have hks := hK N[i] (List.getElem_mem hin)
  obtain ⟨g, p, c, e, hc, hc2, hl, hSg, n1, a1, m1, c1, b1, s1, ka, kc, hcells, hvb, hnums⟩ := hg.node i hin
  subst e
  obtain ⟨x, hx⟩ : ∃ x, x = N[i] := ⟨_, rfl⟩
  have htree : treeG N (d + 1) i = (allOf (x.ks.map (treeG N d))).map (withKids x.T) := by
    show (match N[i]? with | none => none | some x => (allOf (x.ks.map (treeG N d))).map (withKids x.T)) = _
    rw [List.getElem?_eq_getElem hin, ← hx]
  rw [← hx] at hks hcells hvb hnums
  obtain ⟨n, hnn⟩ : ∃ n, n = N.length := ⟨_, rfl⟩
  obtain ⟨K, hKK⟩ : ∃ K, K = x.ks.length := ⟨_, rfl⟩
  have hK8 : K ≤ 8 := by omega
  obtain ⟨kd, hkd⟩ : ∃ kd, kd = x.T.kind := ⟨_, rfl⟩
  obtain ⟨w4, hw4⟩ : ∃ w4, w4 = (((w.alloc (.cells #[.slice (some ⟨g, p, none⟩) n c, .int .i64 root] 24)).alloc (sixO 0 false none 0 0 0 ⟨#[]⟩ none 0 0)).alloc (.cells #[.int .i64 kd, .bool n1, .slice a1 m1 c1, .int .u64 b1, .string s1, .slice ka K kc] 48)).alloc (sixO kd n1 a1 m1 c1 b1 s1 none 0 0) := ⟨_, rfl⟩
  have HW4 := Lib.hid hw4
  have HU4 := Lib.hid (show NewTr w S d (.cells #[.slice (some ⟨g, p, none⟩) n c, .int .i64 root] 24) (.cells #[.int .i64 kd, .bool n1, .slice a1 m1 c1, .int .u64 b1, .string s1, .slice ka K kc] 48) (.int .i64 kd) (.bool n1) (.slice a1 m1 c1) (.int .u64 b1) (.string s1) [] w4 by rw [hw4]; exact NewTr.begin w S d _ _ _ _ _ _ _)
  have HTR := Lib.hid htree; have HNN := Lib.hid hnn; have HKK := Lib.hid hKK; have HKD := Lib.hid hkd; have HVB := Lib.hid hvb; have HKS := Lib.hid hks
  have HNU := Lib.hid hnums; have HTT := Lib.hid hT; have HSS := Lib.hid hS; have HIN := Lib.hid hin
  rw [← hnn] at hn hc HTT ⊢
  have hlt : (i : Int) < (n : Int) := by omega
  have hnge : ¬ ((n : Int) ≤ (i : Int)) := by omega
  have hd0 : ((d : Int) + 1 == 0) = false := by simp; omega
  have hde : IntKind.i64.wrap ((d : Int) + 1 - 1) = (d : Int) := by simp only [IntKind.wrap_i64]; omega
  have hde2 : wrap64 ((d : Int) + 1 - 1) = (d : Int) := by unfold wrap64; omega
  have hde3 : IntKind.i64.wrap (d : Int) = (d : Int) := by simp only [IntKind.wrap_i64]; omega
  have hde4 : wrap64 (d : Int) = (d : Int) := by unfold wrap64; omega
  obtain ⟨q0, q1, q2, q3, q4, q5⟩ := hcells
  rw [← hkd] at q0
  rw [← hKK] at q5
  clear hg hS hK hT hin hks hvb hnums hx htree hnn hKK hkd hw4
  go_enter Tryz.func8, Tryz.ntmps8
  go_wp2
  rw [← HW4.out]
  clear q0 q1 q2 q3 q4 q5 hnge hlt
  go_loopw [10] (fun s wr => ∃ j : Nat, j ≤ K ∧ s = .int .i64 j ∧ ∃ ts, NewTr w S d (.cells #[.slice (some ⟨g, p, none⟩) n c, .int .i64 root] 24) (.cells #[.int .i64 kd, .bool n1, .slice a1 m1 c1, .int .u64 b1, .string s1, .slice ka K kc] 48) (.int .i64 kd) (.bool n1) (.slice a1 m1 c1) (.int .u64 b1) (.string s1) ts wr ∧ ts.length = j ∧ ∀ q (h : q < j) (h2 : q < ts.length) (h3 : q < x.ks.length), treeG N d x.ks[q] = some ts[q]) (fun s _ => K - (intOf s).toNat)
  case atStart => exact ⟨0, by omega, rfl, [], HU4.out, rfl, fun q h => absurd h (by omega)⟩
  case round =>
    obtain ⟨j, hj, rfl, ts, hu, htl, htr⟩ := hrel
    clear HU4 HW4
    obtain ⟨ks, es, r3, hown, hes, hks0, r0, r1, r2, hb⟩ := hu
    have HTL := Lib.hid htl; have HTRR := Lib.hid htr; have HOWN := Lib.hid hown; have HES := Lib.hid hes; have HK0 := Lib.hid hks0
    have HR0 := Lib.hid r0; have HR1 := Lib.hid r1; have HR2 := Lib.hid r2; have HR3 := Lib.hid r3; have HB := Lib.hid hb
    have hsz : w.heap.size + 4 ≤ wr.heap.size := by have := (Array.getElem?_eq_some_iff.1 r3).1; omega
    have HSZ := Lib.hid hsz
    have x5 : wr.cell? ⟨w.heap.size + 1 + 1, 5, none⟩ = some (.slice ka K kc) := (cell_of_row _ _ 5 _ _ (0, 0) r2).trans rfl
    by_cases he : j < K
    · have hltk : (j : Int) < (K : Int) := by omega
      have hjx : j < x.ks.length := by have := HKK.out; omega
      obtain ⟨g2, p2, e1, e2, e3, e4, e5, e6, e7⟩ := HNU.out.get j hjx
      subst e1
      obtain ⟨y, hy⟩ : ∃ y, y = x.ks[j] := ⟨_, rfl⟩
      have hy6 : y ≤ 1000000 := by rw [hy]; exact HKS.out.2.1 _ (List.getElem_mem _)
      rw [← hy] at e7
      have HY := Lib.hid hy
      have x0 : wr.cell? ⟨w.heap.size, 0, none⟩ = some (.slice (some ⟨g, p, none⟩) n c) := (cell_of_row _ _ 0 _ _ (0, 0) r0).trans rfl
      have x1 : wr.cell? ⟨w.heap.size, 1, none⟩ = some (.int .i64 root) := (cell_of_row _ _ 1 _ _ (0, 0) r0).trans rfl
      have x6 : wr.cell? ⟨g2, p2 + j, none⟩ = some (.int .i64 y) := (hb.cell (p := ⟨g2, p2 + j, none⟩) e6).trans e7
      have HZ := Lib.hid (show ∀ W, Below wr.heap.size wr W → W.cell? ⟨w.heap.size, 0, none⟩ = some (.slice (some ⟨g, p, none⟩) n c) ∧ W.cell? ⟨w.heap.size, 1, none⟩ = some (.int .i64 root) ∧ W.cell? ⟨w.heap.size + 1 + 1, 5, none⟩ = some (.slice (some ⟨g2, p2, none⟩) K kc) ∧ W.cell? ⟨g2, p2 + j, none⟩ = some (.int .i64 y) from fun W hbw =>
        ⟨(hbw.cell (p := ⟨w.heap.size, 0, none⟩) (by dsimp only; omega)).trans x0, (hbw.cell (p := ⟨w.heap.size, 1, none⟩) (by dsimp only; omega)).trans x1, (hbw.cell (p := ⟨w.heap.size + 1 + 1, 5, none⟩) (by dsimp only; omega)).trans x5, (hbw.cell (p := ⟨g2, p2 + j, none⟩) (by dsimp only; have := hb.size; omega)).trans x6⟩)
      have HC := Lib.hid (fun W (hbw : Below wr.heap.size wr W) => HTT.out y W hy6 (hb.trans (hbw.mono hb.size)))
      have HBC := Lib.hid ((Below.refl wr.heap.size wr).drew)
      have HE3 := Lib.hid (And.intro e3 e4)
      have HHJ := Lib.hid hjx; have HEJ := Lib.hid he
      clear htl htr hown hes hks0 r0 r1 r2 r3 hb hsz hy e7 e6 e5 he
      go_wp2
      go_region_held3 (fun W => Below wr.heap.size wr W ∧ W.cell? ⟨w.heap.size, 0, none⟩ = some (.slice (some ⟨g, p, none⟩) n c) ∧ W.cell? ⟨w.heap.size, 1, none⟩ = some (.int .i64 root) ∧ W.cell? ⟨w.heap.size + 1 + 1, 5, none⟩ = some (.slice (some ⟨g2, p2, none⟩) K kc) ∧ W.cell? ⟨g2, p2 + j, none⟩ = some (.int .i64 y)) (first | (refine (fun hb => ⟨hb, HZ.out _ hb⟩) ?_; repeat (first | with_reducible exact HBC.out | with_reducible exact Below.refl _ _ | with_reducible refine Below.drew ?_ | with_reducible refine below_alx ?_ _ | with_reducible refine Below.setCell ?_ (by first | (simp; done) | (dsimp only; have g3 := HBC.out.size; (try simp only [World.size_alloc]); omega)) _))) (first | (go_simp; go_at_call 8; (with_reducible refine (HC.out _ (by repeat (first | with_reducible exact HBC.out | with_reducible exact Below.refl _ _ | with_reducible refine Below.drew ?_ | with_reducible refine below_alx ?_ _))).mono ?_); rintro e w5 ⟨r, k2, n2, a2, m2, c2, b2, s2, d2, o2, f2, rfl, hb5, hv, hno⟩; (first | (have A0 : Zx w5 wr.heap.size := (Zx.new wr.drew).below hb5; (have zA0c := A0.fr; have zA0d := fun O => (A0.al O).fr; obtain ⟨zA00, zA01, zA02, zA03, zA04, zA05⟩ := A0.cells; have HA0 := Lib.hid A0; clear A0)) | skip); have hbc := below_step (w := wr) (by repeat (first | with_reducible exact Below.refl _ _ | with_reducible refine Below.drew ?_ | with_reducible refine below_alx ?_ _)) hb5 (Below.refl _ _); have HBC := Lib.hid hbc; have HV := Lib.hid hv; have HNO := Lib.hid hno; clear hb5 hv hno hbc))
      all_goals (
        first
          | (obtain ⟨w6, hw6⟩ : ∃ w6, w6 = w5.alloc (sixO k2 n2 a2 m2 c2 b2 s2 d2 o2 f2) := ⟨_, rfl⟩
             rw [← hw6]
             have HKI := Lib.hid (show KidIn N S d y wr w6 w5.heap.size r k2 n2 a2 m2 c2 b2 s2 d2 o2 f2 by
               rw [hw6]
               exact ⟨heap_alloc_new _ _, below_alx HBC.out _, HBC.out.size, fun h => by
                 obtain ⟨t, h1, h2⟩ := HV.out h
                 exact ⟨t, h1, h2.below (below_al0 _ _)⟩⟩)
             clear hw6
             obtain ⟨bk, hbk⟩ : ∃ bk, bk = w5.heap.size := ⟨_, rfl⟩
             rw [← hbk] at HKI ⊢
             clear hbk)
          | (obtain ⟨w6, hw6⟩ : ∃ w6, w6 = put6 w5 wr.heap.size (.int .i64 k2) (.bool n2) (.slice a2 m2 c2) (.int .u64 b2) (.string s2) (.slice d2 o2 f2) := ⟨_, rfl⟩
             have HKI := Lib.hid (show KidIn N S d y wr w6 wr.heap.size r k2 n2 a2 m2 c2 b2 s2 d2 o2 f2 by
               rw [hw6]
               exact ⟨HA0.out.put _ _ _ _ _ _, below_put6 HBC.out (Nat.le_refl _) _ _ _ _ _ _, Nat.le_refl _, fun h => by
                 obtain ⟨t, h1, h2⟩ := HV.out h
                 exact ⟨t, h1, h2.turn (fun b hb => by rcases hb with hb | hb; exact Or.inl hb; exact Or.inr (by rw [size_alloc_drew] at hb; omega)) (put6_chg _ _ _ _ _ _ _ _).size (fun b hb hl => (put6_chg w5 wr.heap.size _ _ _ _ _ _).block b hl (fun e => by rcases hb with hb | hb; have := HSS.out b hb; have := HSZ.out; omega; rw [size_alloc_drew] at hb; omega))⟩⟩)
             unfold put6 at hw6
             rw [← hw6]
             clear hw6 zA0c zA0d zA00 zA01 zA02 zA03 zA04 zA05
             obtain ⟨bk, hbk⟩ : ∃ bk, bk = wr.heap.size := ⟨_, rfl⟩
             rw [← hbk]
             rw [show KidIn N S d y wr w6 wr.heap.size r k2 n2 a2 m2 c2 b2 s2 d2 o2 f2 = KidIn N S d y wr w6 bk r k2 n2 a2 m2 c2 b2 s2 d2 o2 f2 by rw [hbk]] at HKI
             clear hbk)
        have g1 := HSZ.out
        have HB6 := Lib.hid HKI.out.bl
        have HR16 := Lib.hid (show w6.heap[w.heap.size + 1]? = some (sixO 0 false none 0 0 0 ⟨#[]⟩ none 0 0) from (HB6.out.block _ (by omega)).trans HR1.out)
        have HR36 := Lib.hid ((HB6.out.block _ (by omega)).trans HR3.out)
        obtain ⟨v0, v1, v2, v3, v4, v5⟩ := box6 HR16.out (Below.refl _ _)
        have fz : ∀ i, w6.frozen? ⟨w.heap.size + 1, i, none⟩ = false := six_frozen HR16.out
        obtain ⟨u0, u1, u2, u3, u4', u5⟩ := box6 HKI.out.row (Below.refl _ _)
        obtain ⟨sa, sc, hsh⟩ := HOWN.out.shape
        subst hsh
        have o5 : w6.cell? ⟨w.heap.size + 1 + 1 + 1, 5, none⟩ = some (.slice sa es.length sc) := (cell_of_row _ _ 5 _ _ (0, 0) HR36.out).trans rfl
        have fo : ∀ i, w6.frozen? ⟨w.heap.size + 1 + 1 + 1, i, none⟩ = false := six_frozen HR36.out
        clear g1
        cases r with
        | false =>
          have hnone : treeG N (d + 1) i = none := by
            rw [HTR.out, allOf_none]
            · rfl
            · have := HNO.out rfl
              rw [← this, HY.out]
              exact List.mem_map.2 ⟨_, List.getElem_mem _, rfl⟩
          have HNN2 := Lib.hid hnone
          clear hnone
          go_wp2
          have hput := put6_heap (x0 := .int .i64 0) (x1 := .bool false) (x2 := .slice none 0 0) (x3 := .int .u64 0) (x4 := .string ⟨#[]⟩) (x5 := .slice none 0 0) HR16.out
          unfold put6 at hput
          obtain ⟨e0, e1, e2, e3, e4, e5⟩ := box6 hput (Below.refl _ _)
          exact bodyPost_ret (v := .tuple #[sixV 0 false none 0 0 0 ⟨#[]⟩ none 0 0, .bool false]) (by simp [results, Tryz.results8, go_sem, e0, e1, e2, e3, e4, e5]) rfl ⟨false, 0, false, none, 0, 0, 0, ⟨#[]⟩, none, 0, 0, rfl, below_put6 (HB.out.trans (HB6.out.mono HB.out.size)) (by omega) _ _ _ _ _ _, fun h => (by cases h), fun _ => HNN2.out⟩
        | true =>
          obtain ⟨t, ht, hvt⟩ := HKI.out.yes rfl
          have HT := Lib.hid ht
          have HP := Lib.hid (show PushOwn (w.heap.size + 4) (w.heap.size + 1 + 1 + 1) (fun b => S b ∨ w.heap.size + 4 ≤ b) d (.int .i64 kd) (.bool n1) (.slice a1 m1 c1) (.int .u64 b1) (.string s1) [(sixV k2 n2 a2 m2 c2 b2 s2 d2 o2 f2, t)] (.slice sa es.length sc) es (w6.alloc (sixO k2 n2 a2 m2 c2 b2 s2 d2 o2 f2)) w6.heap.size from
            ⟨(below_al0 w6 _).block _ (Array.getElem?_eq_some_iff.1 HR36.out).1 |>.trans HR36.out, (HOWN.out.below HB6.out).below (below_al0 _ _), by omega, fun h => (by rcases h with h | h; have := HSS.out _ h; omega; omega), by have := HSZ.out; have := HB6.out.size; simp; omega,
              by have h1 := congrArg List.length HES.out; have h2 := HTL.out; rw [List.length_map] at h1; omega, by simp, by simpa [six] using heap_alloc_new w6 (sixO k2 n2 a2 m2 c2 b2 s2 d2 o2 f2), fun u hu => (by simp [six] at hu; rcases hu with rfl | rfl | rfl | rfl | rfl | rfl <;> rfl), fun e he => (by
                obtain rfl : e = (sixV k2 n2 a2 m2 c2 b2 s2 d2 o2 f2, t) := by simpa using he
                exact entAt_own ⟨_, _, _, _, _, _, rfl⟩ (fun b hb => by have := HSS.out b hb; omega) HOWN.out HSZ.out hvt (below_al0 _ _))⟩)
          clear ht hvt v0 v1 v2 v3 v4 v5 fz
          go_wp2_with ((with_reducible show wpList _ _ _ _ _ _); refine wpList_push_own rfl (.tmp 62) (.tmp 64) rfl rfl rfl HP.out rfl ?_; intro a' n' c' w7 q7 q8 HN7)
          go_round
          case rel =>
            have hb7 := (below_al0 w6 (sixO k2 n2 a2 m2 c2 b2 s2 d2 o2 f2)).mono (B' := w.heap.size + 1 + 1 + 1) (by have := HSZ.out; have := HB6.out.size; omega)
            have hb8 := hb7.trans HN7.out.b
            have hb68 := (HB6.out.mono (B' := w.heap.size + 1 + 1 + 1) (by have := HSZ.out; omega)).trans hb8
            refine ⟨j + 1, by omega, by go_num, ts ++ [t], ⟨.slice a' n' c', es ++ [(sixV k2 n2 a2 m2 c2 b2 s2 d2 o2 f2, t)], HN7.out.o, HN7.out.own, by rw [List.map_append, HES.out]; rfl, fun h => (by simp at h), ?_, ?_, ?_, ?_⟩, by rw [List.length_append, HTL.out]; rfl, fun q h h2 h3 => ?_⟩
            · exact (hb68.block _ (by omega)).trans HR0.out
            · exact (hb68.block _ (by omega)).trans HR1.out
            · exact (hb68.block _ (by omega)).trans HR2.out
            · exact HB.out.trans (hb68.mono (by omega))
            · by_cases e : q = j
              · subst e
                rw [List.getElem_append_right (by rw [HTL.out]; exact Nat.le_refl _)]
                simp only [HTL.out, Nat.sub_self, List.getElem_singleton]
                rw [← HY.out]; exact HT.out
              · have hq : q < ts.length := by have := HTL.out; omega
                rw [List.getElem_append_left hq]
                exact HTRR.out q (by omega) hq h3
          case measure => simp [intOf]; omega)
    · have hge : ¬ ((j : Int) < (K : Int)) := by omega
      obtain ⟨sa, sc, hsh⟩ := hown.shape
      subst hsh
      obtain ⟨u0, u1, u2, u3, u4, u5⟩ := box6 r3 (Below.refl _ _)
      obtain ⟨v0, v1, v2, v3, v4, v5⟩ := box6 r1 (Below.refl _ _)
      have fz : ∀ i, wr.frozen? ⟨w.heap.size + 1, i, none⟩ = false := six_frozen r1
      have HJK := Lib.hid (show j = K by omega)
      clear htl htr hown hes hks0 r0 r1 r2 r3 hb hsz
      go_wp2
      obtain ⟨wF, hwF⟩ : ∃ wF, wF = put6 wr (w.heap.size + 1) (.int .i64 kd) (.bool n1) (.slice a1 m1 c1) (.int .u64 b1) (.string s1) (.slice sa es.length sc) := ⟨_, rfl⟩
      have hput := put6_heap (x0 := .int .i64 kd) (x1 := .bool n1) (x2 := .slice a1 m1 c1) (x3 := .int .u64 b1) (x4 := .string s1) (x5 := .slice sa es.length sc) HR1.out
      have hch := put6_chg wr (w.heap.size + 1) (.int .i64 kd) (.bool n1) (.slice a1 m1 c1) (.int .u64 b1) (.string s1) (.slice sa es.length sc)
      rw [← hwF] at hput hch
      have hbF : Below w.heap.size w wF := Chg.below HB.out HB.out.size hch (by omega)
      have hall : allOf (x.ks.map (treeG N d)) = some ts := allOf_eq _ _ (by rw [List.length_map, HTL.out, HJK.out, HKK.out]) (fun q h h2 => by
        rw [List.getElem_map]
        exact HTRR.out q (by have := HTL.out; omega) h2 (by simpa using h))
      have hkid : KidsB wF (fun b => S b ∨ w.heap.size ≤ b) (ValB wF (fun b => S b ∨ w.heap.size ≤ b) d) (.slice sa es.length sc) (es.map (·.2)) := (HOWN.out.chg hch (by omega) (fun h => by rcases h with h | h; have := HSS.out _ h; omega; omega)).kids (fun b h => by rcases h with h | h; exact Or.inl h; exact Or.inr (by omega)) (fun b h => Or.inr (by omega))
      rw [HES.out] at hkid
      have hval := val_kids (T := x.T) (ks := .slice sa es.length sc) (d := d) (by
        have h := HVB.out.turn (S' := fun b => S b ∨ w.heap.size ≤ b) (fun b h => Or.inl h) hbF.size (fun b _ hl => hbF.block b hl)
        exact h) hkid (fun h6 => by
          have h8 := HKS.out.2.2 h6
          have h9 : ts = [] := List.eq_nil_of_length_eq_zero (by rw [HTL.out, HJK.out, HKK.out, h8]; rfl)
          exact HK0.out h9)
      rw [← HKD.out] at hval
      unfold put6 at hwF
      subst hwF
      obtain ⟨e0, e1, e2, e3, e4, e5⟩ := box6 hput (Below.refl _ _)
      exact bodyPost_ret (v := .tuple #[sixV kd n1 a1 m1 c1 b1 s1 sa es.length sc, .bool true]) (by simp [results, Tryz.results8, go_sem, e0, e1, e2, e3, e4, e5]) rfl ⟨true, kd, n1, a1, m1, c1, b1, s1, sa, es.length, sc, rfl, hbF, fun _ => ⟨_, by rw [HTR.out, hall]; rfl, hval⟩, fun h => (by cases h)⟩

theorem Tree_any : ∀ (d : Nat) (N : List Nd) (S : Nat → Prop) (gs : Value) (root : Int) (i : Nat) (w : World), GrB w S gs N → (∀ b, S b → b < w.heap.size) → d ≤ 100 → N.length ≤ 1000 → i ≤ 1000000 →
    (∀ x ∈ N, x.ks.length ≤ 8 ∧ (∀ k ∈ x.ks, k ≤ 1000000) ∧ (x.T.kind < 6 → x.ks = [])) →
    Calls Tryz.prog 8 #[.agg #[gs, .int .i64 root], .int .i64 i, .int .i64 d] w (TreeIs N S d i w)
  | 0, N, S, gs, root, i, w, hg, _, _, _, _, _ => Tree_none N S gs root 0 i w hg.shape (by omega) (.inl rfl)
  | d + 1, N, S, gs, root, i, w, hg, hS, hd, hn, hi, hK => by
    by_cases hin : i < N.length
    · refine Tree_node N S gs root d i w hg hS (by omega) hin hn hK (fun k W hk hb => ?_)
      exact Tree_any d N S gs root k W (hg.below hb) (fun b h => Nat.lt_of_lt_of_le (hS b h) hb.size) (by omega) hn hk hK
    · exact Tree_none N S gs root (d + 1) i w hg.shape hd (.inr (by omega))
end Go.Proofs.YtpcleebnfgnhdaaGreatDoor

import Derived.Test.YtpcleebnfgnhdaaGreatDoorGz31
/- Walks: a value is made a key. -/
set_option linter.unusedVariables false
set_option linter.unusedSimpArgs false
namespace Go.Proofs.YtpcleebnfgnhdaaGreatDoor
open Go.RowKit
open Num

/-- the key that a value is made -/
def keyT : Nat → Tr → Tr
  | 0, x => x
  | d + 1, x =>
    match x with
    | .lst l => .tup (l.map (keyT d))
    | .tup l => .tup (l.map (keyT d))
    | .dic l => .tup (l.map (keyT d))
    | .set l => .tup (l.map (keyT d))
    | x => x
theorem keyT_ok : ∀ (d : Nat) (T : Tr), CleanT d T → KeyT d (keyT d T) ∧ Slim d (keyT d T) ∧ CleanT d (keyT d T)
  | 0, _, h => h.elim
  | d + 1, T, h => by
    have hm : ∀ l : List Tr, (∀ k ∈ l, CleanT d k) → ∀ k ∈ l.map (keyT d), KeyT d k ∧ Slim d k ∧ CleanT d k := fun l hl k hk => by
      obtain ⟨x, hx, rfl⟩ := List.mem_map.1 hk
      exact keyT_ok d x (hl x hx)
    have ht : ∀ l : List Tr, l.length ≤ 16 → (∀ k ∈ l, CleanT d k) → KeyT (d + 1) (.tup (l.map (keyT d))) ∧ Slim (d + 1) (.tup (l.map (keyT d))) ∧ CleanT (d + 1) (.tup (l.map (keyT d))) := fun l h8 hl =>
      ⟨fun k hk => (hm l hl k hk).1, ⟨by show (l.map (keyT d)).length ≤ 16; simpa using h8, fun k hk => (hm l hl k hk).2.1⟩, fun k hk => (hm l hl k hk).2.2, by show (l.map (keyT d)).length ≤ 16; simpa using h8⟩
    cases T with
    | non => exact ⟨trivial, ⟨by show 0 ≤ 16; decide, fun k hk => by cases hk⟩, h⟩
    | bool b => exact ⟨trivial, ⟨by show 0 ≤ 16; decide, fun k hk => by cases hk⟩, h⟩
    | int n V => exact ⟨trivial, ⟨by show 0 ≤ 16; decide, fun k hk => by cases hk⟩, h⟩
    | flt B => exact ⟨trivial, ⟨by show 0 ≤ 16; decide, fun k hk => by cases hk⟩, h⟩
    | str s => exact ⟨trivial, ⟨by show 0 ≤ 16; decide, fun k hk => by cases hk⟩, h⟩
    | byt s => exact ⟨trivial, ⟨by show 0 ≤ 16; decide, fun k hk => by cases hk⟩, h⟩
    | lst l => exact ht l (Nat.le_trans h.2 (by decide)) h.1
    | tup l => exact ht l h.2 h.1
    | dic l => exact ht l h.2.2.1 h.1
    | set l => exact ht l (Nat.le_trans h.2.1 (by decide)) h.1

theorem extract_all (s : ByteArray) : s.extract 0 s.size = s := by
  cases s; simp [ByteArray.extract, ByteArray.copySlice, ByteArray.size]
set_option maxRecDepth 100000 in
theorem Key_flat (k n a m c b s a2 m2 c2) (hk : k < 6) (hs : s.size ≤ 60) (w : World) :
    Calls Tryz.prog 66 #[sixV k n a m c b s a2 m2 c2] w fun e w' => e = .returned (sixV k n a m c b s a2 m2 c2) ∧ Below w.heap.size w w' := by
  have hmin : min (s.size : Int) 60 = (s.size : Int) := by omega
  have hx := extract_all s
  have h0 : (0 : Int) ≤ (s.size : Int) := by omega
  go_enter Tryz.func66, Tryz.ntmps66
  go_wp2
  obtain ⟨r0, r1, hb, _⟩ := two_new w (sixO k n a m c b s a2 m2 c2) (sixO k n a m c b s a2 m2 c2)
  obtain ⟨e0, e1, e2, e3, e4, e5⟩ := box6 r1 (Below.refl _ _)
  exact bodyPost_ret (v := sixV k n a m c b s a2 m2 c2) (by simp [results, Tryz.results66, go_sem, e0, e1, e2, e3, e4, e5]) rfl ⟨rfl, hb⟩

/-- a kid of a value in blocks of S, its six cells -/
theorem KidsB.kid {w : World} {S : Nat → Prop} {d g p n c : Nat} {l : List Tr} (h : KidsB w S (ValB w S d) (.slice (some ⟨g, p, none⟩) n c) l) (i : Nat) (hi : i < l.length) :
    S g ∧ g < w.heap.size ∧ ∃ k n a m c b s a2 m2 c2, Cells6 w g (p + i * 6) k n a m c b s a2 m2 c2 ∧ ValB w S d (sixV k n a m c b s a2 m2 c2) l[i] := by
  rcases h with ⟨rfl, _⟩ | ⟨h0, g', p', c', e, hg, hc, hc2, hl, hk⟩
  · simp at hi
  · injection e with e1 e2 e3
    injection e1 with e1
    injection e1 with e4 e5
    subst e4; subst e5
    obtain ⟨k0, n0, a0, m0, c0, b0, s0, a2, m2, c2, h0, h1, h2, h3, h4, h5, hv⟩ := KidsAt.kid (c := c) (n := 0) hk (fun u T _ h => h.at_.shape) i hi
    exact ⟨hg, hl, k0, n0, a0, m0, c0, b0, s0, a2, m2, c2, ⟨h0, h1, h2, h3, h4, h5⟩, hv⟩
theorem KidsB.shape {w : World} {S : Nat → Prop} {P : Value → Tr → Prop} {s : Value} {l : List Tr} (h : KidsB w S P s l) : (l = [] ∧ ∃ a c, s = .slice a 0 c) ∨ (0 < l.length ∧ ∃ g p c, s = .slice (some ⟨g, p, none⟩) l.length c) := by
  rcases h with h | ⟨h0, g, p, c, e, _⟩
  · exact .inl h
  · exact .inr ⟨h0, g, p, c, e⟩

/-- six cells stored into a value's block -/
def put6 (w : World) (B : Nat) (x0 x1 x2 x3 x4 x5 : Value) : World := (((((w.setCell ⟨B, 0, none⟩ x0).setCell ⟨B, 1, none⟩ x1).setCell ⟨B, 2, none⟩ x2).setCell ⟨B, 3, none⟩ x3).setCell ⟨B, 4, none⟩ x4).setCell ⟨B, 5, none⟩ x5
theorem put6_heap {w : World} {B T : Nat} {a0 a1 a2 a3 a4 a5 x0 x1 x2 x3 x4 x5 : Value} (h : w.heap[B]? = some (.cells #[a0, a1, a2, a3, a4, a5] T (0, 0))) : (put6 w B x0 x1 x2 x3 x4 x5).heap[B]? = some (.cells #[x0, x1, x2, x3, x4, x5] T (0, 0)) :=
  (set1 (i := 5) (x := x5) (set1 (i := 4) (x := x4) (set1 (i := 3) (x := x3) (set1 (i := 2) (x := x2) (set1 (i := 1) (x := x1) (set1 (i := 0) (x := x0) h)))))).trans rfl
theorem put6_chg (w : World) (B : Nat) (x0 x1 x2 x3 x4 x5 : Value) : Chg B w (put6 w B x0 x1 x2 x3 x4 x5) := ((((((Chg.refl B w).set 0 x0).set 1 x1).set 2 x2).set 3 x3).set 4 x4).set 5 x5
theorem six_frozen {w : World} {B T : Nat} {cs : Array Value} (h : w.heap[B]? = some (.cells cs T (0, 0))) (i : Nat) : w.frozen? ⟨B, i, none⟩ = false := by simp [World.frozen?, h]

/-- a new value on its way: its kids are es; block O holds it, block b0 what came in, block b1 the result -/
def NewUp (w : World) (S : Nat → Prop) (d : Nat) (kind : Int) (V : Obj) (ts : List Tr) (wr : World) : Prop :=
  ∃ ks es, wr.heap[w.heap.size + 1 + 1]? = some (.cells #[.int .i64 kind, .bool false, .slice none 0 0, .int .u64 0, .string ⟨#[]⟩, ks] 32 (0, 0)) ∧ OwnE (w.heap.size + 3) (fun b => S b ∨ w.heap.size + 3 ≤ b) wr d ks es ∧ es.map (·.2) = ts ∧
    wr.heap[w.heap.size]? = some V ∧ wr.heap[w.heap.size + 1]? = some (sixO 0 false none 0 0 0 ⟨#[]⟩ none 0 0) ∧ Below w.heap.size w wr
theorem NewUp.begin (w : World) (S : Nat → Prop) (d : Nat) (kind : Int) (V : Obj) (wr : World) (h : wr = ((w.alloc V).alloc (sixO 0 false none 0 0 0 ⟨#[]⟩ none 0 0)).alloc (sixO kind false none 0 0 0 ⟨#[]⟩ none 0 0)) : NewUp w S d kind V [] wr := by
  subst h
  exact ⟨.slice none 0 0, [], heap3_2 _ _ _ _, OwnE.nil _ _ _ _, rfl, heap3_0 _ _ _ _, heap3_1 _ _ _ _, (((Below.refl _ _).alloc (Nat.le_refl _) _).alloc (by simp) _).alloc (by simp; omega) _⟩
theorem NewUp.drew {w wr : World} {S : Nat → Prop} {d : Nat} {kind : Int} {V : Obj} {ts : List Tr} (h : NewUp w S d kind V ts wr) : NewUp w S d kind V ts wr.drew := by
  obtain ⟨ks, es, h1, h2, h3, h4, h5, h6⟩ := h
  exact ⟨ks, es, h1, h2.turn (Nat.le_refl _) (fun _ _ _ => rfl), h3, h4, h5, h6.drew⟩

/-- what is at hand when values are appended to a new value's kids -/
structure PushAt (w : World) (S : Nat → Prop) (d : Nat) (kind : Int) (V : Obj) (ts : List Tr) (ns : List (Value × Tr)) (ks : Value) (es : List (Value × Tr)) (w6 : World) (g : Nat) : Prop where
  o : w6.heap[w.heap.size + 1 + 1]? = some (.cells #[.int .i64 kind, .bool false, .slice none 0 0, .int .u64 0, .string ⟨#[]⟩, ks] 32 (0, 0))
  own : OwnE (w.heap.size + 3) (fun b => S b ∨ w.heap.size + 3 ≤ b) w6 d ks es
  ts : es.map (·.2) = ts
  v : w6.heap[w.heap.size]? = some V
  r : w6.heap[w.heap.size + 1]? = some (sixO 0 false none 0 0 0 ⟨#[]⟩ none 0 0)
  b : Below w.heap.size w w6
  l : es.length ≤ 900
  n : ns.length ≤ 100
  g : w6.heap[g]? = some (.cells (ns.flatMap fun e => six e.1).toArray 32 (0, 0))
  one : ∀ u ∈ ns.flatMap (fun e => six e.1), u.oneCell' = true
  ent : ∀ e ∈ ns, EntAt (fun b => S b ∨ w.heap.size + 3 ≤ b) w6 d ks e
  s : ∀ b, S b → b < w.heap.size
theorem PushAt.run {w : World} {S : Nat → Prop} {d : Nat} {kind : Int} {V : Obj} {ts : List Tr} {ns : List (Value × Tr)} {ks : Value} {es : List (Value × Tr)} {w6 : World} {g c m : Nat} (ty : TypeId) (h : PushAt w S d kind V ts ns ks es w6 g) (hm : ns.length = m) :
    ∃ a' n' c' w7, (Builtin.append_ #[30, 30] ty #[ks, .slice (some ⟨g, 0, none⟩) m c]).run Tryz.prog w6 = .ok (.slice a' n' c') w7 ∧ w7.cell? ⟨w.heap.size + 1 + 1, 5, none⟩ = some ks ∧ (∀ i, w7.frozen? ⟨w.heap.size + 1 + 1, i, none⟩ = false) ∧
      NewUp w S d kind V (ts ++ ns.map (·.2)) (w7.setCell ⟨w.heap.size + 1 + 1, 5, none⟩ (.slice a' n' c')) := by
  obtain ⟨v', w7, hr, h2, h3⟩ := run_append_kids (c := c) ty h.own (by have := h.l; omega) (by have := (Array.getElem?_eq_some_iff.1 h.o).1; omega) g ns (by have := h.n; omega) (fun j u hj => by
    rw [cell_of_row w6 g j _ _ (0, 0) h.g]; simpa using hj) h.one h.ent
  rw [hm] at hr
  obtain ⟨a', c', rfl⟩ := h2.shape
  have hne : ∀ b, b < w.heap.size + 3 → some b ≠ ks.ownBlock := fun b hb e => by have := (h.own.lt b e.symm).1; omega
  have hO := (Array.getElem?_eq_some_iff.1 h.o).1
  have ho := (h3.block _ hO (hne _ (by omega))).trans h.o
  have hlt := (Array.getElem?_eq_some_iff.1 ho).1
  have hc : Chg (w.heap.size + 1 + 1) w7 (w7.setCell ⟨w.heap.size + 1 + 1, 5, none⟩ (.slice a' (es ++ ns).length c')) := (Chg.refl _ _).set 5 _
  refine ⟨a', _, c', w7, hr, (cell_of_row _ _ 5 _ _ (0, 0) ho).trans rfl, six_frozen ho, _, es ++ ns, (set1 (i := 5) (x := .slice a' (es ++ ns).length c') ho).trans rfl, h2.chg hc (by omega) (fun e => by rcases e with e | e; have := h.s _ e; omega; omega), by rw [List.map_append, h.ts], ?_, ?_, ?_⟩
  · exact (hc.block _ (by omega) (by omega)).trans ((h3.block _ (by omega) (hne _ (by omega))).trans h.v)
  · exact (hc.block _ (by omega) (by omega)).trans ((h3.block _ (by omega) (hne _ (by omega))).trans h.r)
  · refine Chg.below (b := w7) ?_ ?_ hc (by omega)
    · exact h.b.trans ⟨h3.os, h3.tape, h3.output, h3.size, fun i hi => h3.block i (Nat.lt_of_lt_of_le hi h.b.size) (hne i (by omega))⟩
    · exact Nat.le_trans h.b.size h3.size
theorem step_push {w : World} {S : Nat → Prop} {d : Nat} {kind : Int} {V : Obj} {ts : List Tr} {ns : List (Value × Tr)} {ks : Value} {es : List (Value × Tr)} {w6 : World} {g c m : Nat} {o : Oper} {ops : Array Oper} {a : Act} {K : Act → World → Prop} {Q : Exit → Act → World → Prop} {E : Prop} (hgd : o.guard = none) (s x : Operand)
    (ho : o.op = .call { callee := .builtin .append, args := #[s, x], argTypes := #[30, 30] }) (hs : a.eval s = ks) (hx : a.eval x = .slice (some ⟨g, 0, none⟩) m c) (h : PushAt w S d kind V ts ns ks es w6 g) (hm : ns.length = m)
    (hK : ∀ a' n' c' w7, w7.cell? ⟨w.heap.size + 1 + 1, 5, none⟩ = some ks → (∀ i, w7.frozen? ⟨w.heap.size + 1 + 1, i, none⟩ = false) → Hid (NewUp w S d kind V (ts ++ ns.map (·.2)) (w7.setCell ⟨w.heap.size + 1 + 1, 5, none⟩ (.slice a' n' c'))) → K (a.put o.dst (.slice a' n' c')) w7) :
    if Region.wanted o (yielded ops a.tmps) = true then Oper.wp Tryz.prog o a w6 K Q else E := by
  obtain ⟨a', n', c', w7, hr, h1, h2, h3⟩ := h.run (c := c) o.type hm
  have hw : Region.wanted o (yielded ops a.tmps) = true := by simp [Region.wanted, hgd]
  rw [if_pos hw]
  unfold Oper.wp execOp
  simp only [ho, resolve, invoke, builtin, Sem.run_bind, Sem.run_pure, Result.andThen_ok, List.map_toArray, List.map_cons, List.map_nil, hs, hx, hr]
  exact hK a' n' c' w7 h1 h2 h3
theorem wpList_push {w : World} {S : Nat → Prop} {d : Nat} {kind : Int} {V : Obj} {ts : List Tr} {ns : List (Value × Tr)} {ks : Value} {es : List (Value × Tr)} {w6 : World} {g c m : Nat} {o : Oper} {ops : Array Oper} {rest : List Oper} {a : Act} {Q : Exit → Act → World → Prop} (hgd : o.guard = none) (s x : Operand)
    (ho : o.op = .call { callee := .builtin .append, args := #[s, x], argTypes := #[30, 30] }) (hs : a.eval s = ks) (hx : a.eval x = .slice (some ⟨g, 0, none⟩) m c) (h : PushAt w S d kind V ts ns ks es w6 g) (hm : ns.length = m)
    (hK : ∀ a' n' c' w7, w7.cell? ⟨w.heap.size + 1 + 1, 5, none⟩ = some ks → (∀ i, w7.frozen? ⟨w.heap.size + 1 + 1, i, none⟩ = false) → Hid (NewUp w S d kind V (ts ++ ns.map (·.2)) (w7.setCell ⟨w.heap.size + 1 + 1, 5, none⟩ (.slice a' n' c'))) → wpList Tryz.prog ops Q rest (a.put o.dst (.slice a' n' c')) w7) :
    wpList Tryz.prog ops Q (o :: rest) a w6 := by
  obtain ⟨a', n', c', w7, hr, h1, h2, h3⟩ := h.run (c := c) o.type hm
  refine wpList_plain hgd fun K hK' => ?_
  unfold Oper.wp execOp
  simp only [ho, resolve, invoke, builtin, Sem.run_bind, Sem.run_pure, Result.andThen_ok, List.map_toArray, List.map_cons, List.map_nil, hs, hx, hr]
  exact hK' _ _ (hK a' n' c' w7 h1 h2 h3)

theorem entAt_of {w wr w5 w6 : World} {S : Nat → Prop} {d : Nat} {ks y : Value} {t : Tr} {es : List (Value × Tr)} (h6 : IsSix y) (hS : ∀ b, S b → b < w.heap.size) (hown : OwnE (w.heap.size + 3) (fun b => S b ∨ w.heap.size + 3 ≤ b) wr d ks es) (hwr : w.heap.size + 3 ≤ wr.heap.size) (hy : ValB w5 (fun b => S b ∨ wr.heap.size ≤ b) d y t) (hb : Below w5.heap.size w5 w6) :
    EntAt (fun b => S b ∨ w.heap.size + 3 ≤ b) w6 d ks (y, t) := by
  refine ⟨h6, _, (hy.there).below hb, fun b hb2 => ⟨Nat.lt_of_lt_of_le hb2.2 hb.size, ?_⟩, fun g hg hb2 => ?_⟩
  · rcases hb2.1 with h | h
    · exact .inl h
    · exact .inr (by omega)
  · have := hown.lt g hg
    rcases hb2.1 with h | h
    · have := hS g h; omega
    · omega

set_option maxRecDepth 100000 in
set_option maxHeartbeats 8000000 in
theorem Key_seq (w : World) (d : Nat) (S : Nat → Prop) (hS : ∀ b, S b → b < w.heap.size) (kk : Int) (hkk : 6 ≤ kk) (ks : Value) (l : List Tr) (hl : l.length ≤ 16) (hks : KidsB w S (ValB w S d) ks l)
    (hE : ∀ u T W, T ∈ l → ValB W S d u T → Below w.heap.size w W → Calls Tryz.prog 66 #[u] W fun e w' => ∃ y, e = .returned y ∧ ValB w' (fun b => S b ∨ W.heap.size ≤ b) d y (keyT d T) ∧ Below W.heap.size W w') :
    Calls Tryz.prog 66 #[valSix kk 0 ⟨#[]⟩ ks] w fun e w' => ∃ y, e = .returned y ∧ ValB w' (fun b => S b ∨ w.heap.size ≤ b) (d + 1) y (.tup (l.map (keyT d))) ∧ Below w.heap.size w w' := by
  have e6 : ¬ (kk < 6) := by omega
  have e6' : decide (kk < 6) = false := by simp; omega
  rcases hks.shape with ⟨rfl, a, c, rfl⟩ | ⟨h0, g, p, c, rfl⟩
  · obtain ⟨w3, hw3⟩ : ∃ w3, w3 = ((w.alloc (sixO kk false none 0 0 0 ⟨#[]⟩ a 0 c)).alloc (sixO 0 false none 0 0 0 ⟨#[]⟩ none 0 0)).alloc (sixO 7 false none 0 0 0 ⟨#[]⟩ none 0 0) := ⟨_, rfl⟩
    have hb3 : Below w.heap.size w w3 := by rw [hw3]; exact (((Below.refl _ _).alloc (Nat.le_refl _) _).alloc (by simp) _).alloc (by simp; omega) _
    have r0 : w3.heap[w.heap.size]? = some (sixO kk false none 0 0 0 ⟨#[]⟩ a 0 c) := by rw [hw3]; exact heap3_0 _ _ _ _
    have r1 : w3.heap[w.heap.size + 1]? = some (sixO 0 false none 0 0 0 ⟨#[]⟩ none 0 0) := by rw [hw3]; exact heap3_1 _ _ _ _
    have r2 : w3.heap[w.heap.size + 2]? = some (sixO 7 false none 0 0 0 ⟨#[]⟩ none 0 0) := by rw [hw3]; exact heap3_2 _ _ _ _
    have HW3 := Lib.hid hw3; have HB3 := Lib.hid hb3; have HR1 := Lib.hid r1
    obtain ⟨x0, x1, x2, x3, x4, x5⟩ := box6 r0 (Below.refl _ _)
    obtain ⟨y0, y1, y2, y3, y4, y5⟩ := box6 r2 (Below.refl _ _)
    obtain ⟨z0, z1, z2, z3, z4, z5⟩ := box6 r1 (Below.refl _ _)
    have fz : ∀ i, w3.frozen? ⟨w.heap.size + 1, i, none⟩ = false := six_frozen r1
    clear hw3 hb3 r0 r1 r2 hks hE
    go_enter Tryz.func66, Tryz.ntmps66
    go_wp2
    rw [← HW3.out]
    refine wp_loop_rounds 1 ?_
    rw [rounds_succ]
    go_wp2
    obtain ⟨e0, e1, e2, e3, e4, e5⟩ := box6 (put6_heap HR1.out) (Below.refl _ (put6 w3 (w.heap.size + 1) (.int .i64 7) (.bool false) (.slice none 0 0) (.int .u64 0) (.string ⟨#[]⟩) (.slice none 0 0)))
    unfold put6 at e0 e1 e2 e3 e4 e5
    exact bodyPost_ret (v := sixV 7 false none 0 0 0 ⟨#[]⟩ none 0 0) (by simp [results, Tryz.results66, go_sem, e0, e1, e2, e3, e4, e5]) rfl ⟨_, rfl, ⟨_, rfl, .inl ⟨rfl, _, _, rfl⟩⟩, Chg.below HB3.out HB3.out.size (put6_chg _ _ _ _ _ _ _ _) (by omega)⟩
  · have HKK := Lib.hid (fun i hi => hks.kid i hi)
    have HEE := Lib.hid hE
    have HSS := Lib.hid hS
    obtain ⟨n, hnn⟩ : ∃ n, n = l.length := ⟨_, rfl⟩
    have HNN := Lib.hid hnn
    rw [← hnn] at hl h0 ⊢
    obtain ⟨w3, hw3⟩ : ∃ w3, w3 = ((w.alloc (sixO kk false none 0 0 0 ⟨#[]⟩ (some ⟨g, p, none⟩) n c)).alloc (sixO 0 false none 0 0 0 ⟨#[]⟩ none 0 0)).alloc (sixO 7 false none 0 0 0 ⟨#[]⟩ none 0 0) := ⟨_, rfl⟩
    have HU3 := Lib.hid (NewUp.begin w S d 7 (sixO kk false none 0 0 0 ⟨#[]⟩ (some ⟨g, p, none⟩) n c) w3 hw3)
    have HW3 := Lib.hid hw3
    clear hnn hw3 hks hE hS
    go_enter Tryz.func66, Tryz.ntmps66
    go_wp2
    rw [← HW3.out]
    go_loopw [4] (fun i wr => ∃ k : Nat, k ≤ n ∧ i = .int .i64 k ∧ NewUp w S d 7 (sixO kk false none 0 0 0 ⟨#[]⟩ (some ⟨g, p, none⟩) n c) ((l.take k).map (keyT d)) wr) (fun i _ => n - (intOf i).toNat)
    case atStart => exact ⟨0, by omega, rfl, by simpa using HU3.out⟩
    case round =>
      obtain ⟨k, hk, rfl, hu⟩ := hrel
      have HU := Lib.hid hu
      clear HU3
      obtain ⟨ks, es, r2, hown, hes, r0, r1, hb⟩ := hu
      obtain ⟨x0, x1, x2, x3, x4, x5⟩ := box6 r0 (Below.refl _ _)
      by_cases he : k = n
      · subst he
        obtain ⟨ka, kc, rfl⟩ := hown.shape
        obtain ⟨y0, y1, y2, y3, y4, y5⟩ := box6 r2 (Below.refl _ _)
        obtain ⟨z0, z1, z2, z3, z4, z5⟩ := box6 r1 (Below.refl _ _)
        have fz : ∀ i, wr.frozen? ⟨w.heap.size + 1, i, none⟩ = false := six_frozen r1
        have HR1 := Lib.hid r1; have HB := Lib.hid hb; have HOWN := Lib.hid hown; have HES := Lib.hid hes
        clear r0 r1 r2 hb hown hes
        go_wp2
        obtain ⟨e0, e1, e2, e3, e4, e5⟩ := box6 (put6_heap HR1.out) (Below.refl _ (put6 wr (w.heap.size + 1) (.int .i64 7) (.bool false) (.slice none 0 0) (.int .u64 0) (.string ⟨#[]⟩) (.slice ka es.length kc)))
        unfold put6 at e0 e1 e2 e3 e4 e5
        have hkids := (HOWN.out.chg (put6_chg wr (w.heap.size + 1) (.int .i64 7) (.bool false) (.slice none 0 0) (.int .u64 0) (.string ⟨#[]⟩) (.slice ka es.length kc)) (by omega) (fun h => by rcases h with h | h; have := HSS.out _ h; omega; omega)).kids (T' := fun b => S b ∨ w.heap.size ≤ b) (fun b h => by rcases h with h | h; exact .inl h; exact .inr (by omega)) (fun b h => .inr (by omega))
        have hlist : es.map (·.2) = l.map (keyT d) := by rw [HES.out, HNN.out, List.take_length]
        rw [hlist] at hkids
        exact bodyPost_ret (v := sixV 7 false none 0 0 0 ⟨#[]⟩ ka es.length kc) (by simp [results, Tryz.results66, go_sem, e0, e1, e2, e3, e4, e5]) rfl ⟨_, rfl, ⟨_, rfl, hkids⟩, Chg.below HB.out HB.out.size (put6_chg _ _ _ _ _ _ _ _) (by omega)⟩
      · have hlt : (k : Int) < (n : Int) := by omega
        have hkl : k < l.length := by have := HNN.out; omega
        obtain ⟨hSg, hgl, k1, n1, a1, m1, c1, b1, s1, d1, o1, f1, hcl, hv⟩ := HKK.out k hkl
        obtain ⟨i0, i1, i2, i3, i4, i5⟩ := hcl.below hb hgl
        have HC := Lib.hid (HEE.out _ l[k] wr.drew (List.getElem_mem hkl) (hv.below hb.drew) hb.drew)
        obtain ⟨tk, htk⟩ : ∃ tk, tk = keyT d l[k] := ⟨_, rfl⟩
        rw [← htk] at HC
        have HTS := Lib.hid (show (l.take k).map (keyT d) ++ [tk] = (l.take (k + 1)).map (keyT d) by rw [List.take_succ_eq_append_getElem hkl, List.map_append, htk]; rfl)
        have hwr : w.heap.size + 3 ≤ wr.heap.size := by have := (Array.getElem?_eq_some_iff.1 r2).1; omega
        have hesl : es.length ≤ 900 := by have := congrArg List.length hes; simp at this; omega
        have HWR := Lib.hid hwr
        have HPU := Lib.hid (show ∀ (w5 : World) (y : Value) (h6 : IsSix y) (h1 : ∀ u ∈ six y, u.oneCell' = true), ValB w5 (fun b => S b ∨ wr.heap.size ≤ b) d y tk → Below wr.heap.size wr w5 → PushAt w S d 7 (sixO kk false none 0 0 0 ⟨#[]⟩ (some ⟨g, p, none⟩) n c) ((l.take k).map (keyT d)) [(y, tk)] ks es (w5.alloc (.cells (six y).toArray 32)) w5.heap.size from fun w5 y h6 h1 hy hb5 => by
          have hb6 : Below wr.heap.size wr (w5.alloc (.cells (six y).toArray 32)) := hb5.alloc hb5.size _
          exact ⟨(hb6.block _ (by omega)).trans r2, hown.below hb6, hes, (hb6.block _ (by omega)).trans r0, (hb6.block _ (by omega)).trans r1, hb.trans (hb6.mono hb.size), hesl, by simp, by simpa using heap_alloc_new w5 (.cells (six y).toArray 32), by simpa using h1, fun e he => by
            obtain rfl : e = (y, tk) := by simpa using he
            exact entAt_of h6 HSS.out hown hwr hy ((Below.refl _ _).alloc (Nat.le_refl _) _), HSS.out⟩)
        have HO := Lib.hid (show ∀ W, Below wr.heap.size wr W → W.cell? ⟨w.heap.size + 1 + 1, 5, none⟩ = some ks from fun W hb => (cell_of_row _ _ 5 _ _ (0, 0) ((hb.block _ (by omega)).trans r2)).trans rfl)
        have o5 := HO.out wr (Below.refl _ _)
        obtain ⟨ka, kc, hksh⟩ := hown.shape
        subst hksh
        clear r0 r1 r2 hown hes hb hv hcl hSg hgl htk hwr hesl
        go_wp2
        go_region_law (first | (go_simp; go_at_call 66; refine HC.out.mono ?_; rintro e w5 ⟨y, rfl, hy, hb5⟩; obtain ⟨y0, y1, y2, y3, y4, y5, y6, y7, y8, y9, hyy⟩ := hy.at_.shape; subst hyy; have HB5 := Lib.hid (below_undrew hb5); have q5 := HO.out w5 HB5.out; have q6 := fun X => HO.out (w5.alloc X) (HB5.out.alloc HB5.out.size X); have HP := Lib.hid (HPU.out w5 _ ⟨_, _, _, _, _, _, rfl⟩ (fun u hu => by simp [six] at hu; rcases hu with rfl | rfl | rfl | rfl | rfl | rfl <;> rfl) hy HB5.out); clear hb5 hy) | (refine step_push rfl (.tmp 26) (.tmp 33) rfl rfl rfl HP.out rfl ?_; intro a' n' c' w7 q7 q8 HN7))
        all_goals go_wp2
        all_goals go_round
        all_goals first
          | exact ⟨k + 1, by omega, by go_num, by rw [← HTS.out]; exact HN7.out⟩
          | (simp [intOf]; omega)

theorem ValB.flat {w : World} {S : Nat → Prop} {d : Nat} {v : Value} {T : Tr} (h : ValB w S (d + 1) v T) (hk : T.kind < 6) : ∃ n a m c b s, v = sixV T.kind n a m c b s none 0 0 ∧ s.size ≤ 60 := by
  cases T with
  | non => exact ⟨_, _, _, _, _, _, h, by decide⟩
  | bool b => exact ⟨_, _, _, _, _, _, h, by decide⟩
  | int n V =>
    obtain ⟨s, m, e, hm, _⟩ := h
    obtain ⟨a, c, rfl⟩ := hm.1.shape
    exact ⟨_, _, _, _, _, _, e, by decide⟩
  | flt B => exact ⟨_, _, _, _, _, _, h.1, by decide⟩
  | str s => exact ⟨_, _, _, _, _, _, h.1, h.2⟩
  | byt s => exact ⟨_, _, _, _, _, _, h.1, h.2⟩
  | lst l => simp [Tr.kind] at hk
  | tup l => simp [Tr.kind] at hk
  | dic l => simp [Tr.kind] at hk
  | set l => simp [Tr.kind] at hk
theorem keyT_flat (d : Nat) (T : Tr) (h : T.kind < 6) : keyT (d + 1) T = T := by
  cases T <;> first | rfl | (simp [Tr.kind] at h)

theorem Key_any : ∀ (d : Nat) (S : Nat → Prop) (v : Value) (T : Tr) (w : World), ValB w S d v T → CleanT d T →
    Calls Tryz.prog 66 #[v] w fun e w' => ∃ y, e = .returned y ∧ ValB w' (fun b => S b ∨ w.heap.size ≤ b) d y (keyT d T) ∧ Below w.heap.size w w'
  | 0, _, _, _, _, h, _ => h.elim
  | d + 1, S, v, T, w, h, hc => by
    by_cases hk : T.kind < 6
    · obtain ⟨n, a, m, c, b, s, rfl, hs⟩ := h.flat hk
      rw [keyT_flat d T hk]
      refine (Key_flat _ n a m c b s none 0 0 hk hs w).mono ?_
      rintro e w' ⟨rfl, hb⟩
      exact ⟨_, rfl, (h.below hb).sub (fun b h => .inl h), hb⟩
    · have hE : ∀ l, T.kids = l → ∀ (u : Value) (t : Tr) (W : World), t ∈ l → ValB W (fun b => S b ∧ b < w.heap.size) d u t → Below w.heap.size w W → Calls Tryz.prog 66 #[u] W fun e w' => ∃ y, e = .returned y ∧ ValB w' (fun b => (S b ∧ b < w.heap.size) ∨ W.heap.size ≤ b) d y (keyT d t) ∧ Below W.heap.size W w' :=
        fun l hl u t W ht hv _ => Key_any d _ u t W hv (hc.1 t (hl ▸ ht))
      have hfin : ∀ {w' : World} {y : Value} {t : Tr}, ValB w' (fun b => (S b ∧ b < w.heap.size) ∨ w.heap.size ≤ b) (d + 1) y t → ValB w' (fun b => S b ∨ w.heap.size ≤ b) (d + 1) y t := fun h => h.sub (fun b h => by rcases h with h | h; exact .inl h.1; exact .inr h)
      have h' := h.there
      cases T with
      | non => exact absurd (by decide) hk
      | bool b => exact absurd (by show (1 : Int) < 6; decide) hk
      | int n V => exact absurd (by show (2 : Int) < 6; decide) hk
      | flt B => exact absurd (by show (3 : Int) < 6; decide) hk
      | str s => exact absurd (by show (4 : Int) < 6; decide) hk
      | byt s => exact absurd (by show (5 : Int) < 6; decide) hk
      | lst l =>
        obtain ⟨ks, rfl, hks⟩ := h'
        refine (Key_seq w d _ (fun b h => h.2) 6 (by decide) ks l (Nat.le_trans hc.2 (by decide)) hks (hE l rfl)).mono ?_
        rintro e w' ⟨y, rfl, hy, hb⟩
        exact ⟨y, rfl, hfin hy, hb⟩
      | tup l =>
        obtain ⟨ks, rfl, hks⟩ := h'
        refine (Key_seq w d _ (fun b h => h.2) 7 (by decide) ks l hc.2 hks (hE l rfl)).mono ?_
        rintro e w' ⟨y, rfl, hy, hb⟩
        exact ⟨y, rfl, hfin hy, hb⟩
      | dic l =>
        obtain ⟨ks, rfl, hks⟩ := h'
        refine (Key_seq w d _ (fun b h => h.2) 8 (by decide) ks l hc.2.2.1 hks (hE l rfl)).mono ?_
        rintro e w' ⟨y, rfl, hy, hb⟩
        exact ⟨y, rfl, hfin hy, hb⟩
      | set l =>
        obtain ⟨ks, rfl, hks⟩ := h'
        refine (Key_seq w d _ (fun b h => h.2) 9 (by decide) ks l (Nat.le_trans hc.2.1 (by decide)) hks (hE l rfl)).mono ?_
        rintro e w' ⟨y, rfl, hy, hb⟩
        exact ⟨y, rfl, hfin hy, hb⟩
end Go.Proofs.YtpcleebnfgnhdaaGreatDoor

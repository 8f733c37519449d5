import Derived.Test.YtpcleebnfgnhdaaGreatDoorGz39
import Derived.Test.YtpcleebnfgnhdaaGreatDoorGz33
import Derived.Test.YtpcleebnfgnhdaaGreatDoorGz25
import Derived.Test.YtpcleebnfgnhdaaGreatDoorGz29
/- Plain: a graph's nodes as values of the package. -/
set_option linter.unusedVariables false
set_option linter.unusedSimpArgs false
namespace Go.Proofs.YtpcleebnfgnhdaaGreatDoor
open Go.RowKit
open Num

theorem hashG_level {N : List Nd} {n : Nat} (h : GraphOK N n) : ∀ (i d : Nat), i < d → hashG N d i = hashG N (i + 1) i := by
  intro i
  induction i using Nat.strongRecOn with
  | _ i ih =>
    intro d hd
    obtain ⟨e, rfl⟩ : ∃ e, d = e + 1 := ⟨d - 1, by omega⟩
    unfold hashG
    cases hx : N[i]? with
    | none => rfl
    | some x =>
      dsimp only
      have hk := (h i x hx).2.2
      cases hT : x.T with
      | tup l =>
        rw [hT] at hk
        dsimp only at hk ⊢
        rw [Bool.eq_iff_iff, List.all_eq_true, List.all_eq_true]
        constructor
        · intro H k hm
          have := H k hm
          rw [ih k (hk k hm) e (by have := hk k hm; omega)] at this
          rw [ih k (hk k hm) i (hk k hm)]
          exact this
        · intro H k hm
          have := H k hm
          rw [ih k (hk k hm) i (hk k hm)] at this
          rw [ih k (hk k hm) e (by have := hk k hm; omega)]
          exact this
      | _ => rfl

/-- v is the i-th node's value -/
def Good (N : List Nd) (i : Nat) (v : Value) (W : World) : Prop :=
  (∀ (d : Nat) (t : Tr), treeG N d i = some t → KeyT d t → StarAt W d v t) ∧ HashCan v W (hashG N (i + 1) i)

theorem treeG_of {N : List Nd} {i : Nat} {x : Nd} (hx : N[i]? = some x) {d : Nat} {t : Tr} (h : treeG N d i = some t) : ∃ e l, d = e + 1 ∧ allOf (x.ks.map (treeG N e)) = some l ∧ t = withKids x.T l := by
  cases d with
  | zero => cases h
  | succ e =>
    unfold treeG at h
    rw [hx] at h
    dsimp only at h
    obtain ⟨l, hl, rfl⟩ := Option.map_eq_some_iff.1 h
    exact ⟨e, l, rfl, hl, rfl⟩
theorem StarAt.flat_level {w : World} {d e : Nat} {v : Value} {T : Tr} (h : StarAt w (d + 1) v T) (hk : T.kind < 6) : StarAt w (e + 1) v T := by
  cases T <;> first | exact h | (exfalso; simp [Tr.kind] at hk; done)
theorem kid_slim {T : Tr} (hk : T.kind < 6) (d : Nat) : KeyT (d + 1) T ∧ Slim (d + 1) T := by
  cases T <;> first | exact ⟨trivial, by simp [Slim, Tr.kids]⟩ | (exfalso; simp [Tr.kind] at hk; done)
theorem hashG_flat {N : List Nd} {i : Nat} {x : Nd} (hx : N[i]? = some x) (hk : x.T.kind < 6) (d : Nat) : hashG N (d + 1) i = true := by
  unfold hashG
  rw [hx]
  dsimp only
  cases hT : x.T <;> rw [hT] at hk <;> first | rfl | (exfalso; simp [Tr.kind] at hk; done)
theorem hashG_box {N : List Nd} {i : Nat} {x : Nd} (hx : N[i]? = some x) (hk : 6 ≤ x.T.kind) (h7 : x.T.kind ≠ 7) (d : Nat) : hashG N (d + 1) i = false := by
  unfold hashG
  rw [hx]
  dsimp only
  cases hT : x.T <;> rw [hT] at hk h7 <;> first | rfl | (exfalso; simp [Tr.kind] at hk; done) | (exfalso; exact h7 rfl)
theorem withKids_flat {T : Tr} (hk : T.kind < 6) (l : List Tr) : withKids T l = T := by
  cases T <;> first | rfl | (exfalso; simp [Tr.kind] at hk; done)
theorem key_box {N : List Nd} {i : Nat} {x : Nd} (hx : N[i]? = some x) (hk : 6 ≤ x.T.kind) (h7 : x.T.kind ≠ 7) {d : Nat} {t : Tr} (h : treeG N d i = some t) : ¬ KeyT d t := by
  obtain ⟨e, l, rfl, hl, rfl⟩ := treeG_of hx h
  cases hT : x.T <;> rw [hT] at hk h7 <;> first | (intro h; exact h) | (exfalso; simp [Tr.kind] at hk; done) | (exfalso; exact h7 rfl)

theorem good_flat {N : List Nd} {i : Nat} {x : Nd} (hx : N[i]? = some x) (hk : x.T.kind < 6) {v : Value} {W : World} (h : StarAt W 1 v x.T) : Good N i v W := by
  refine ⟨fun d t ht _ => ?_, ?_⟩
  · obtain ⟨e, l, rfl, hl, rfl⟩ := treeG_of hx ht
    rw [withKids_flat hk]
    exact h.flat_level hk
  · rw [hashG_flat hx hk i]
    exact (Hash_any 1 v x.T W h (kid_slim hk 0).1 (kid_slim hk 0).2).can
theorem good_box {N : List Nd} {i : Nat} {x : Nd} (hx : N[i]? = some x) (hk : 6 ≤ x.T.kind) (h7 : x.T.kind ≠ 7) {v : Value} {W : World} (h : HashCan v W false) : Good N i v W := by
  refine ⟨fun d t ht hkt => (key_box hx hk h7 ht hkt).elim, ?_⟩
  rw [hashG_box hx hk h7 i]
  exact h
theorem tup_of {T : Tr} (h : T.kind = 7) : ∃ l, T = .tup l := by
  cases T <;> first | exact ⟨_, rfl⟩ | (simp [Tr.kind] at h; done)
theorem hash_tup_of (v : Value) (w : World) : (method 527 121 v "Hash").run Tryz.prog w = .ok (351, v) w := hash_of_tup v w

theorem good_tup {N : List Nd} {n i : Nat} {x : Nd} (hN : GraphOK N n) (hx : N[i]? = some x) (h7 : x.T.kind = 7) {W : World} {a : Option Addr} {c : Nat} (h8 : x.ks.length ≤ 8)
    (hs : x.ks.length = 0 ∨ ∃ g p, a = some ⟨g, p, none⟩ ∧ x.ks.length ≤ c ∧ c ≤ 9223372036854775807 ∧ g < W.heap.size ∧ ∀ q (hq : q < x.ks.length), ∃ u, W.cell? ⟨g, p + q, none⟩ = some u ∧ ∀ W2, Below W.heap.size W W2 → Good N x.ks[q] u W2) :
    Good N i (.iface 121 (.slice a x.ks.length c)) W := by
  obtain ⟨l0, hT⟩ := tup_of h7
  have hk := (hN i x hx).2.2
  rw [hT] at hk
  dsimp only at hk
  refine ⟨fun d t ht hkt => ?_, ?_⟩
  · obtain ⟨e, l, rfl, hl, rfl⟩ := treeG_of hx ht
    obtain ⟨hlen, hget⟩ := allOf_get hl
    rw [List.length_map] at hlen
    rw [hT] at hkt ⊢
    have hkt' : ∀ k ∈ l, KeyT e k := hkt
    refine ⟨.slice a x.ks.length c, rfl, ?_⟩
    rcases hs with h0 | ⟨g, p, rfl, hc, hc2, hg, hq⟩
    · exact .inl ⟨List.eq_nil_of_length_eq_zero (by omega), a, c, by rw [h0]⟩
    · by_cases h0 : x.ks.length = 0
      · exact .inl ⟨List.eq_nil_of_length_eq_zero (by omega), _, c, by rw [h0]⟩
      · refine .inr ⟨by omega, g, p, c, by rw [hlen], by omega, hc2, hg, fun q hql => ?_⟩
        obtain ⟨u, hu, hgood⟩ := hq q (by omega)
        have h1 := hget q hql (by rw [List.length_map]; omega)
        rw [List.getElem_map] at h1
        exact ⟨u, hu, (hgood W (Below.refl _ _)).1 e l[q] h1 (hkt' _ (List.getElem_mem hql))⟩
  · have hall : hashG N (i + 1) i = (List.range x.ks.length).all (fun q => hashG N (x.ks.getD q 0 + 1) (x.ks.getD q 0)) := by
      unfold hashG
      rw [hx]
      dsimp only
      rw [hT]
      dsimp only
      rw [Bool.eq_iff_iff, List.all_eq_true, List.all_eq_true]
      constructor
      · intro H q hq
        have hq' : q < x.ks.length := by simpa using hq
        have := H x.ks[q] (List.getElem_mem hq')
        rw [hashG_level hN _ i (hk _ (List.getElem_mem hq'))] at this
        rw [show x.ks.getD q 0 = x.ks[q] by simp [hq']]
        exact this
      · intro H k hm
        obtain ⟨q, hq', rfl⟩ := List.getElem_of_mem hm
        have := H q (by simpa using hq')
        rw [show x.ks.getD q 0 = x.ks[q] by simp [hq']] at this
        rw [hashG_level hN _ i (hk _ (List.getElem_mem hq'))]
        exact this
    rw [hall]
    refine ⟨_, _, _, rfl, fun W => hash_of_tup _ W, fun a W => enter_tup a W, ?_⟩
    refine TupHash_any a x.ks.length c (fun q => hashG N (x.ks.getD q 0 + 1) (x.ks.getD q 0)) W (by omega) ?_
    rcases hs with h0 | ⟨g, p, rfl, hc, hc2, hg, hq⟩
    · exact .inl h0
    · refine .inr ⟨g, p, rfl, hc, hc2, hg, fun q hql => ?_⟩
      obtain ⟨u, hu, hgood⟩ := hq q hql
      refine ⟨u, hu, fun W2 hb => ?_⟩
      rw [show x.ks.getD q 0 = x.ks[q] by simp [hql]]
      exact (hgood W2 hb).2

/-- the blocks of lists and dicts among these values -/
def Mut (es : List Value) (b : Nat) : Prop := ∃ v ∈ es, v = .iface 115 (.pointer (some ⟨b, 0, none⟩)) ∨ v = .iface 122 (.pointer (some ⟨b, 0, none⟩))
/-- the j-th node's value is good in every world that changes lists and dicts and a slice's own block alone -/
def NodeFact (N : List Nd) (base : Nat) (es : List Value) (own : Option Nat) (w : World) (j : Nat) (v : Value) : Prop :=
  ∀ W, w.heap.size ≤ W.heap.size → (∀ b, base ≤ b → b < w.heap.size → ¬ Mut es b → some b ≠ own → W.heap[b]? = w.heap[b]?) → Good N j v W
theorem NodeFact.grow {N : List Nd} {base : Nat} {es es' : List Value} {own own' : Option Nat} {w w' : World} {j : Nat} {v : Value} (h : NodeFact N base es own w j v) (hs : w.heap.size ≤ w'.heap.size)
    (hb : ∀ b, base ≤ b → b < w.heap.size → some b ≠ own → w'.heap[b]? = w.heap[b]?) (he : ∀ b, b < w.heap.size → Mut es' b → Mut es b) (ho : own' = own ∨ ∃ g, own' = some g ∧ w.heap.size ≤ g) : NodeFact N base es' own' w' j v := fun W h1 h2 =>
  h W (Nat.le_trans hs h1) (fun b hb1 hb2 hm hne => by
    refine (h2 b hb1 (Nat.lt_of_lt_of_le hb2 hs) (fun h => hm (he b hb2 h)) ?_).trans (hb b hb1 hb2 hne)
    rcases ho with rfl | ⟨g, rfl, hg⟩
    · exact hne
    · intro e; injection e with e; omega)
end Go.Proofs.YtpcleebnfgnhdaaGreatDoor

/- Walk: impl.scalar of a value that does not tell its own kind. -/
set_option linter.unusedVariables false
set_option linter.unusedSimpArgs false
namespace Go.Proofs.YtpcleebnfgnhdaaGreatDoor
open Go.RowKit
open Num

theorem scalarq_none (q : Int) (w : World) :
    Calls Tryz.prog 58 #[.int .i64 0, valSix q 0 ⟨#[]⟩ (.slice none 0 0)] w fun e w' => e = .returned (.tuple #[.iface 104 (.int .u8 0), .bool true]) ∧ Below w.heap.size w w' := by
  go_enter Tryz.func58, Tryz.ntmps58
  go_wp2
  go_ret2
  exact ⟨rfl, (Below.refl _ _).alloc (Nat.le_refl _) _⟩
theorem scalarq_bytes (q : Int) (text : ByteArray) (w : World) :
    Calls Tryz.prog 58 #[.int .i64 5, valSix q 0 text (.slice none 0 0)] w fun e w' => e = .returned (.tuple #[.iface 114 (.string text), .bool true]) ∧ Below w.heap.size w w' := by
  go_enter Tryz.func58, Tryz.ntmps58
  go_wp2
  go_ret2
  exact ⟨rfl, (Below.refl _ _).alloc (Nat.le_refl _) _⟩
theorem scalarq_string (q : Int) (text : ByteArray) (w : World) :
    Calls Tryz.prog 58 #[.int .i64 4, valSix q 0 text (.slice none 0 0)] w fun e w' => e = .returned (.tuple #[.iface 96 (.string text), .bool true]) ∧ Below w.heap.size w w' := by
  go_enter Tryz.func58, Tryz.ntmps58
  go_wp2
  go_ret2
  exact ⟨rfl, (Below.refl _ _).alloc (Nat.le_refl _) _⟩
theorem scalarq_int (q : Int) (neg : Bool) (s : Value) (n V : Nat) (w : World) (hm : MagAt w s n V) (hn : n ≤ 16777216) (hneg : neg = true → 0 < V) :
    Calls Tryz.prog 58 #[.int .i64 2, .agg #[.int .i64 q, .bool neg, s, .int .u64 0, .string ⟨#[]⟩, .slice none 0 0]] w fun e w' => ∃ v, e = .returned (.tuple #[.iface 110 v, .bool true]) ∧ IntIs w' w.heap.size v neg V ∧ Below w.heap.size w w' := by
  obtain ⟨sa, sc, rfl⟩ := hm.shape
  have hb0 : Below w.heap.size w (w.alloc (.cells #[.int .i64 q, .bool neg, .slice sa n sc, .int .u64 0, .string ⟨#[]⟩, .slice none 0 0] 32)) := (Below.refl _ _).alloc (Nat.le_refl _) _
  have HW := Lib.hid (whole_any q neg (.slice sa n sc) 0 ⟨#[]⟩ (.slice none 0 0) n V _ (hm.below hb0) hn hneg rfl rfl)
  have HB := Lib.hid hb0
  clear hm hb0
  go_enter Tryz.func58, Tryz.ntmps58
  go_wp2_with fail
  refine HW.out.mono ?_
  rintro e w' ⟨v, rfl, hI, hb⟩
  go_wp2
  go_ret2
  exact ⟨_, rfl, hI.base_le (by simp), HB.out.trans (hb.mono (by simp))⟩
set_option maxRecDepth 100000 in
theorem scalarq_float (q : Int) (bits : Nat) (hb : bits < 18446744073709551616) (w : World) :
    Calls Tryz.prog 58 #[.int .i64 3, valSix q bits ⟨#[]⟩ (.slice none 0 0)] w fun e w' => e = .returned (.tuple #[.iface 112 (.float .f64 bits), .bool true]) ∧ Below w.heap.size w w' := by
  have HF := Lib.hid (fun W : World => show Calls Tryz.prog 82 #[.int .u64 bits] W fun e w' => e = .returned (.float .f64 bits) ∧ w' = W from by
    go_enter Tryz.func82, Tryz.ntmps82
    have hfb := run_frombits (bits : Int)
    go_wp2
    go_ret
    exact ⟨rfl, rfl⟩)
  go_enter Tryz.func58, Tryz.ntmps58
  go_wp2_with fail
  refine (HF.out _).mono ?_
  rintro e w' ⟨rfl, rfl⟩
  go_wp2
  go_ret2
  exact ⟨rfl, (Below.refl _ _).alloc (Nat.le_refl _) _⟩
theorem scalarq_bool (q : Int) (bits : Nat) (hb : bits ≤ 1) (w : World) :
    Calls Tryz.prog 58 #[.int .i64 1, valSix q bits ⟨#[]⟩ (.slice none 0 0)] w fun e w' => e = .returned (.tuple #[.iface 105 (.bool (bits == 1)), .bool true]) ∧ Below w.heap.size w w' := by
  have h1 : ((bits : Int) == 1) = (bits == 1) := by
    have : bits = 0 ∨ bits = 1 := by omega
    rcases this with rfl | rfl <;> rfl
  have h2 : (bits : Int) ≤ 1 := by omega
  go_enter Tryz.func58, Tryz.ntmps58
  go_wp2_with fail
  go_quiet (fail)
  go_wp2
  go_ret2
  exact ⟨rfl, below_drewN ((Below.refl _ _).alloc (Nat.le_refl _) _)⟩

theorem sixV_inj {k : Int} {n : Bool} {a : Option Addr} {m c : Nat} {b : Int} {s : ByteArray} {a2 : Option Addr} {m2 c2 : Nat} {c0 c1 c2' c3 c4 c5 : Value} (e : sixV k n a m c b s a2 m2 c2 = .agg #[c0, c1, c2', c3, c4, c5]) :
    c0 = .int .i64 k ∧ c1 = .bool n ∧ c2' = .slice a m c ∧ c3 = .int .u64 b ∧ c4 = .string s ∧ c5 = .slice a2 m2 c2 := by
  injection e with e
  injection e with e
  injection e with q0 e; injection e with q1 e; injection e with q2 e; injection e with q3 e; injection e with q4 e; injection e with q5 e
  exact ⟨q0.symm, q1.symm, q2.symm, q3.symm, q4.symm, q5.symm⟩
/-- a flat value, made of its parts -/
theorem scalar_flat (q : Int) (n a m c b s) (T : Tr) (w : World) (hk : T.kind < 6) (h : ValAt w 1 (sixV T.kind n a m c b s none 0 0) T) :
    Calls Tryz.prog 58 #[.int .i64 T.kind, sixV q n a m c b s none 0 0] w (ValIs 1 T w) := by
  cases T with
  | non =>
    obtain ⟨-, q1, q2, q3, q4, -⟩ := sixV_inj h
    rw [sixV, ← q1, ← q2, ← q3, ← q4]
    exact (scalarq_none q w).mono (by rintro e w' ⟨rfl, hb⟩; exact ⟨_, rfl, fun W _ _ => rfl, hb⟩)
  | bool B =>
    obtain ⟨-, q1, q2, q3, q4, -⟩ := sixV_inj h
    rw [sixV, ← q1, ← q2, ← q3, ← q4]
    cases B
    · exact (scalarq_bool q 0 (by omega) w).mono (by rintro e w' ⟨rfl, hb⟩; exact ⟨_, rfl, fun W _ _ => rfl, hb⟩)
    · exact (scalarq_bool q 1 (by omega) w).mono (by rintro e w' ⟨rfl, hb⟩; exact ⟨_, rfl, fun W _ _ => rfl, hb⟩)
  | int n' V =>
    obtain ⟨s', m', h, hm, h1, h2⟩ := h
    obtain ⟨-, q1, q2, q3, q4, -⟩ := sixV_inj h
    injection q1 with q1
    subst q1
    rw [sixV, ← q2, ← q3, ← q4]
    refine (scalarq_int q n' s' m' V w hm (by omega) h2).mono ?_
    rintro e w' ⟨v, rfl, hI, hb⟩
    exact ⟨_, rfl, hI.newIn.imp (fun W h => ⟨v, rfl, h, h2, fun k hk => nw_40 hm.1 h1 hk⟩), hb⟩
  | flt B =>
    obtain ⟨h, hB⟩ := h
    obtain ⟨-, q1, q2, q3, q4, -⟩ := sixV_inj h
    rw [sixV, ← q1, ← q2, ← q3, ← q4]
    exact (scalarq_float q B hB w).mono (by rintro e w' ⟨rfl, hb⟩; exact ⟨_, rfl, fun W _ _ => ⟨rfl, hB⟩, hb⟩)
  | str x =>
    obtain ⟨h, hs⟩ := h
    obtain ⟨-, q1, q2, q3, q4, -⟩ := sixV_inj h
    rw [sixV, ← q1, ← q2, ← q3, ← q4]
    exact (scalarq_string q x w).mono (by rintro e w' ⟨rfl, hb⟩; exact ⟨_, rfl, fun W _ _ => ⟨rfl, hs⟩, hb⟩)
  | byt x =>
    obtain ⟨h, hs⟩ := h
    obtain ⟨-, q1, q2, q3, q4, -⟩ := sixV_inj h
    rw [sixV, ← q1, ← q2, ← q3, ← q4]
    exact (scalarq_bytes q x w).mono (by rintro e w' ⟨rfl, hb⟩; exact ⟨_, rfl, fun W _ _ => ⟨rfl, hs⟩, hb⟩)
  | lst l => exfalso; simp [Tr.kind] at hk
  | tup l => exfalso; simp [Tr.kind] at hk
  | dic l => exfalso; simp [Tr.kind] at hk
  | set l => exfalso; simp [Tr.kind] at hk
end Go.Proofs.YtpcleebnfgnhdaaGreatDoor

/- For the walks of impl.node, impl.graph: a slice of values; what node makes. -/
set_option linter.unusedVariables false
set_option linter.unusedSimpArgs false
namespace Go.Proofs.YtpcleebnfgnhdaaGreatDoor
open Go.RowKit
open Num

/-- append of one cell to a slice of the call's own, as a step; where the slice then lies -/
theorem wpList_append_cell_at {w : World} {ops : Array Oper} {rest : List Oper} {o : Oper} {a : Act} {Q : Exit → Act → World → Prop} (hgd : o.guard = none) (s x : Operand) (t : TypeId)
    (ho : o.op = .call { callee := .builtin .append, args := #[s, x], argTypes := #[t, t] }) (base : Nat) (e : TypeId) (z : Value) (bytes : Nat) (ht : Tryz.prog.underlying t = some (.slice e)) (hi : (Tryz.prog.info? e).map (fun i => (i.zero, i.size, i.bytes)) = some (some z, 1, bytes)) (hzs : z.cells.size = 1) (hby : bytes ≤ 16)
    (v : Value) (n : Nat) (xs : List Value) (hs : a.eval s = v) (hown : w.ownsRow base e 1 v n xs) (hn : n ≤ 1000) (hbase : base ≤ w.heap.size)
    (g c : Nat) (hx : a.eval x = .slice (some ⟨g, 0, none⟩) 1 c) (x0 : Value) (hc : w.cell? ⟨g, 0, none⟩ = some x0) (h1 : x0.oneCell' = true)
    (h : ∀ v' w', Hid (w'.ownsRow base e 1 v' (n + 1) (xs ++ [x0])) → Hid (w.grownBy w' v.ownBlock) → Hid (v'.ownBlock = v.ownBlock ∨ v'.ownBlock = some w.heap.size) → wpList Tryz.prog ops Q rest (a.put o.dst v') w') :
    wpList Tryz.prog ops Q (o :: rest) a w := by
  obtain ⟨i, hi1, hzz⟩ := Option.map_eq_some_iff.1 hi
  simp only [Prod.mk.injEq] at hzz
  obtain ⟨hz0, hz1, hz2⟩ := hzz
  exact wpList_append_own_at w hgd s x t ho base e i z 1 bytes ht hi1 hz0 hz1 hz2 hzs (by decide) v n xs hs hown ⟨g, 0, none⟩ 1 c [x0] hx rfl (fun j u hj => by
    match j, hj with
    | 0, hj => obtain rfl : x0 = u := by simpa using hj
               rw [add_at]; exact hc
    | j + 1, hj => simp at hj) (by simpa using h1) (by simp only [maxLen]; omega) (by
      have : (n + 1) * bytes ≤ 1001 * 16 := Nat.mul_le_mul (by omega) hby
      omega) hbase (fun v' w' h2 h3 _ h5 => h v' w' (Lib.hid h2) (Lib.hid h3) (Lib.hid h5))

/-- a slice of values that can be read -/
def RowV (w : World) (v : Value) (es : List Value) : Prop :=
  (es = [] ∧ ∃ a c, v = .slice a 0 c) ∨
  (0 < es.length ∧ ∃ g p c, v = .slice (some ⟨g, p, none⟩) es.length c ∧ es.length ≤ c ∧ c ≤ 9223372036854775807 ∧ g < w.heap.size ∧ ∀ q (h : q < es.length), w.cell? ⟨g, p + q, none⟩ = some es[q])
theorem RowV.below {w w' : World} {v : Value} {es : List Value} (h : RowV w v es) (hb : Below w.heap.size w w') : RowV w' v es := by
  rcases h with h | ⟨h0, g, p, c, e, hc, hc2, hg, hk⟩
  · exact .inl h
  · exact .inr ⟨h0, g, p, c, e, hc, hc2, Nat.lt_of_lt_of_le hg hb.size, fun q hq => (hb.cell (p := ⟨g, p + q, none⟩) hg).trans (hk q hq)⟩
theorem RowV.shape {w : World} {v : Value} {es : List Value} (h : RowV w v es) : ∃ a c, v = .slice a es.length c := by
  rcases h with ⟨rfl, a, c, rfl⟩ | ⟨_, g, p, c, rfl, _⟩
  · exact ⟨a, c, rfl⟩
  · exact ⟨_, c, rfl⟩
theorem RowV.get {w : World} {a : Option Addr} {n c : Nat} {es : List Value} (h : RowV w (.slice a n c) es) (q : Nat) (hq : q < es.length) : ∃ g p, a = some ⟨g, p, none⟩ ∧ n = es.length ∧ n ≤ c ∧ c ≤ 9223372036854775807 ∧ g < w.heap.size ∧ w.cell? ⟨g, p + q, none⟩ = some es[q] := by
  rcases h with ⟨rfl, _⟩ | ⟨h0, g, p, c', e, hc, hc2, hg, hk⟩
  · simp at hq
  · injection e with e1 e2 e3
    exact ⟨g, p, e1, e2, by omega, by omega, hg, hk q hq⟩
theorem rowV_of {w : World} {base : Nat} {t : TypeId} {v : Value} {es : List Value} {n : Nat} (h : w.ownsRow base t 1 v n es) : RowV w v es := by
  obtain ⟨h1, h2⟩ := h
  rcases h2 with ⟨rfl, h0⟩ | ⟨g, cap, cur, rfl, hbg, hg, hn, hcm, hcs, htk⟩
  · exact .inl ⟨List.eq_nil_of_length_eq_zero (by omega), _, _, by rfl⟩
  · by_cases h0 : n = 0
    · exact .inl ⟨List.eq_nil_of_length_eq_zero (by omega), _, _, by rw [h0]⟩
    · have hl : es.length = n := by omega
      refine .inr ⟨by omega, g, 0, cap, by rw [hl], by omega, by simpa [maxLen] using hcm, (Array.getElem?_eq_some_iff.1 hg).1, fun q hq => ?_⟩
      rw [Nat.zero_add, cell_of_row w g q cur _ (0, 0) hg]
      have h3 : (cur.toList.take (n * 1))[q]? = es[q]? := by rw [htk]
      rw [List.getElem?_take, if_pos (by omega)] at h3
      have h4 : cur[q]? = es[q]? := by simpa using h3
      rw [h4]
      simp [hq]

theorem evens_get : ∀ (l : List Nat) (j : Nat) (h : j < l.length), l.length % 2 = 0 → j % 2 = 0 → ∃ h2 : j / 2 < (evens l).length, (evens l)[j / 2] = l[j]
  | [], j, h, _, _ => by simp at h
  | [x], j, h, h2, _ => by simp at h2
  | x :: y :: l, 0, h, h2, _ => ⟨by simp [evens], by simp [evens]⟩
  | x :: y :: l, 1, h, h2, h3 => by omega
  | x :: y :: l, j + 2, h, h2, h3 => by
    obtain ⟨a, b⟩ := evens_get l j (by simpa using h) (by simp at h2; omega) (by omega)
    have e : (j + 2) / 2 = j / 2 + 1 := by omega
    refine ⟨by simp only [evens, List.length_cons, e]; omega, ?_⟩
    simp only [evens, e, List.getElem_cons_succ]
    exact b
/-- the kids that must be ahead -/
theorem NodeOK.key {N : List Nd} {n i : Nat} {x : Nd} (h : NodeOK N n i x) {j : Nat} (hj : j < x.ks.length) (h6 : x.T.kind ≠ 6) (h8 : x.T.kind ≠ 8 ∨ j % 2 = 0) : x.ks[j] < i := by
  obtain ⟨_, _, h⟩ := h
  cases hT : x.T <;> rw [hT] at h h6 h8
  case lst l => exact absurd rfl h6
  case tup l => exact h _ (List.getElem_mem hj)
  case dic l =>
    rcases h8 with h8 | h8
    · exact absurd rfl h8
    · obtain ⟨he, ts, hk⟩ := h
      obtain ⟨h1, h2⟩ := evens_get x.ks j hj he h8
      have h3 := hk.len
      rw [← h2]
      exact (hk.key (j / 2) h1 (by omega)).1
  case set l =>
    obtain ⟨ts, hk⟩ := h
    have h3 := hk.len
    exact (hk.key j hj (by omega)).1
  all_goals (
    have h0 : x.ks = [] := h
    rw [h0] at hj
    simp at hj)

/-- an empty list of the package, an empty dict -/
def NewLst (w : World) (b : Nat) (v : Value) : Prop := v = .iface 115 (.pointer (some ⟨b, 0, none⟩)) ∧ w.heap[b]? = some (.cells #[.slice none 0 0, .bool false, .int .u32 0] 162 (0, 0))
def NewDic (w : World) (b : Nat) (v : Value) : Prop := v = .iface 122 (.pointer (some ⟨b, 0, none⟩)) ∧ w.heap[b]? = some (.cells htZero 143 (0, 0))
/-- it is no list, no dict -/
def NoLD (t : TypeId) (u : Value) : Prop := t ≠ 115 ∧ t ≠ 122 ∧
  (∀ W : World, (Instr.typeAssert (.iface t u) 59 115 true).run Tryz.prog W = .ok (.tuple #[.pointer none, .bool false]) W) ∧
  (∀ W : World, (Instr.typeAssert (.iface t u) 59 122 true).run Tryz.prog W = .ok (.tuple #[.pointer none, .bool false]) W)
theorem noLD_none (u : Value) : NoLD 104 u := ⟨by decide, by decide, fun W => by kernel_rfl, fun W => by kernel_rfl⟩
theorem noLD_bool (u : Value) : NoLD 105 u := ⟨by decide, by decide, fun W => by kernel_rfl, fun W => by kernel_rfl⟩
theorem noLD_int (u : Value) : NoLD 110 u := ⟨by decide, by decide, fun W => by kernel_rfl, fun W => by kernel_rfl⟩
theorem noLD_flt (u : Value) : NoLD 112 u := ⟨by decide, by decide, fun W => by kernel_rfl, fun W => by kernel_rfl⟩
theorem noLD_str (u : Value) : NoLD 96 u := ⟨by decide, by decide, fun W => by kernel_rfl, fun W => by kernel_rfl⟩
theorem noLD_byt (u : Value) : NoLD 114 u := ⟨by decide, by decide, fun W => by kernel_rfl, fun W => by kernel_rfl⟩
theorem noLD_tup (u : Value) : NoLD 121 u := ⟨by decide, by decide, fun W => by kernel_rfl, fun W => by kernel_rfl⟩
theorem noLD_set (u : Value) : NoLD 124 u := ⟨by decide, by decide, fun W => by kernel_rfl, fun W => by kernel_rfl⟩
theorem StarAt.noLD {w : World} {v : Value} {T : Tr} (h : StarAt w 1 v T) (hk : T.kind < 6) : ∃ t u, v = .iface t u ∧ NoLD t u := by
  cases T with
  | non => exact ⟨_, _, h, noLD_none _⟩
  | bool b => exact ⟨_, _, h, noLD_bool _⟩
  | int n V => obtain ⟨u, e, _⟩ := h; exact ⟨_, _, e, noLD_int _⟩
  | flt B => exact ⟨_, _, h.1, noLD_flt _⟩
  | str s => exact ⟨_, _, h.1, noLD_str _⟩
  | byt s => exact ⟨_, _, h.1, noLD_byt _⟩
  | lst l => exfalso; simp [Tr.kind] at hk
  | tup l => exfalso; simp [Tr.kind] at hk
  | dic l => exfalso; simp [Tr.kind] at hk
  | set l => exfalso; simp [Tr.kind] at hk
/-- what node makes of the i-th node -/
def NodeMade (N : List Nd) (i : Nat) (es : List Value) (w : World) (e : Ending) (w' : World) : Prop :=
  ∃ t u, e = .returned (.tuple #[.iface t u, .bool true]) ∧ Below w.heap.size w w' ∧
    ((∃ b, w.heap.size ≤ b ∧ NewLst w' b (.iface t u) ∧ ∀ x, N[i]? = some x → x.T.kind = 6) ∨ (∃ b, w.heap.size ≤ b ∧ NewDic w' b (.iface t u) ∧ ∀ x, N[i]? = some x → x.T.kind = 8) ∨
     (NoLD t u ∧ (∀ x, N[i]? = some x → x.T.kind ≠ 6 ∧ x.T.kind ≠ 8) ∧ ∀ W, w'.heap.size ≤ W.heap.size → (∀ b, w.heap.size ≤ b → b < w'.heap.size → W.heap[b]? = w'.heap[b]?) → (∀ k (h : k < es.length), ∀ W2, Below W.heap.size W W2 → Good N k es[k] W2) → Good N i (.iface t u) W))
end Go.Proofs.YtpcleebnfgnhdaaGreatDoor

import Derived.Test.YtpcleebnfgnhdaaGreatDoorGz30
import Derived.Test.YtpcleebnfgnhdaaGreatDoorGz32
import Derived.Test.YtpcleebnfgnhdaaGreatDoorGz25
/- Walks: a list's Append; impl.hashed. -/
set_option linter.unusedVariables false
set_option linter.unusedSimpArgs false
namespace Go.Proofs.YtpcleebnfgnhdaaGreatDoor
open Go.RowKit
open Num

/-- append of one cell to a slice of the call's own, as a step -/
theorem wpList_append_cell {w : World} {ops : Array Oper} {rest : List Oper} {o : Oper} {a : Act} {Q : Exit → Act → World → Prop} (hgd : o.guard = none) (s x : Operand) (t : TypeId)
    (ho : o.op = .call { callee := .builtin .append, args := #[s, x], argTypes := #[t, t] }) (base : Nat) (e : TypeId) (z : Value) (bytes : Nat) (ht : Tryz.prog.underlying t = some (.slice e)) (hi : (Tryz.prog.info? e).map (fun i => (i.zero, i.size, i.bytes)) = some (some z, 1, bytes)) (hzs : z.cells.size = 1) (hby : bytes ≤ 16)
    (v : Value) (n : Nat) (xs : List Value) (hs : a.eval s = v) (hown : w.ownsRow base e 1 v n xs) (hn : n ≤ 1000) (hbase : base ≤ w.heap.size)
    (g c : Nat) (hx : a.eval x = .slice (some ⟨g, 0, none⟩) 1 c) (x0 : Value) (hc : w.cell? ⟨g, 0, none⟩ = some x0) (h1 : x0.oneCell' = true)
    (h : ∀ v' w', Hid (w'.ownsRow base e 1 v' (n + 1) (xs ++ [x0])) → Hid (w.grownBy w' v.ownBlock) → (∃ a' c', v' = .slice a' (n + 1) c') → wpList Tryz.prog ops Q rest (a.put o.dst v') w') :
    wpList Tryz.prog ops Q (o :: rest) a w := by
  obtain ⟨i, hi1, hzz⟩ := Option.map_eq_some_iff.1 hi
  simp only [Prod.mk.injEq] at hzz
  obtain ⟨hz0, hz1, hz2⟩ := hzz
  refine wpList_append_own_at w hgd s x t ho base e i z 1 bytes ht hi1 hz0 hz1 hz2 hzs (by decide) v n xs hs hown ⟨g, 0, none⟩ 1 c [x0] hx rfl (fun j u hj => by
    match j, hj with
    | 0, hj => obtain rfl : x0 = u := by simpa using hj
               rw [add_at]; exact hc
    | j + 1, hj => simp at hj) (by simpa using h1) (by simp only [maxLen]; omega) (by
      have : (n + 1) * bytes ≤ 1001 * 16 := Nat.mul_le_mul (by omega) hby
      omega) hbase (fun v' w' h2 h3 _ _ => ?_)
  refine h v' w' (Lib.hid h2) (Lib.hid h3) ?_
  rcases h2.2 with ⟨_, h0⟩ | ⟨g', cap, cur, rfl, _⟩
  · omega
  · exact ⟨_, cap, rfl⟩

/-- a list of the package whose elements lie in a slice of the call's own -/
def LstAt (w : World) (base b : Nat) (n : Nat) : Prop := ∃ ks xs, w.heap[b]? = some (.cells #[ks, .bool false, .int .u32 0] 162 (0, 0)) ∧ w.ownsRow base 59 1 ks n xs ∧ (∃ a c, ks = .slice a n c)

theorem ListMut_any (b : Nat) (ks : Value) (s : ByteArray) (w : World) (h : w.heap[b]? = some (.cells #[ks, .bool false, .int .u32 0] 162 (0, 0))) :
    Calls Tryz.prog 83 #[.pointer (some ⟨b, 0, none⟩), .string s] w fun e w' => e = .returned .nilIface ∧ w' = w := by
  have c1 : w.cell? ⟨b, 1, none⟩ = some (.bool false) := (cell_of_row _ _ 1 _ _ (0, 0) h).trans rfl
  have c2 : w.cell? ⟨b, 2, none⟩ = some (.int .u32 0) := (cell_of_row _ _ 2 _ _ (0, 0) h).trans rfl
  clear h
  go_enter Tryz.func83, Tryz.ntmps83
  go_wp2
  go_ret
  exact ⟨rfl, rfl⟩

theorem own_chg {w w' : World} {base b : Nat} {e : TypeId} {size : Nat} {v : Value} {n : Nat} {xs : List Value} (h : w.ownsRow base e size v n xs) (hc : Chg b w w') (hb : b < base) : w'.ownsRow base e size v n xs := by
  refine ⟨h.1, ?_⟩
  rcases h.2 with h2 | ⟨g, cap, cur, e, hbg, hg, rest⟩
  · exact .inl h2
  · exact .inr ⟨g, cap, cur, e, hbg, (hc.block g (Array.getElem?_eq_some_iff.1 hg).1 (by omega)).trans hg, rest⟩
theorem lap_at {base b n sc : Nat} {sa : Option Addr} {xs : List Value} {w2 w3 : World} {O : Obj} (hown : w2.ownsRow base 59 1 (.slice sa n sc) n xs) (hr : w2.heap[b]? = some (.cells #[.slice sa n sc, .bool false, .int .u32 0] 162 (0, 0))) (hl : b < w2.heap.size) (hg : (w2.alloc O).grownBy w3 (Value.slice sa n sc).ownBlock) (hb : b < base) :
    w3.cell? ⟨b, 0, none⟩ = some (.slice sa n sc) ∧ (∀ i, w3.frozen? ⟨b, i, none⟩ = false) ∧ Hid (w3.heap[b]? = some (.cells #[.slice sa n sc, .bool false, .int .u32 0] 162 (0, 0))) := by
  have hne : some b ≠ (Value.slice sa n sc).ownBlock := fun e => by
    rcases hown.2 with ⟨h1, _⟩ | ⟨g, cap, cur, h1, hbg, _⟩
    · rw [h1] at e; cases e
    · rw [h1] at e
      have : b = g := Option.some.inj e
      omega
  have hR3 := (hg.block b (by simp; omega) hne).trans ((Below.heap_alloc w2 _ b hl).trans hr)
  exact ⟨(cell_of_row _ _ 0 _ _ (0, 0) hR3).trans rfl, six_frozen hR3, Lib.hid hR3⟩

set_option maxRecDepth 100000 in
theorem ListAppend_any (base b n : Nat) (t : TypeId) (u : Value) (w : World) (h : LstAt w base b n) (hb : b < base) (hn : n ≤ 900) (hbase : base ≤ w.heap.size) :
    Calls Tryz.prog 59 #[.pointer (some ⟨b, 0, none⟩), .iface t u] w fun e w' => e = .returned .nilIface ∧ LstAt w' base b (n + 1) ∧ Below b w w' ∧ ∀ k, b < k → k < base → w'.heap[k]? = w.heap[k]? := by
  obtain ⟨ks, xs, hr, hown, sa, sc, rfl⟩ := h
  have HM := Lib.hid (fun s => ListMut_any b (.slice sa n sc) s w hr)
  have c0 : w.cell? ⟨b, 0, none⟩ = some (.slice sa n sc) := (cell_of_row _ _ 0 _ _ (0, 0) hr).trans rfl
  have HR := Lib.hid hr; have HOWN := Lib.hid hown
  have hlt : b < w.heap.size := (Array.getElem?_eq_some_iff.1 hr).1
  have HLT := Lib.hid hlt
  clear hr hown hlt
  go_enter Tryz.func59, Tryz.ntmps59
  go_wp2_with fail
  refine (HM.out _).mono ?_
  rintro e w2 ⟨rfl, rfl⟩
  have HO1 := Lib.hid (show (w2.alloc (.cells #[.iface t u] 59)).ownsRow base 59 1 (.slice sa n sc) n xs from by
    rcases HOWN.out with ⟨h1, h2⟩
    refine ⟨h1, ?_⟩
    rcases h2 with h2 | ⟨g, cap, cur, e, hbg, hg, rest⟩
    · exact .inl h2
    · exact .inr ⟨g, cap, cur, e, hbg, (Below.heap_alloc w2 _ g (Array.getElem?_eq_some_iff.1 hg).1).trans hg, rest⟩)
  have HC := Lib.hid (show (w2.alloc (.cells #[.iface t u] 59)).cell? ⟨w2.heap.size, 0, none⟩ = some (.iface t u) from (cell_of_row _ _ 0 _ _ (0, 0) (heap_alloc_new w2 _)).trans rfl)
  go_wp2_with ((with_reducible show wpList _ _ _ _ _ _); refine wpList_append_cell rfl (.tmp 15) (.tmp 17) 53 rfl base 59 .nilIface 16 valsUnder valInfo rfl (by decide) _ n xs rfl HO1.out (by omega) (by simp; omega) w2.heap.size 1 rfl (.iface t u) HC.out rfl ?_; rintro v' w3 HN HG hsh; obtain ⟨sa', sc', rfl⟩ := hsh; obtain ⟨e0, f0, HR3⟩ := lap_at HOWN.out HR.out HLT.out HG.out hb)
  go_ret
  have hown_ne : ∀ k, k < base → some k ≠ (Value.slice sa n sc).ownBlock := fun k hk e => by
    rcases HOWN.out.2 with ⟨h1, _⟩ | ⟨g, cap, cur, h1, hbg, _⟩
    · rw [h1] at e; cases e
    · rw [h1] at e
      have : k = g := Option.some.inj e
      omega
  have hc : Chg b w3 (w3.setCell ⟨b, 0, none⟩ (.slice sa' (n + 1) sc')) := (Chg.refl b w3).set 0 _
  have hg := HG.out
  have hblk : ∀ k, k < base → k ≠ b → (w3.setCell ⟨b, 0, none⟩ (.slice sa' (n + 1) sc')).heap[k]? = w2.heap[k]? := fun k hk hkb => by
    have hk2 : k < w2.heap.size := by omega
    exact (Below.heap_setCell _ ⟨b, 0, none⟩ _ k hkb).trans ((hg.block k (by simp; omega) (hown_ne k hk)).trans (Below.heap_alloc w2 _ k hk2))
  refine ⟨rfl, ⟨.slice sa' (n + 1) sc', _, (set1 (i := 0) HR3.out).trans rfl, own_chg HN.out hc hb, _, _, rfl⟩, ⟨hc.os.trans hg.os, hc.tape.trans hg.tape, hc.output.trans hg.output, ?_, fun k hk => hblk k (by omega) (by omega)⟩, fun k h1 h2 => hblk k h2 (by omega)⟩
  have h1 := hg.size
  have h2 := hc.size
  rw [World.size_alloc] at h1
  omega

theorem hashed_any (v : Value) (r : Bool) (w : World) (h : HashCan v w r) :
    Calls Tryz.prog 20 #[v] w fun e w' => (∃ n : Int, e = .returned (.tuple #[.int .u32 n, .bool r])) ∧ Below w.heap.size w w' := by
  obtain ⟨t, u, f, rfl, hm, hen, hc⟩ := h
  have HC := Lib.hid hc
  clear hc
  go_enter Tryz.func20, Tryz.ntmps20
  go_wp2_with fail
  refine HC.out.mono ?_
  rintro e w2 ⟨n, er, rfl, hy, hno, hb⟩
  have HB := Lib.hid hb
  clear hb
  cases r with
  | true =>
    obtain rfl := hy rfl
    clear hy hno
    go_wp2
    go_ret2
    exact ⟨⟨_, rfl⟩, HB.out⟩
  | false =>
    obtain ⟨te, ue, rfl⟩ := hno rfl
    clear hy hno
    go_wp2
    go_ret2
    exact ⟨⟨_, rfl⟩, HB.out⟩
end Go.Proofs.YtpcleebnfgnhdaaGreatDoor

/- What lies in memory: a graph's nodes. -/
set_option linter.unusedVariables false
set_option linter.unusedSimpArgs false
namespace Go.Proofs.YtpcleebnfgnhdaaGreatDoor
open Go.RowKit
open Num

/-- a slice of numbers of nodes, in blocks of S -/
def NumsB (w : World) (S : Nat → Prop) (v : Value) (ks : List Nat) : Prop :=
  (ks = [] ∧ ∃ a c, v = .slice a 0 c) ∨
  (0 < ks.length ∧ ∃ g p c, v = .slice (some ⟨g, p, none⟩) ks.length c ∧ S g ∧ ks.length ≤ c ∧ c ≤ 9223372036854775807 ∧ g < w.heap.size ∧ ∀ i (h : i < ks.length), w.cell? ⟨g, p + i, none⟩ = some (.int .i64 (ks[i] : Nat)))
/-- a node's cells -/
def NdB (w : World) (S : Nat → Prop) (v : Value) (x : Nd) : Prop :=
  ∃ n a m c b s v2, v = .agg #[.int .i64 x.T.kind, .bool n, .slice a m c, .int .u64 b, .string s, v2] ∧ ValB w S 1 (sixV x.T.kind n a m c b s none 0 0) (withKids x.T []) ∧ NumsB w S v2 x.ks
/-- a graph's nodes -/
def GrB (w : World) (S : Nat → Prop) (v : Value) (N : List Nd) : Prop :=
  (N = [] ∧ ∃ a c, v = .slice a 0 c) ∨
  (0 < N.length ∧ ∃ g p c, v = .slice (some ⟨g, p, none⟩) N.length c ∧ S g ∧ N.length ≤ c ∧ c ≤ 9223372036854775807 ∧ g < w.heap.size ∧ ∀ i (h : i < N.length), ∃ u, V6 w g (p + i * 6) u ∧ NdB w S u N[i])

theorem NumsB.turn {w w' : World} {S S' : Nat → Prop} {v : Value} {ks : List Nat} (h : NumsB w S v ks) (hS : ∀ b, S b → S' b) (hs : w.heap.size ≤ w'.heap.size) (hb : ∀ b, S b → b < w.heap.size → w'.heap[b]? = w.heap[b]?) : NumsB w' S' v ks := by
  rcases h with h | ⟨h0, g, p, c, e, hg, hc, hc2, hl, hk⟩
  · exact .inl h
  · exact .inr ⟨h0, g, p, c, e, hS g hg, hc, hc2, by omega, fun i hi => (World.cell?_of_block (w := w) (a := ⟨g, p + i, none⟩) (hb g hg hl)).trans (hk i hi)⟩
theorem NdB.turn {w w' : World} {S S' : Nat → Prop} {v : Value} {x : Nd} (h : NdB w S v x) (hS : ∀ b, S b → S' b) (hs : w.heap.size ≤ w'.heap.size) (hb : ∀ b, S b → b < w.heap.size → w'.heap[b]? = w.heap[b]?) : NdB w' S' v x := by
  obtain ⟨n, a, m, c, b, s, v2, e, h1, h2⟩ := h
  exact ⟨n, a, m, c, b, s, v2, e, h1.turn hS hs hb, h2.turn hS hs hb⟩
theorem GrB.turn {w w' : World} {S S' : Nat → Prop} {v : Value} {N : List Nd} (h : GrB w S v N) (hS : ∀ b, S b → S' b) (hs : w.heap.size ≤ w'.heap.size) (hb : ∀ b, S b → b < w.heap.size → w'.heap[b]? = w.heap[b]?) : GrB w' S' v N := by
  rcases h with h | ⟨h0, g, p, c, e, hg, hc, hc2, hl, hk⟩
  · exact .inl h
  · exact .inr ⟨h0, g, p, c, e, hS g hg, hc, hc2, by omega, fun i hi => by
      obtain ⟨u, hu, hp⟩ := hk i hi
      exact ⟨u, hu.turn (hb g hg hl), hp.turn hS hs hb⟩⟩
theorem GrB.below {w w' : World} {S : Nat → Prop} {v : Value} {N : List Nd} (h : GrB w S v N) (hb : Below w.heap.size w w') : GrB w' S v N := h.turn (fun _ h => h) hb.size (fun b _ hl => hb.block b hl)
theorem GrB.chg {w w' : World} {S : Nat → Prop} {v : Value} {N : List Nd} {g : Nat} (h : GrB w S v N) (hc : Chg g w w') (hg : ¬ S g) : GrB w' S v N := h.turn (fun _ h => h) hc.size (fun b hS hl => hc.block b hl (fun e => hg (e ▸ hS)))
theorem GrB.sub {w : World} {S S' : Nat → Prop} {v : Value} {N : List Nd} (h : GrB w S v N) (hS : ∀ b, S b → S' b) : GrB w S' v N := h.turn hS (Nat.le_refl _) (fun _ _ _ => rfl)
theorem NumsB.shape {w : World} {S : Nat → Prop} {v : Value} {ks : List Nat} (h : NumsB w S v ks) : ∃ a c, v = .slice a ks.length c := by
  rcases h with ⟨rfl, a, c, rfl⟩ | ⟨_, g, p, c, rfl, _⟩
  · exact ⟨a, c, rfl⟩
  · exact ⟨_, c, rfl⟩
theorem GrB.shape {w : World} {S : Nat → Prop} {v : Value} {N : List Nd} (h : GrB w S v N) : ∃ a c, v = .slice a N.length c := by
  rcases h with ⟨rfl, a, c, rfl⟩ | ⟨_, g, p, c, rfl, _⟩
  · exact ⟨a, c, rfl⟩
  · exact ⟨_, c, rfl⟩
/-- a node of a graph, its cells -/
theorem GrB.node {w : World} {S : Nat → Prop} {v : Value} {N : List Nd} (h : GrB w S v N) (i : Nat) (hi : i < N.length) :
    ∃ g p c, v = .slice (some ⟨g, p, none⟩) N.length c ∧ N.length ≤ c ∧ c ≤ 9223372036854775807 ∧ g < w.heap.size ∧ S g ∧
      ∃ n a m c b s ka kc, Cells6 w g (p + i * 6) N[i].T.kind n a m c b s ka N[i].ks.length kc ∧ ValB w S 1 (sixV N[i].T.kind n a m c b s none 0 0) (withKids N[i].T []) ∧ NumsB w S (.slice ka N[i].ks.length kc) N[i].ks := by
  rcases h with ⟨rfl, _⟩ | ⟨h0, g, p, c, e, hg, hc, hc2, hl, hk⟩
  · simp at hi
  · obtain ⟨u, hu, n, a, m, c', b, s, v2, e2, h1, h2⟩ := hk i hi
    obtain ⟨ka, kc, rfl⟩ := h2.shape
    subst e2
    exact ⟨g, p, c, e, hc, hc2, hl, hg, n, a, m, c', b, s, ka, kc, hu.six, h1, h2⟩
/-- the number of a kid -/
theorem NumsB.get {w : World} {S : Nat → Prop} {ka : Option Addr} {n kc : Nat} {ks : List Nat} (h : NumsB w S (.slice ka n kc) ks) (i : Nat) (hi : i < ks.length) :
    ∃ g p, ka = some ⟨g, p, none⟩ ∧ n = ks.length ∧ n ≤ kc ∧ kc ≤ 9223372036854775807 ∧ S g ∧ g < w.heap.size ∧ w.cell? ⟨g, p + i, none⟩ = some (.int .i64 (ks[i] : Nat)) := by
  rcases h with ⟨rfl, _⟩ | ⟨h0, g, p, c, e, hg, hc, hc2, hl, hk⟩
  · simp at hi
  · injection e with e1 e2 e3
    exact ⟨g, p, e1, e2, by omega, by omega, hg, hl, hk i hi⟩

/-- how many of n are not marked -/
def unm (on : Nat → Bool) : Nat → Nat
  | 0 => 0
  | n + 1 => unm on n + (if on n then 0 else 1)
theorem unm_congr {on on' : Nat → Bool} : ∀ (n : Nat), (∀ i, i < n → on i = on' i) → unm on n = unm on' n
  | 0, _ => rfl
  | n + 1, h => by
    unfold unm
    rw [unm_congr n (fun i hi => h i (by omega)), h n (by omega)]
theorem unm_set {on : Nat → Bool} {at_ : Nat} (h : on at_ = false) : ∀ (n : Nat), at_ < n → unm on n = unm (fun i => if i = at_ then true else on i) n + 1
  | 0, hl => by omega
  | n + 1, hl => by
    unfold unm
    by_cases e : n = at_
    · subst e
      have hc : unm (fun i => if i = n then true else on i) n = unm on n := unm_congr n (fun i hi => by simp [show ¬ i = n by omega])
      rw [hc, if_pos rfl]
      simp [h]
    · rw [unm_set h n (by omega)]
      simp only [if_neg e]
      omega
end Go.Proofs.YtpcleebnfgnhdaaGreatDoor

/- A node's kids' numbers are appended to. -/
set_option linter.unusedVariables false
set_option linter.unusedSimpArgs false
namespace Go.Proofs.YtpcleebnfgnhdaaGreatDoor
open Go.RowKit
open Num

theorem numInfo : (Tryz.prog.info? 3).map (fun i => (i.zero, i.size, i.bytes)) = some (some (.int .i64 0), 1, 8) := by kernel_rfl
theorem numsUnder : Tryz.prog.underlying 46 = some (.slice 3) := by kernel_rfl
abbrev nums (l : List Nat) : List Value := l.map fun (k : Nat) => Value.int .i64 (k : Int)
/-- a node in a block, whose kids' numbers lie in a slice of the call's own -/
structure NumOwn (base O : Nat) (c0 c1 c2 c3 c4 : Value) (l : List Nat) (ks : Value) (w : World) : Prop where
  o : w.heap[O]? = some (.cells #[c0, c1, c2, c3, c4, ks] 48 (0, 0))
  own : w.ownsRow base 3 1 ks l.length (nums l)
  sh : ∃ a c, ks = .slice a l.length c
theorem NumOwn.ne {base O : Nat} {c0 c1 c2 c3 c4 ks : Value} {l : List Nat} {w : World} (h : NumOwn base O c0 c1 c2 c3 c4 l ks w) : ∀ k, k < base → some k ≠ ks.ownBlock := fun k hk e => by
  rcases h.own.2 with ⟨h1, _⟩ | ⟨g, cap, cur, h1, hbg, _⟩
  · rw [h1] at e; cases e
  · rw [h1] at e
    have : k = g := Option.some.inj e
    omega
/-- it stands where its own blocks stand -/
theorem NumOwn.turn {base O : Nat} {c0 c1 c2 c3 c4 ks : Value} {l : List Nat} {w w' : World} (h : NumOwn base O c0 c1 c2 c3 c4 l ks w) (hO : w'.heap[O]? = w.heap[O]?) (hb : ∀ b, ks.ownBlock = some b → w'.heap[b]? = w.heap[b]?) : NumOwn base O c0 c1 c2 c3 c4 l ks w' := by
  refine ⟨hO.trans h.o, ⟨h.own.1, ?_⟩, h.sh⟩
  rcases h.own.2 with h2 | ⟨g, cap, cur, e, hbg, hg, rest⟩
  · exact .inl h2
  · exact .inr ⟨g, cap, cur, e, hbg, (hb g (by rw [e]; rfl)).trans hg, rest⟩
theorem NumOwn.below {base O : Nat} {c0 c1 c2 c3 c4 ks : Value} {l : List Nat} {w w' : World} (h : NumOwn base O c0 c1 c2 c3 c4 l ks w) (hb : Below w.heap.size w w') : NumOwn base O c0 c1 c2 c3 c4 l ks w' := by
  refine h.turn (hb.block O (Array.getElem?_eq_some_iff.1 h.o).1) (fun b e => ?_)
  rcases h.own.2 with ⟨h1, _⟩ | ⟨g, cap, cur, h1, hbg, hg, _⟩
  · rw [h1] at e; cases e
  · rw [h1] at e
    obtain rfl : g = b := Option.some.inj e
    exact hb.block g (Array.getElem?_eq_some_iff.1 hg).1
/-- what is so behind an append of the number k (w: ahead of it, w8: behind the store) -/
structure NumDone (base O : Nat) (c0 c1 c2 c3 c4 : Value) (l : List Nat) (ks ks' : Value) (w w8 : World) : Prop where
  o : NumOwn base O c0 c1 c2 c3 c4 l ks' w8
  b : Below O w w8
  r : ∀ k, O < k → k < w.heap.size → some k ≠ ks.ownBlock → w8.heap[k]? = w.heap[k]?
  f : ks'.ownBlock = ks.ownBlock ∨ ∃ b, ks'.ownBlock = some b ∧ w.heap.size ≤ b
theorem NumOwn.run {base O : Nat} {c0 c1 c2 c3 c4 ks : Value} {l : List Nat} {w : World} {k g c : Nat} (ty : TypeId) (h : NumOwn base O c0 c1 c2 c3 c4 l ks w) (hO : O < base) (hbase : base ≤ w.heap.size) (hl : l.length ≤ 900) (hg : w.cell? ⟨g, 0, none⟩ = some (.int .i64 (k : Int))) :
    ∃ a' c' w7, (Builtin.append_ #[46, 46] ty #[ks, .slice (some ⟨g, 0, none⟩) 1 c]).run Tryz.prog w = .ok (.slice a' (l.length + 1) c') w7 ∧ w7.cell? ⟨O, 5, none⟩ = some ks ∧ (∀ i, w7.frozen? ⟨O, i, none⟩ = false) ∧
      NumDone base O c0 c1 c2 c3 c4 (l ++ [k]) ks (.slice a' (l.length + 1) c') w (w7.setCell ⟨O, 5, none⟩ (.slice a' (l.length + 1) c')) := by
  obtain ⟨i, hi1, hzz⟩ := Option.map_eq_some_iff.1 numInfo
  simp only [Prod.mk.injEq] at hzz
  obtain ⟨hz0, hz1, hz2⟩ := hzz
  obtain ⟨v', w7, hr, h2, h3, _, h5⟩ := run_append_own_at (P := Tryz.prog) w base 46 ty 3 i (.int .i64 0) 1 8 numsUnder hi1 hz0 hz1 hz2 rfl (by decide) ks l.length (nums l) h.own ⟨g, 0, none⟩ 1 c [.int .i64 (k : Int)] rfl (fun j u hj => by
    match j, hj with
    | 0, hj => obtain rfl : Value.int .i64 (k : Int) = u := by simpa using hj
               rw [add_at]; exact hg
    | j + 1, hj => simp at hj) (by simp [Value.oneCell']) (by simp only [maxLen]; omega) (by omega) hbase
  have hsh : ∃ a' c', v' = .slice a' (l.length + 1) c' := by
    rcases h2.2 with ⟨_, h0⟩ | ⟨g', cap, cur, rfl, _⟩
    · omega
    · exact ⟨_, cap, rfl⟩
  obtain ⟨a', c', rfl⟩ := hsh
  have hOl := (Array.getElem?_eq_some_iff.1 h.o).1
  have ho := (h3.block _ hOl (h.ne _ hO)).trans h.o
  have hc : Chg O w7 (w7.setCell ⟨O, 5, none⟩ (.slice a' (l.length + 1) c')) := (Chg.refl _ _).set 5 _
  refine ⟨a', c', w7, hr, (cell_of_row _ _ 5 _ _ (0, 0) ho).trans rfl, six_frozen ho, ⟨(set1 (i := 5) (x := .slice a' (l.length + 1) c') ho).trans rfl, ?_, ⟨a', c', by simp⟩⟩, ?_, ?_, ?_⟩
  · have := own_chg h2 hc hO
    simpa [nums] using this
  · exact ⟨hc.os.trans h3.os, hc.tape.trans h3.tape, hc.output.trans h3.output, Nat.le_trans h3.size hc.size, fun b hb => (hc.block b (by have := h3.size; omega) (by omega)).trans (h3.block b (by omega) (h.ne b (by omega)))⟩
  · intro b h1 hb hne
    exact (hc.block b (by have := h3.size; omega) (by omega)).trans (h3.block b hb hne)
  · rcases h5 with h5 | h5
    · exact .inl h5
    · exact .inr ⟨_, h5, Nat.le_refl _⟩
theorem step_num {base O : Nat} {c0 c1 c2 c3 c4 ks : Value} {l : List Nat} {w : World} {k g c : Nat} {o : Oper} {ops : Array Oper} {a : Act} {K : Act → World → Prop} {Q : Exit → Act → World → Prop} {E : Prop} (hgd : o.guard = none) (s x : Operand)
    (ho : o.op = .call { callee := .builtin .append, args := #[s, x], argTypes := #[46, 46] }) (hs : a.eval s = ks) (hx : a.eval x = .slice (some ⟨g, 0, none⟩) 1 c) (h : NumOwn base O c0 c1 c2 c3 c4 l ks w) (hO : O < base) (hbase : base ≤ w.heap.size) (hl : l.length ≤ 900) (hg : w.cell? ⟨g, 0, none⟩ = some (.int .i64 (k : Int)))
    (hK : ∀ a' c' w7, w7.cell? ⟨O, 5, none⟩ = some ks → (∀ i, w7.frozen? ⟨O, i, none⟩ = false) → Hid (NumDone base O c0 c1 c2 c3 c4 (l ++ [k]) ks (.slice a' (l.length + 1) c') w (w7.setCell ⟨O, 5, none⟩ (.slice a' (l.length + 1) c'))) → K (a.put o.dst (.slice a' (l.length + 1) c')) w7) :
    if Region.wanted o (yielded ops a.tmps) = true then Oper.wp Tryz.prog o a w K Q else E := by
  obtain ⟨a', c', w7, hr, h1, h2, h3⟩ := h.run (c := c) o.type hO hbase hl hg
  have hw : Region.wanted o (yielded ops a.tmps) = true := by simp [Region.wanted, hgd]
  rw [if_pos hw]
  unfold Oper.wp execOp
  simp only [ho, resolve, invoke, builtin, Sem.run_bind, Sem.run_pure, Result.andThen_ok, List.map_toArray, List.map_cons, List.map_nil, hs, hx, hr]
  exact hK a' c' w7 h1 h2 (Lib.hid h3)
theorem wpList_num {base O : Nat} {c0 c1 c2 c3 c4 ks : Value} {l : List Nat} {w : World} {k g c : Nat} {o : Oper} {ops : Array Oper} {rest : List Oper} {a : Act} {Q : Exit → Act → World → Prop} (hgd : o.guard = none) (s x : Operand)
    (ho : o.op = .call { callee := .builtin .append, args := #[s, x], argTypes := #[46, 46] }) (hs : a.eval s = ks) (hx : a.eval x = .slice (some ⟨g, 0, none⟩) 1 c) (h : NumOwn base O c0 c1 c2 c3 c4 l ks w) (hO : O < base) (hbase : base ≤ w.heap.size) (hl : l.length ≤ 900) (hg : w.cell? ⟨g, 0, none⟩ = some (.int .i64 (k : Int)))
    (hK : ∀ a' c' w7, w7.cell? ⟨O, 5, none⟩ = some ks → (∀ i, w7.frozen? ⟨O, i, none⟩ = false) → Hid (NumDone base O c0 c1 c2 c3 c4 (l ++ [k]) ks (.slice a' (l.length + 1) c') w (w7.setCell ⟨O, 5, none⟩ (.slice a' (l.length + 1) c'))) → wpList Tryz.prog ops Q rest (a.put o.dst (.slice a' (l.length + 1) c')) w7) :
    wpList Tryz.prog ops Q (o :: rest) a w := by
  obtain ⟨a', c', w7, hr, h1, h2, h3⟩ := h.run (c := c) o.type hO hbase hl hg
  refine wpList_plain hgd fun K hK' => ?_
  unfold Oper.wp execOp
  simp only [ho, resolve, invoke, builtin, Sem.run_bind, Sem.run_pure, Result.andThen_ok, List.map_toArray, List.map_cons, List.map_nil, hs, hx, hr]
  exact hK' _ _ (hK a' c' w7 h1 h2 (Lib.hid h3))
end Go.Proofs.YtpcleebnfgnhdaaGreatDoor

/- A slice of nodes that a call makes and appends to. -/
set_option linter.unusedVariables false
set_option linter.unusedSimpArgs false
namespace Go.Proofs.YtpcleebnfgnhdaaGreatDoor
open Go.RowKit
open Num

theorem sixesN_length : ∀ (es : List (Value × Nd)), (∀ e ∈ es, IsSix e.1) → (es.flatMap fun e => six e.1).length = es.length * 6
  | [], _ => rfl
  | e :: es, h => by
    rw [List.flatMap_cons, List.length_append, six_length (h e (by simp)), sixesN_length es (fun x hx => h x (by simp [hx])), List.length_cons]
    omega
theorem sixesN_get : ∀ (es : List (Value × Nd)), (∀ e ∈ es, IsSix e.1) → ∀ i j (hi : i < es.length), j < 6 → (es.flatMap fun e => six e.1)[i * 6 + j]? = (six es[i].1)[j]?
  | [], _, i, j, hi, _ => by simp at hi
  | e :: es, h, 0, j, hi, hj => by
    have h6 := six_length (h e (by simp))
    rw [List.flatMap_cons, Nat.zero_mul, Nat.zero_add, List.getElem?_append_left (by omega)]
    rfl
  | e :: es, h, i + 1, j, hi, hj => by
    have h6 := six_length (h e (by simp))
    rw [List.flatMap_cons, List.getElem?_append_right (by omega), h6, show (i + 1) * 6 + j - 6 = i * 6 + j by omega]
    exact sixesN_get es (fun x hx => h x (by simp [hx])) i j (by simpa using hi) hj

/-- what is known of a node in a slice of the call's own: it stands in blocks that the slice does not take -/
def EntN (T : Nat → Prop) (w : World) (ks : Value) (e : Value × Nd) : Prop :=
  IsSix e.1 ∧ ∃ S : Nat → Prop, NdB w S e.1 e.2 ∧ (∀ b, S b → b < w.heap.size ∧ T b) ∧ ∀ g, ks.ownBlock = some g → ¬ S g
/-- a slice of the call's own that holds these nodes -/
def OwnN (base : Nat) (T : Nat → Prop) (w : World) (ks : Value) (es : List (Value × Nd)) : Prop :=
  w.ownsRow base 48 6 ks es.length (es.flatMap fun e => six e.1) ∧ ∀ e ∈ es, EntN T w ks e
theorem OwnN.nil (base : Nat) (T : Nat → Prop) (w : World) : OwnN base T w (.slice none 0 0) [] := ⟨World.ownsRow_nil w base _ 6, fun e he => by simp at he⟩
theorem EntN.turn {T : Nat → Prop} {w w' : World} {ks : Value} {e : Value × Nd} (h : EntN T w ks e) (hs : w.heap.size ≤ w'.heap.size) (hb : ∀ b, T b → b < w.heap.size → w'.heap[b]? = w.heap[b]?) : EntN T w' ks e := by
  obtain ⟨h6, S, a1, a2, a3⟩ := h
  exact ⟨h6, S, a1.turn (fun _ h => h) hs (fun b hS hl => hb b (a2 b hS).2 hl), fun b hS => ⟨Nat.lt_of_lt_of_le (a2 b hS).1 hs, (a2 b hS).2⟩, a3⟩
theorem OwnN.turn {base : Nat} {T : Nat → Prop} {w w' : World} {ks : Value} {es : List (Value × Nd)} (h : OwnN base T w ks es) (hs : w.heap.size ≤ w'.heap.size) (hb : ∀ b, base ≤ b ∨ T b → b < w.heap.size → w'.heap[b]? = w.heap[b]?) : OwnN base T w' ks es := by
  obtain ⟨⟨h1, h2⟩, h3⟩ := h
  refine ⟨⟨h1, ?_⟩, fun e he => (h3 e he).turn hs (fun b hT hl => hb b (.inr hT) hl)⟩
  rcases h2 with h2 | ⟨g, cap, cur, e, hbg, hg, rest⟩
  · exact .inl h2
  · exact .inr ⟨g, cap, cur, e, hbg, (hb g (.inl hbg) (Array.getElem?_eq_some_iff.1 hg).1).trans hg, rest⟩
theorem OwnN.below {base : Nat} {T : Nat → Prop} {w w' : World} {ks : Value} {es : List (Value × Nd)} (h : OwnN base T w ks es) (hb : Below w.heap.size w w') : OwnN base T w' ks es :=
  h.turn hb.size (fun b _ hl => hb.block b hl)
theorem OwnN.chg {base g : Nat} {T : Nat → Prop} {w w' : World} {ks : Value} {es : List (Value × Nd)} (h : OwnN base T w ks es) (hc : Chg g w w') (hg : g < base) (hT : ¬ T g) : OwnN base T w' ks es :=
  h.turn hc.size (fun b hl hh => hc.block b hh (fun e => by subst e; rcases hl with hl | hl; omega; exact hT hl))
theorem OwnN.lt {base : Nat} {T : Nat → Prop} {w : World} {ks : Value} {es : List (Value × Nd)} (h : OwnN base T w ks es) : ∀ g, ks.ownBlock = some g → base ≤ g ∧ g < w.heap.size := h.1.lt
theorem OwnN.shape {base : Nat} {T : Nat → Prop} {w : World} {ks : Value} {es : List (Value × Nd)} (h : OwnN base T w ks es) : ∃ a c, ks = .slice a es.length c := by
  rcases h.1.2 with ⟨rfl, h0⟩ | ⟨g, cap, cur, rfl, _⟩
  · exact ⟨none, 0, by rw [h0]⟩
  · exact ⟨_, cap, rfl⟩
theorem NdB.sub {w : World} {S S' : Nat → Prop} {v : Value} {x : Nd} (h : NdB w S v x) (hS : ∀ b, S b → S' b) : NdB w S' v x := h.turn hS (Nat.le_refl _) (fun _ _ _ => rfl)
theorem OwnN.graph {base : Nat} {T T' : Nat → Prop} {w : World} {ks : Value} {es : List (Value × Nd)} (h : OwnN base T w ks es) (hT : ∀ b, T b → T' b) (hB : ∀ b, base ≤ b → b < w.heap.size → T' b) : GrB w T' ks (es.map (·.2)) := by
  obtain ⟨⟨hl, ho⟩, hE⟩ := h
  rcases ho with ⟨rfl, h0⟩ | ⟨g, cap, cur, rfl, hbg, hg, hn, hcm, hcs, htk⟩
  · exact .inl ⟨by rw [List.eq_nil_of_length_eq_zero h0]; rfl, _, _, rfl⟩
  · by_cases h0 : es.length = 0
    · exact .inl ⟨by rw [List.eq_nil_of_length_eq_zero h0]; rfl, _, _, by rw [h0]⟩
    · have hlt := (Array.getElem?_eq_some_iff.1 hg).1
      refine .inr ⟨by simp; omega, g, 0, cap, by simp, hB g hbg hlt, by simpa using hn, by simpa [maxLen] using hcm, by omega, fun i hi => ?_⟩
      have hi' : i < es.length := by simpa using hi
      obtain ⟨⟨c0, c1, c2, c3, c4, c5, e6⟩, S, a1, a2, a3⟩ := hE es[i] (List.getElem_mem hi')
      have hcell : ∀ j, j < 6 → w.cell? ⟨g, 0 + i * 6 + j, none⟩ = (six es[i].1)[j]? := fun j hj => by
        rw [cell_of_row w g _ cur _ (0, 0) hg, ← sixesN_get es (fun e he => (hE e he).1) i j hi' hj, ← htk, List.getElem?_take, if_pos (by omega), Nat.zero_add]
        simp
      rw [e6] at hcell
      refine ⟨es[i].1, ⟨c0, c1, c2, c3, c4, c5, e6, hcell 0 (by omega), hcell 1 (by omega), hcell 2 (by omega), hcell 3 (by omega), hcell 4 (by omega), hcell 5 (by omega)⟩, ?_⟩
      have := a1.sub (fun b hS => hT b (a2 b hS).2)
      simpa using this

theorem nodeInfo : (Tryz.prog.info? 48).map (fun i => (i.zero.map (·.cells.size), i.size, i.bytes)) = some (some 6, 6, 88) := by kernel_rfl
theorem nodesUnder : Tryz.prog.underlying 22 = some (.slice 48) := by kernel_rfl
/-- append of a node to a slice of the call's own -/
theorem run_append_node {w : World} {base : Nat} {T : Nat → Prop} {ks : Value} {es : List (Value × Nd)} (ty : TypeId) (h : OwnN base T w ks es) (hl : es.length ≤ 1000) (hb : base ≤ w.heap.size)
    (g c : Nat) (n : Value × Nd) (hns : ∀ j u, (six n.1)[j]? = some u → w.cell? ⟨g, j, none⟩ = some u) (h1 : ∀ u ∈ six n.1, u.oneCell' = true) (hnew : EntN T w ks n) :
    ∃ v' w', (Builtin.append_ #[22, 22] ty #[ks, .slice (some ⟨g, 0, none⟩) 1 c]).run Tryz.prog w = .ok v' w' ∧ OwnN base T w' v' (es ++ [n]) ∧ w.grownBy w' ks.ownBlock := by
  obtain ⟨i, hi, hzz⟩ := Option.map_eq_some_iff.1 nodeInfo
  simp only [Prod.mk.injEq] at hzz
  obtain ⟨hz0, hz1, hz2⟩ := hzz
  obtain ⟨z, hz, hzs⟩ := Option.map_eq_some_iff.1 hz0
  obtain ⟨v', w', hr, ho, hg, _, hat⟩ := run_append_own_at (P := Tryz.prog) w base 22 ty 48 i z 6 88 nodesUnder hi hz hz1 hz2 hzs (by decide) ks es.length _ h.1 ⟨g, 0, none⟩ 1 c (six n.1) (by rw [six_length hnew.1]) (fun j u hj => by rw [add_at, Nat.zero_add]; exact hns j u hj) h1 (by simp only [maxLen]; omega) (by omega) hb
  refine ⟨v', w', hr, ⟨?_, fun e he => ?_⟩, hg⟩
  · rw [List.length_append, List.flatMap_append]
    simpa using ho
  · have hold : EntN T w ks e → EntN T w' v' e := fun h => by
      obtain ⟨h6, S, a1, a2, a3⟩ := h
      refine ⟨h6, S, a1.turn (fun _ h => h) hg.size (fun b hS hl => hg.block b hl (fun e => a3 b e.symm hS)), fun b hS => ⟨Nat.lt_of_lt_of_le (a2 b hS).1 hg.size, (a2 b hS).2⟩, fun g' hg' hS => ?_⟩
      rcases hat with h | h
      · exact a3 g' (h.symm.trans hg') hS
      · rw [h] at hg'; injection hg' with hg'; have := (a2 g' hS).1; omega
    rcases List.mem_append.1 he with he | he
    · exact hold (h.2 e he)
    · obtain rfl : e = n := by simpa using he
      exact hold hnew
/-- .. as a step of a region that draws -/
theorem step_append_node {w : World} {o : Oper} {ops : Array Oper} {a : Act} {K : Act → World → Prop} {Q : Exit → Act → World → Prop} {E : Prop} (hgd : o.guard = none) (s x : Operand)
    (ho : o.op = .call { callee := .builtin .append, args := #[s, x], argTypes := #[22, 22] })
    {base : Nat} {T : Nat → Prop} {ks : Value} {es : List (Value × Nd)} (hs : a.eval s = ks) (h : OwnN base T w ks es) (hl : es.length ≤ 1000) (hb : base ≤ w.heap.size)
    (g c : Nat) (n : Value × Nd) (hx : a.eval x = .slice (some ⟨g, 0, none⟩) 1 c) (hns : ∀ j u, (six n.1)[j]? = some u → w.cell? ⟨g, j, none⟩ = some u) (h1 : ∀ u ∈ six n.1, u.oneCell' = true) (hnew : EntN T w ks n)
    (hK : ∀ v' w', Hid (OwnN base T w' v' (es ++ [n])) → Hid (w.grownBy w' ks.ownBlock) → K (a.put o.dst v') w') :
    if Region.wanted o (yielded ops a.tmps) = true then Oper.wp Tryz.prog o a w K Q else E := by
  obtain ⟨v', w', hr, h2, h3⟩ := run_append_node o.type h hl hb g c n hns h1 hnew
  have hw : Region.wanted o (yielded ops a.tmps) = true := by simp [Region.wanted, hgd]
  rw [if_pos hw]
  unfold Oper.wp execOp
  simp only [ho, resolve, invoke, builtin, Sem.run_bind, Sem.run_pure, Result.andThen_ok, List.map_toArray, List.map_cons, List.map_nil, hs, hx, hr]
  exact hK v' w' (Lib.hid h2) (Lib.hid h3)
end Go.Proofs.YtpcleebnfgnhdaaGreatDoor

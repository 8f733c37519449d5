/- What memory holds, told by functions: a block as a row of cells ('Row'), what a call that writes one block leaves ('Chg'), the words of a number ('NatAt'), the bytes of a number ('ByAt'); the builtin copy over rows. No program in sight. -/
import Derived.WalkKit
import Derived.WalkSpells
import Derived.WalkLawsBesides
import Derived.Laws.CopyOwn
import Derived.Lib.Hide
import Derived.LaidEqlPtr
import Derived.Lib.SliceRun
import Derived.Test.YtgohhebffcldeaaGreatDoorNum
set_option linter.unusedVariables false
set_option linter.unusedSimpArgs false
namespace Go.Proofs.YtgohhebffcldeaaGreatDoor
open Go.RowKit
open Num

theorem ret_int {k : IntKind} {a b : Int} (h : a = b) : Ending.returned (.int k a) = .returned (.int k b) := by rw [h]
theorem ret_bool {a b : Bool} (h : a = b) : Ending.returned (.bool a) = .returned (.bool b) := by rw [h]
theorem bcell {W w1 : World} (hb : Below W.heap.size W w1) : (∀ b o, b < W.heap.size → w1.cell? ⟨b, o, none⟩ = W.cell? ⟨b, o, none⟩) ∧ (∀ b o, b < W.heap.size → w1.frozen? ⟨b, o, none⟩ = W.frozen? ⟨b, o, none⟩) :=
  ⟨fun b o h => hb.cell (p := ⟨b, o, none⟩) h, fun b o h => hb.frozen (p := ⟨b, o, none⟩) h⟩

theorem add_at (g o j : Nat) : (⟨g, o, none⟩ : Addr).add j = ⟨g, o + j, none⟩ := by unfold Addr.add; split <;> simp_all

theorem below_undrew {B : Nat} {w w' : World} (h : Below B w.drew w') : Below B w w' := ⟨h.os, h.tape, h.output, h.size, h.block⟩
theorem below_undrewN {B n : Nat} {w w' : World} (h : Below B (w.drewN n) w') : Below B w w' := ⟨h.os, h.tape, h.output, h.size, h.block⟩

/-- block g is a row of n cells of type T, cell i holds f i; none is frozen -/
structure Row (w : World) (g T n : Nat) (f : Nat → Value) : Prop where
  ex : ∃ cs : Array Value, w.heap[g]? = some (.cells cs T (0, 0)) ∧ cs.size = n ∧ ∀ i, i < n → cs[i]? = some (f i)

/-- only block g of the old ones may have turned -/
structure Chg (g : Nat) (w w' : World) : Prop where
  os : w'.os = w.os
  tape : w'.tape = w.tape
  output : w'.output = w.output
  size : w.heap.size ≤ w'.heap.size
  block : ∀ k, k < w.heap.size → k ≠ g → w'.heap[k]? = w.heap[k]?

section
variable {w w' : World} {g T n : Nat} {f : Nat → Value}
theorem Row.cell (h : Row w g T n f) {i : Nat} (hi : i < n) : w.cell? ⟨g, i, none⟩ = some (f i) := by
  obtain ⟨cs, h1, h2, h3⟩ := h.ex
  rw [cell_of_row w g i cs T (0, 0) h1]; exact h3 i hi
theorem Row.frozen (h : Row w g T n f) (i : Nat) : w.frozen? ⟨g, i, none⟩ = false := by
  obtain ⟨cs, h1, h2, h3⟩ := h.ex
  simp [World.frozen?, h1]
theorem Row.lt (h : Row w g T n f) : g < w.heap.size := by
  obtain ⟨cs, h1, h2, h3⟩ := h.ex
  exact (Array.getElem?_eq_some_iff.1 h1).1
theorem Row.congr (h : Row w g T n f) {f' : Nat → Value} (hf : ∀ i, i < n → f i = f' i) : Row w g T n f' := by
  obtain ⟨cs, h1, h2, h3⟩ := h.ex
  exact ⟨cs, h1, h2, fun i hi => by rw [h3 i hi, hf i hi]⟩
theorem Row.keep (h : Row w g T n f) (hb : w'.heap[g]? = w.heap[g]?) : Row w' g T n f := by
  obtain ⟨cs, h1, h2, h3⟩ := h.ex
  exact ⟨cs, by rw [hb]; exact h1, h2, h3⟩
theorem Row.set (h : Row w g T n f) (i : Nat) (v : Value) : Row (w.setCell ⟨g, i, none⟩ v) g T n (fun j => if j = i then v else f j) := by
  obtain ⟨cs, h1, h2, h3⟩ := h.ex
  refine ⟨cs.setIfInBounds i v, ?_, by simpa using h2, fun j hj => ?_⟩
  · simp only [World.setCell, Array.getElem?_modify, if_true, h1, Option.map_some]
    rfl
  · rw [Array.getElem?_setIfInBounds]
    by_cases e : i = j
    · subst e; simp [h2, hj]
    · rw [if_neg e, h3 j hj, if_neg (fun q => e q.symm)]
theorem Row.far (h : Row w g T n f) {p : Addr} (hp : g ≠ p.block) (v : Value) : Row (w.setCell p v) g T n f :=
  h.keep (Below.heap_setCell _ _ _ _ hp)
theorem Row.alloc (h : Row w g T n f) (o : Obj) : Row (w.alloc o) g T n f := h.keep (Below.heap_alloc _ _ _ h.lt)
theorem Row.drew (h : Row w g T n f) : Row w.drew g T n f := h.keep rfl
theorem Row.drewN (h : Row w g T n f) (k : Nat) : Row (w.drewN k) g T n f := h.keep rfl
theorem Row.below (h : Row w g T n f) {B : Nat} (hb : Below B w w') (hg : g < B) : Row w' g T n f := h.keep (hb.block g hg)
theorem Row.chg (h : Row w g T n f) {b : Nat} (hb : Chg b w w') (hg : g ≠ b) : Row w' g T n f := h.keep (hb.block g h.lt hg)
theorem Row.made (w : World) (T n : Nat) (z : Value) : Row (w.alloc (.cells (madeCells #[z] n) T)) w.heap.size T n (fun _ => z) := by
  refine ⟨_, heap_alloc_new w _, size_madeCells _ _, fun i hi => ?_⟩
  simp [madeCells, hi, Nat.mod_one]
theorem Row.lit (w : World) (T : Nat) (cs : Array Value) : Row (w.alloc (.cells cs T)) w.heap.size T cs.size (fun i => cs.getD i undef) := by
  refine ⟨_, heap_alloc_new w _, rfl, fun i hi => ?_⟩
  simp [Array.getD, hi]

theorem Chg.refl (g : Nat) (w : World) : Chg g w w := ⟨rfl, rfl, rfl, Nat.le_refl _, fun _ _ _ => rfl⟩
theorem Chg.trans {a b c : World} (h : Chg g a b) (k : Chg g b c) : Chg g a c :=
  ⟨k.os.trans h.os, k.tape.trans h.tape, k.output.trans h.output, Nat.le_trans h.size k.size, fun i hi hg => (k.block i (Nat.lt_of_lt_of_le hi h.size) hg).trans (h.block i hi hg)⟩
theorem Chg.of_below {a b : World} (h : Below a.heap.size a b) : Chg g a b := ⟨h.os, h.tape, h.output, h.size, fun i hi _ => h.block i hi⟩
theorem Chg.below {a b c : World} {B : Nat} (h : Below B a b) (hB : B ≤ b.heap.size) (k : Chg g b c) (hg : B ≤ g) : Below B a c :=
  h.trans ⟨k.os, k.tape, k.output, k.size, fun i hi => k.block i (Nat.lt_of_lt_of_le hi hB) (by omega)⟩
theorem Chg.set (h : Chg g w w') (o : Nat) (v : Value) : Chg g w (w'.setCell ⟨g, o, none⟩ v) :=
  h.trans ⟨rfl, rfl, rfl, by simp [World.setCell], fun k _ hk => Below.heap_setCell _ _ _ _ hk⟩
theorem Chg.alloc (h : Chg g w w') (o : Obj) : Chg g w (w'.alloc o) :=
  h.trans ⟨rfl, rfl, rfl, by simp, fun k hk _ => Below.heap_alloc _ _ _ hk⟩
theorem Chg.drewN (h : Chg g w w') (n : Nat) : Chg g w (w'.drewN n) := ⟨h.os, h.tape, h.output, h.size, h.block⟩
theorem Chg.drew (h : Chg g w w') : Chg g w w'.drew := ⟨h.os, h.tape, h.output, h.size, h.block⟩
theorem Chg.cell (h : Chg g w w') {p : Addr} (hp : p.block < w.heap.size) (hg : p.block ≠ g) : w'.cell? p = w.cell? p := World.cell?_of_block (w := w) (h.block p.block hp hg)
theorem Chg.frozen (h : Chg g w w') {p : Addr} (hp : p.block < w.heap.size) (hg : p.block ≠ g) : w'.frozen? p = w.frozen? p := World.frozen?_of_block (w := w) (h.block p.block hp hg)
end

/-- The slice s holds the number V in n words; or n is 0 and V is 0. -/
structure NatAt (w : World) (s : Value) (n V : Nat) : Prop where
  lt : V < 2 ^ (64 * n)
  le : n ≤ 2147483648
  at_ : (n = 0 ∧ ∃ a c, s = .slice a 0 c ∧ c ≤ 9223372036854775807) ∨ ∃ g o c, s = .slice (some ⟨g, o, none⟩) n c ∧ n ≤ c ∧ c ≤ 9223372036854775807 ∧ g < w.heap.size ∧ ∀ i, i < n → w.cell? ⟨g, o + i, none⟩ = some (.int .u64 (wd V i))
/-- The slice s holds n bytes, the highest first, of the number V. -/
structure ByAt (w : World) (s : Value) (n V : Nat) : Prop where
  lt : V < 2 ^ (8 * n)
  le : n ≤ 2147483648
  at_ : (n = 0 ∧ ∃ a c, s = .slice a 0 c ∧ c ≤ 9223372036854775807) ∨ ∃ g o c, s = .slice (some ⟨g, o, none⟩) n c ∧ n ≤ c ∧ c ≤ 9223372036854775807 ∧ g < w.heap.size ∧ ∀ i, i < n → w.cell? ⟨g, o + i, none⟩ = some (.int .u8 (dg V (n - 1 - i)))

theorem NatAt.below {w w' : World} {s : Value} {n V : Nat} (h : NatAt w s n V) (hb : Below w.heap.size w w') : NatAt w' s n V := by
  obtain ⟨h1, h2, h3⟩ := h
  refine ⟨h1, h2, ?_⟩
  rcases h3 with h3 | ⟨g, o, c, e, hc, hm, hg, hw⟩
  · exact .inl h3
  · exact .inr ⟨g, o, c, e, hc, hm, Nat.lt_of_lt_of_le hg hb.size, fun i hi => (hb.cell (p := ⟨g, o + i, none⟩) hg).trans (hw i hi)⟩
theorem ByAt.below {w w' : World} {s : Value} {n V : Nat} (h : ByAt w s n V) (hb : Below w.heap.size w w') : ByAt w' s n V := by
  obtain ⟨h1, h2, h3⟩ := h
  refine ⟨h1, h2, ?_⟩
  rcases h3 with h3 | ⟨g, o, c, e, hc, hm, hg, hw⟩
  · exact .inl h3
  · exact .inr ⟨g, o, c, e, hc, hm, Nat.lt_of_lt_of_le hg hb.size, fun i hi => (hb.cell (p := ⟨g, o + i, none⟩) hg).trans (hw i hi)⟩

/-- copy(d, s) onto a row: the cells that are copied are the source's then. -/
theorem wpList_copy_fn {P : Program} {w : World} {ops : Array Oper} {rest : List Oper} {o : Oper} {a : Act} {Q : Exit → Act → World → Prop} (hgd : o.guard = none) (d s : Operand) (dT sT : TypeId)
    (ho : o.op = .call { callee := .builtin .copy, args := #[d, s], argTypes := #[dT, sT] }) (elem : TypeId) (hu : P.underlying dT = some (.slice elem)) (hsz : (P.info? elem).map (·.size) = some 1)
    (g off dLen dCap sLen sCap : Nat) (sp : Option Addr) (hd : a.eval d = .slice (some ⟨g, off, none⟩) dLen dCap) (hs : a.eval s = .slice sp sLen sCap)
    (T N : Nat) (f src : Nat → Value) (hrow : Row w g T N f) (k : Nat) (hk : k = Nat.min sLen dLen)
    (hsrc : 0 < k → ∃ ad, sp = some ad ∧ ∀ j, j < k → w.cell? (ad.add j) = some (src j)) (hone : ∀ j, j < k → (src j).oneCell' = true) (hfit : off + k ≤ N)
    (h : ∀ w', Hid (Row w' g T N (fun j => if off ≤ j ∧ j < off + k then src (j - off) else f j)) → Hid (Chg g w w' ∧ w'.heap.size = w.heap.size) → wpList P ops Q rest (a.put o.dst (goInt k)) w') :
    wpList P ops Q (o :: rest) a w := by
  obtain ⟨cur, h1, h2, h3⟩ := hrow.ex
  by_cases h0 : k = 0
  · subst h0
    refine wpList_copy_nothing hgd d s dT sT ho elem hu hsz _ sp dLen dCap sLen sCap hd hs hk.symm ?_
    refine h w ?_ ⟨Chg.refl _ _, rfl⟩
    exact hrow.congr (fun i hi => by rw [if_neg (by omega)])
  · obtain ⟨ad, rfl, hsrc'⟩ := hsrc (by omega)
    have hl : ((List.range k).map src).length = Nat.min sLen dLen := by simpa using hk
    refine wpList_copy_own hgd d s dT sT ho elem hu hsz g off dLen dCap ad sLen sCap hd hs cur T h1 ((List.range k).map src) hl ?_ (by simpa [h2] using hfit) ?_ ?_
    · intro j v hj
      simp only [List.getElem?_map, Option.map_eq_some_iff] at hj
      obtain ⟨q, hq, rfl⟩ := hj
      have : j < k ∧ q = j := by
        by_cases e : j < k
        · simp [List.getElem?_range e] at hq; exact ⟨e, hq.symm⟩
        · simp [List.getElem?_eq_none (show (List.range k).length ≤ j by simp; omega)] at hq
      obtain ⟨hjk, rfl⟩ := this
      exact hsrc' _ hjk
    · intro v hv
      obtain ⟨j, hj, rfl⟩ := List.mem_map.1 hv
      exact hone j (by simpa using hj)
    · have hlen : ((List.range k).map src).length = k := by simp
      rw [hlen]
      refine h _ ?_ ?_
      · refine ⟨_, setRow_heap w g _ _ T _ h1, ?_, fun i hi => ?_⟩
        · simp; omega
        · simp only [List.getElem?_toArray]
          by_cases c1 : i < off
          · rw [List.getElem?_append_left (by simp; omega), List.getElem?_take_of_lt c1, if_neg (by omega)]
            simpa using h3 i hi
          · rw [List.getElem?_append_right (by simp; omega)]
            have ht : (List.take off cur.toList).length = off := by simp; omega
            rw [ht]
            by_cases c2 : i < off + k
            · rw [List.getElem?_append_left (by simp; omega), if_pos ⟨by omega, c2⟩]
              simp [List.getElem?_range (show i - off < k by omega)]
            · rw [List.getElem?_append_right (by simp; omega), if_neg (by omega), List.getElem?_drop]
              simp only [List.length_map, List.length_range]
              rw [show off + k + (i - off - k) = i from by omega]
              simpa using h3 i hi
      · refine ⟨⟨rfl, rfl, rfl, by simp, fun q _ hq => setRow_other w g q _ hq⟩, by simp⟩

theorem Row.setCells {g T n : Nat} (z : Value) (k : Nat) : ∀ (o : Nat) (w : World) (f : Nat → Value), Row w g T n f → Row (w.setCells g o (List.replicate k z)) g T n (fun j => if o ≤ j ∧ j < o + k then z else f j) ∧ Chg g w (w.setCells g o (List.replicate k z)) ∧ (w.setCells g o (List.replicate k z)).heap.size = w.heap.size := by
  induction k with
  | zero =>
    intro o w f h
    refine ⟨h.congr (fun i _ => by rw [if_neg (by omega)]), Chg.refl _ _, rfl⟩
  | succ k ih =>
    intro o w f h
    obtain ⟨h1, h2, h3⟩ := ih (o + 1) _ _ (h.set o z)
    simp only [List.replicate_succ, World.setCells]
    refine ⟨h1.congr (fun i _ => ?_), ((Chg.refl g w).set o z).trans h2, by rw [h3]; simp [World.setCell]⟩
    show (if o + 1 ≤ i ∧ i < o + 1 + k then z else if i = o then z else f i) = (if o ≤ i ∧ i < o + (k + 1) then z else f i)
    by_cases c : o ≤ i ∧ i < o + (k + 1)
    · rw [if_pos c]
      by_cases e : i = o
      · rw [if_neg (by omega), if_pos e]
      · rw [if_pos (by omega)]
    · rw [if_neg c, if_neg (by omega), if_neg (by omega)]

/-- clear(s), s on a row -/
theorem wpList_clear_fn {P : Program} {w : World} {ops : Array Oper} {rest : List Oper} {o : Oper} {a : Act} {Q : Exit → Act → World → Prop} (hgd : o.guard = none) (s : Operand) (sT : TypeId)
    (ho : o.op = .call { callee := .builtin .clear, args := #[s], argTypes := #[sT] }) (elem : TypeId) (hu : P.underlying sT = some (.slice elem)) (z : Value) (hv : ∀ w, (zeroValue elem).run P w = .ok z w) (hz : z.cells = #[z]) (h1 : z.oneCell' = true)
    (g off n c : Nat) (hs : a.eval s = .slice (some ⟨g, off, none⟩) n c)
    (T N : Nat) (f : Nat → Value) (hrow : Row w g T N f) (hfit : off + n ≤ N)
    (h : ∀ w', Hid (Row w' g T N (fun j => if off ≤ j ∧ j < off + n then z else f j)) → Hid (Chg g w w' ∧ w'.heap.size = w.heap.size) → wpList P ops Q rest (a.put o.dst (.tuple #[])) w') :
    wpList P ops Q (o :: rest) a w := by
  have hrun : (Builtin.clear_ #[sT] o.type #[.slice (some ⟨g, off, none⟩) n c]).run P w = .ok (.tuple #[]) (w.setCells g off (List.replicate n z)) := by
    by_cases h0 : n = 0
    · subst h0
      simp [Builtin.clear_, run_underlying hu, World.setCells]
    · exact Lib.run_clear_slice w sT elem o.type z hu hv hz h1 g off n c (by omega) (fun j hj => by rw [hrow.cell (by omega)]; rfl) (fun j hj => hrow.frozen _)
  obtain ⟨r1, r2, r3⟩ := Row.setCells z n off w f hrow
  refine wpList_plain hgd fun K hK => ?_
  unfold Oper.wp
  simp [execOp, ho, resolve, invoke, builtin, hs, hrun, Result.andThen]
  exact hK _ _ (h _ r1 ⟨r2, r3⟩)

section
variable {P : Program} (w : World)
theorem run_neq_ptr_same {tp te : TypeId} {j : TypeInfo} (a : Addr) (hp : P.underlying tp = some (.pointer te)) (hte : P.info? te = some j) :
    (binOp .neq tp (.pointer (some a)) (.pointer (some a))).run P w = .ok (.bool false) w := by
  have h : ∀ d : Nat, (Op.equalIn (d + 1) tp (.pointer (some a)) (.pointer (some a))).run P w = .ok true w := fun d => by
    simp [Op.equalIn, run_underlying hp, sizeOf, typeInfo, hte, run_sameAddr_same]
  simp only [binOp]
  simp [Op.equal, Op.maxDepth, h 9999]
theorem run_neq_ptr_other {tp te : TypeId} {j : TypeInfo} {a b : Addr} {ca cb : Array Value} {ta tb : TypeId} (hp : P.underlying tp = some (.pointer te)) (hte : P.info? te = some j) (hsz : j.size ≠ 0)
    (hne : a ≠ b) (ha : w.heap[a.block]? = some (.cells ca ta (0, 0))) (hb : w.heap[b.block]? = some (.cells cb tb (0, 0))) :
    (binOp .neq tp (.pointer (some a)) (.pointer (some b))).run P w = .ok (.bool true) w := by
  have h : ∀ d : Nat, (Op.equalIn (d + 1) tp (.pointer (some a)) (.pointer (some b))).run P w = .ok false w := fun d => by
    simp [Op.equalIn, run_underlying hp, sizeOf, typeInfo, hte, hsz, run_sameAddr_other w hne ha hb]
  simp only [binOp]
  simp [Op.equal, Op.maxDepth, h 9999]
end

end Go.Proofs.YtgohhebffcldeaaGreatDoor

/- append onto an empty slice that is not nil: a fresh row. No program in sight. -/
import Derived.Test.YtgohhebffcldeaaGreatDoorMem
import Derived.Laws.AppendOwn
set_option linter.unusedVariables false
set_option linter.unusedSimpArgs false
namespace Go.Proofs.YtgohhebffcldeaaGreatDoor
open Go.RowKit
open Num

theorem below_drewN {B n : Nat} {w w' : World} (h : Below B w w') : Below B w (w'.drewN n) := ⟨h.os, h.tape, h.output, h.size, h.block⟩
theorem heap2_0 (w : World) (A B : Obj) : ((w.alloc A).alloc B).heap[w.heap.size]? = some A := (heap_alloc_old _ _ (by simp)).trans (heap_alloc_new w A)
theorem heap2_1 (w : World) (A B : Obj) : ((w.alloc A).alloc B).heap[w.heap.size + 1]? = some B := by have := heap_alloc_new (w.alloc A) B; simpa using this
theorem heap3_0 (w : World) (A B C : Obj) : (((w.alloc A).alloc B).alloc C).heap[w.heap.size]? = some A := (heap_alloc_old _ _ (by simp; omega)).trans (heap2_0 w A B)
theorem heap3_1 (w : World) (A B C : Obj) : (((w.alloc A).alloc B).alloc C).heap[w.heap.size + 1]? = some B := (heap_alloc_old _ _ (by simp)).trans (heap2_1 w A B)
theorem heap3_2 (w : World) (A B C : Obj) : (((w.alloc A).alloc B).alloc C).heap[w.heap.size + 2]? = some C := by have := heap_alloc_new ((w.alloc A).alloc B) C; simpa using this

/-- v is a slice of m cells, in a block that is new since w, with the cells src -/
def Fresh (w w' : World) (v : Value) (m : Nat) (src : Nat → Value) (T : TypeId) : Prop :=
  Below w.heap.size w w' ∧ ((m = 0 ∧ ∃ a c, v = .slice a 0 c) ∨ (0 < m ∧ ∃ c N f, v = .slice (some ⟨w.heap.size, 0, none⟩) m c ∧ m ≤ c ∧ m ≤ N ∧ Row w' w.heap.size T N f ∧ ∀ j, j < m → f j = src j))

theorem Fresh.shape {w w' : World} {v : Value} {m : Nat} {src : Nat → Value} {T : TypeId} (h : Fresh w w' v m src T) : ∃ a c, v = .slice a m c := by
  rcases h.2 with ⟨rfl, a, c, rfl⟩ | ⟨h0, c, N, f, rfl, _⟩
  · exact ⟨a, c, rfl⟩
  · exact ⟨_, c, rfl⟩

theorem Fresh.new {w w' : World} {v : Value} {m : Nat} {src : Nat → Value} {T : TypeId} (h : Fresh w w' v m src T) : ∀ a k c, v = .slice (some a) k c → 0 < m → a.block = w.heap.size := by
  intro a k c e h0
  rcases h.2 with ⟨rfl, _⟩ | ⟨_, c, N, f, rfl, _⟩
  · omega
  · injection e with e; injection e with e; subst e; rfl

theorem run_append_fresh {P : Program} {w : World} (t ty : TypeId) (e : TypeId) (z : Value) (ht : P.underlying t = some (.slice e)) (hi : (P.info? e).map (fun i => (i.zero, i.size, i.bytes)) = some (some z, 1, 1)) (hz : z.cells = #[z])
    (B : Addr) (sp : Option Addr) (m c : Nat) (src : Nat → Value) (hm : m ≤ 1099511627776)
    (hsrc : 0 < m → ∃ ad, sp = some ad ∧ ∀ j, j < m → w.cell? (ad.add j) = some (src j)) :
    ∃ v' w', (Builtin.append_ #[t, t] ty #[.slice (some B) 0 0, .slice sp m c]).run P w = .ok v' w' ∧ Fresh w w' v' m src e := by
  obtain ⟨i, hi, hi2⟩ := Option.map_eq_some_iff.1 hi
  simp only [Prod.mk.injEq] at hi2
  obtain ⟨hz0, hsz, hby⟩ := hi2
  by_cases h0 : m = 0
  · subst h0
    refine ⟨.slice (some B) 0 0, w, ?_, Below.refl _ _, .inl ⟨rfl, _, _, rfl⟩⟩
    cases sp <;> simp [Builtin.append_, run_underlying ht, sizeOf, typeInfo, hi, Builtin.lenOf, Builtin.firstCells, loadCells, loadCellsFrom, storeCells]
  · obtain ⟨ad, rfl, hc⟩ := hsrc (by omega)
    have hr := run_append_grow (P := P) w t ty e i z ht hi hz0 B 0 0 [] (by simp) (by simp) ad m c ((List.range m).map src) (by simp [hsz]) (by
      intro j v hj
      simp only [List.getElem?_map, Option.map_eq_some_iff] at hj
      obtain ⟨q, hq, rfl⟩ := hj
      have hjm : j < m := by
        have := (List.getElem?_eq_some_iff.1 hq).1
        simpa using this
      rw [List.getElem?_range hjm] at hq
      injection hq with hq
      subst hq
      exact hc _ hjm) (by omega) (by omega) (growslice_fits (by omega) (by rw [hby]; omega))
    refine ⟨_, _, hr, ⟨rfl, rfl, rfl, by simp, fun k hk => heap_alloc_old w.drew _ hk⟩, .inr ⟨by omega, grownCap w (0 + m) 0 e, _, _, by rw [Nat.zero_add], ?_, ?_, Row.lit w.drew e _, fun j hj => ?_⟩⟩
    · have := grownCap_ge w (0 + m) 0 e
      omega
    · simp
    · have hj2 : j < ((List.range m).map src).length := by simpa using hj
      simp [Array.getD, hj, Array.getElem_append]
      intro hn
      omega

theorem wpList_append_fresh {P : Program} {w : World} {ops : Array Oper} {rest : List Oper} {o : Oper} {a : Act} {Q : Exit → Act → World → Prop} (hgd : o.guard = none) (s x : Operand) (t : TypeId)
    (ho : o.op = .call { callee := .builtin .append, args := #[s, x], argTypes := #[t, t] }) (e : TypeId) (z : Value) (ht : P.underlying t = some (.slice e)) (hi : (P.info? e).map (fun i => (i.zero, i.size, i.bytes)) = some (some z, 1, 1)) (hz : z.cells = #[z])
    (B : Addr) (hs : a.eval s = .slice (some B) 0 0) (sp : Option Addr) (m c : Nat) (hx : a.eval x = .slice sp m c) (src : Nat → Value) (hm : m ≤ 1099511627776)
    (hsrc : 0 < m → ∃ ad, sp = some ad ∧ ∀ j, j < m → w.cell? (ad.add j) = some (src j))
    (h : ∀ v' w', Hid (Fresh w w' v' m src e) → wpList P ops Q rest (a.put o.dst v') w') : wpList P ops Q (o :: rest) a w := by
  obtain ⟨v', w', hr, hf⟩ := run_append_fresh (P := P) (w := w) t o.type e z ht hi hz B sp m c src hm hsrc
  refine wpList_plain hgd fun K hK => ?_
  unfold Oper.wp execOp
  simp only [ho, resolve, invoke, builtin, Sem.run_bind, Sem.run_pure, Result.andThen_ok, List.map_toArray, List.map_cons, List.map_nil, hs, hx, hr]
  exact hK _ _ (h v' w' hf)

theorem step_append_fresh {P : Program} {w : World} {ops : Array Oper} {o : Oper} {a : Act} {K : Act → World → Prop} {Q : Exit → Act → World → Prop} {E : Prop} (hgd : o.guard = none) (s x : Operand) (t : TypeId)
    (ho : o.op = .call { callee := .builtin .append, args := #[s, x], argTypes := #[t, t] }) (e : TypeId) (z : Value) (ht : P.underlying t = some (.slice e)) (hi : (P.info? e).map (fun i => (i.zero, i.size, i.bytes)) = some (some z, 1, 1)) (hz : z.cells = #[z])
    (B : Addr) (hs : a.eval s = .slice (some B) 0 0) (sp : Option Addr) (m c : Nat) (hx : a.eval x = .slice sp m c) (src : Nat → Value) (hm : m ≤ 1099511627776)
    (hsrc : 0 < m → ∃ ad, sp = some ad ∧ ∀ j, j < m → w.cell? (ad.add j) = some (src j))
    (h : ∀ v' w', Hid (Fresh w w' v' m src e) → K (a.put o.dst v') w') :
    if Region.wanted o (yielded ops a.tmps) = true then Oper.wp P o a w K Q else E := by
  obtain ⟨v', w', hr, hf⟩ := run_append_fresh (P := P) (w := w) t o.type e z ht hi hz B sp m c src hm hsrc
  have hw : Region.wanted o (yielded ops a.tmps) = true := by simp [Region.wanted, hgd]
  rw [if_pos hw]
  unfold Oper.wp execOp
  simp only [ho, resolve, invoke, builtin, Sem.run_bind, Sem.run_pure, Result.andThen_ok, List.map_toArray, List.map_cons, List.map_nil, hs, hx, hr]
  exact h v' w' hf

end Go.Proofs.YtgohhebffcldeaaGreatDoor

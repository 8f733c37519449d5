/-
  The row's proof (its frame written by the kit's own program off its print for this function).
-/
import Derived.Test.YtgohhebffcldeaaGreatDoorRows
import Derived.Test.YtgohhebffcldeaaGreatDoorLawFmi
import Derived.Test.YtgohhebffcldeaaGreatDoorFactFmi
import Derived.WalkKit
import Derived.ProofKit
import Derived.OpenShut
import Derived.ShutString
import Derived.ChangeOld
import Derived.Below
import Derived.LaidLaws
import Derived.Handed
import Derived.Carry
namespace Go.Proofs.YtgohhebffcldeaaGreatDoor.fnMathInts
open Go.ChangeShapes Go.WideShapes Go.ChangeAt Go.RowKit Go.WideElems
open Go.ChangeMaps (open_string shut_string)
set_option linter.unusedVariables false

theorem own : ownKnob Tryz.prog.godebug = none := by kernel_rfl
theorem laidOut : laidOutB Tryz.prog = true := by kernel_rfl

/-- WHAT THE WALK IS TOLD OF A SLICE OF INTEGERS THAT CAME IN: it is nil; or it leads to a row of 'cap' cells, the numbers 'zs' (the first 'len' are its elements, the rest its spare room), each fitting its kind. -/
def IsRow (k : IntKind) (w : World) (a : Option Addr) (len cap : Nat) (zs : List Int) : Prop :=
  (a = none ∧ len = 0 ∧ cap = 0 ∧ zs = []) ∨
  ∃ x, a = some x ∧ len ≤ cap ∧ cap ≤ maxLen ∧ zs.length = cap ∧ (∀ i, i < zs.length → w.cell? (x.add i) = some (.int k (zs.getD i 0))) ∧ ∀ n ∈ zs, (Lit.int k n).wf = true

/-! ### STEP 1: THE WALK -/
theorem bytes_of {w : World} {a : Option Addr} {len cap : Nat} {z : List Int} (h : IsRow .u8 w a len cap z) : ∃ V, BytAt w (.slice a len cap) len V := by
  rcases h with ⟨rfl, rfl, rfl, _⟩ | ⟨x, rfl, hle, _, hz, hc, hw⟩
  · exact ⟨0, by simp, .inl ⟨rfl, none, 0, rfl⟩⟩
  · exact bytAt_of hle hz hc hw
theorem walk (a0 : Bool) (a1 : Option Addr) (len1 cap1 : Nat) (z1 : List Int) (a2 : Bool) (a3 : Option Addr) (len3 cap3 : Nat) (z3 : List Int) (w : World) (w1 : IsRow .u8 w a1 len1 cap1 z1) (w3 : IsRow .u8 w a3 len3 cap3 z3) :
    Calls Tryz.prog 3 #[.bool a0, .slice a1 len1 cap1, .bool a2, .slice a3 len3 cap3] w fun e w' => e = .returned (.bool true) ∧ Below w.heap.size w w' := by
  obtain ⟨X, hX⟩ := bytes_of w1
  obtain ⟨Y, hY⟩ := bytes_of w3
  exact fmi_any a0 a2 a1 a3 len1 cap1 len3 cap3 X Y w hX hY

/-! ### THE ROW's STEP: WRITTEN OUT: LEAVE IT -/
def rowedVars (P : Program) (ns : List String) : Bool := ns.all fun n => ((P.globalNamed n).bind (P.globals[·]?)).all fun gl => P.readableRec gl.type && decide (gl.type < P.types.size)
/-- the named variables read behind the call as they did -/
theorem carryVars {H : Type} {enc : TypeId × Value → H} {P : Program} (hl : laidOutB P = true) {W W' : World} (hb : Below W.heap.size W W') (ns : List String) : ∀ {gs : List (DataW H)} {ps : List MemPlace}, rowedVars P ns = true → DataW.TrodVars enc P W (fun _ => true) ns gs ps → DataW.TrodVars enc P W' (fun b => decide (b < W.heap.size)) ns gs ps := by
  induction ns with
  | nil =>
    intro gs ps _ h
    cases gs with
    | nil => exact h
    | cons g r => exact h.elim
  | cons n ns ih =>
    intro gs ps hv h
    cases gs with
    | nil => exact h.elim
    | cons d ds =>
      have hlt := h.lt
      obtain ⟨g, t, cs, fuel, p, q, h1, h2, h3, h4, hs, e⟩ := h
      simp only [rowedVars, List.all_cons, Bool.and_eq_true] at hv
      have ht : P.readableRec t = true ∧ t < P.types.size := by
        have hv1 := hv.1
        rw [h1] at hv1
        cases hg : P.globals[g]? with
        | none => rw [hg] at h2; cases h2
        | some gl =>
          rw [hg] at h2
          obtain rfl : gl.type = t := Option.some.inj h2
          simpa [hg] using hv1
      have hp : ∀ x ∈ p, x.block < W.heap.size := fun x hx => hlt x (by rw [e]; simp [hx])
      have hgl : g < W.heap.size := by
        unfold World.var? at h3
        rw [h1] at h3
        simp only [Option.bind_some] at h3
        cases hh : W.heap[g]? with
        | none => rw [hh] at h3; cases h3
        | some o => exact (Array.getElem?_eq_some_iff.1 hh).1
      have h3' : W'.var? P n = some cs := by
        unfold World.var? at h3 ⊢
        rw [h1] at h3 ⊢
        simp only [Option.bind_some] at h3 ⊢
        rw [hb.block g hgl]; exact h3
      exact ⟨g, t, cs, fuel, p, q, h1, h2, h3', DataW.trod_stays (kids_book hl ht.1) (book_sized ht.1) (fun h => by cases h) ⟨ht.2, book_self t⟩ h4 (fun x hx => hb.same (hp x hx)) (fun x hx => by simpa using hp x hx), ih (by simpa [rowedVars] using hv.2) hs, e⟩

theorem four {H : Type} {enc : TypeId × Value → H} {P : Program} {w : World} {sp : Nat → Bool} {a b c d : String} {gs : List (DataW H)} {ps : List MemPlace} (h : DataW.TrodVars enc P w sp [a, b, c, d] gs ps) : ∃ g1 g2 g3 g4, gs = [g1, g2, g3, g4] := by
  cases gs with
  | nil => exact h.elim
  | cons g1 r1 =>
    obtain ⟨_, _, _, _, _, _, _, _, _, _, h, _⟩ := h
    cases r1 with
    | nil => exact h.elim
    | cons g2 r2 =>
      obtain ⟨_, _, _, _, _, _, _, _, _, _, h, _⟩ := h
      cases r2 with
      | nil => exact h.elim
      | cons g3 r3 =>
        obtain ⟨_, _, _, _, _, _, _, _, _, _, h, _⟩ := h
        cases r3 with
        | nil => exact h.elim
        | cons g4 r4 =>
          obtain ⟨_, _, _, _, _, _, _, _, _, _, h, _⟩ := h
          cases r4 with
          | nil => exact ⟨g1, g2, g3, g4, rfl⟩
          | cons g5 r5 => exact h.elim

/-- The settled world, the listed variables laid. -/
noncomputable def laidWorld (os : Os) : World :=
  let w0 := World.holding Tryz.prog os ⟨#[], #[], []⟩
  let put (h : Array Obj) (k : Nat) (v : Int) : Array Obj := h.modify k fun
      | .cells _ t frozen => .cells #[.int .i64 v] t frozen
      | o => o
  { w0 with heap := put (put (put (put w0.heap 3 40) 2 40) 4 12) 5 80 }
theorem laid_met (os : Os) (args : Array Value) : laidMet Tryz.prog Rows.fnMathIntsRow.laid ((laidWorld os).forCall (fun _ _ => 0) ⟨#[], args, []⟩).memory :=
  laidMet_of_run (ps := [.cell 3 0, .cell 2 0, .cell 4 0, .cell 5 0]) 8 (by kernel_rfl) (by kernel_rfl) (by kernel_rfl)

set_option maxRecDepth 100000 in
theorem lifted (os : Os) (started : os.Started) (H : Type) (enc : TypeId × Value → H) :
    ReturnsInHanded {} Tryz.checked os 3 .any (fun w args => (Rows.fnMathIntsSpec.pre enc Tryz.prog Tryz.f3 Rows.fnMathIntsRow.domain false w args ∧ laidMet Tryz.prog Rows.fnMathIntsRow.laid w) ∧ sizedMet enc Tryz.prog Tryz.f3 (OpenSpec.ofChange Rows.fnMathIntsSpec) false w args)
      (Rows.fnMathIntsSpec.post enc Tryz.prog Tryz.f3 false true false false) := by
  refine returnsInHanded_of_change_and (C := Tryz.checked) (X := fun w _ => laidMet Tryz.prog Rows.fnMathIntsRow.laid w) (fun _ _ _ hh h => h.of_heap hh) own started (by kernel_rfl) Tryz.func3
    (ChangeSpec.witness_at (enc := enc) (C := Tryz.checked) (os := os) (X := fun w _ => laidMet Tryz.prog Rows.fnMathIntsRow.laid w) false (laidWorld os) #[.bool false, .slice none 0 0, .bool false, .slice none 0 0] 8 rfl (by kernel_rfl) (by kernel_rfl) (by kernel_rfl) (by kernel_rfl) (by kernel_rfl) (laid_met os _)) ?_
  intro W base args ds gs before hval0 hW hcnd _ hL _
  have hval : ∀ (j : Nat) t v, Tryz.f3.params[j]? = some t → args[j]? = some v → Value.okWide Tryz.prog W .any base t v := hval0
  have hW' := hW
  obtain ⟨p, q, hA0, hV, rfl, hfz, hnd⟩ := hW
  have hA : DataW.TrodAll enc Tryz.prog W 0 (fun _ => true) true Tryz.f3.params.toList args.toList ds p := hA0
  rw [Tryz.params3] at hA hval
  obtain ⟨v0, vs0, d0, ds0, p0, q0, hargs, rfl, rfl, h0, r0⟩ := trodAll_cons hA
  obtain ⟨v1, vs1, d1, ds1, p1, q1, rfl, rfl, rfl, h1, r1⟩ := trodAll_cons r0
  obtain ⟨v2, vs2, d2, ds2, p2, q2, rfl, rfl, rfl, h2, r2⟩ := trodAll_cons r1
  obtain ⟨v3, vs3, d3, ds3, p3, q3, rfl, rfl, rfl, h3, r3⟩ := trodAll_cons r2
  obtain ⟨rfl, rfl, rfl⟩ := trodAll_nil r3
  obtain rfl : args = #[v0, v1, v2, v3] := by cases args; simp_all
  obtain ⟨g1, g2, g3, g4, rfl⟩ := four hV
  obtain ⟨a0, rfl, rfl, rfl⟩ := open_bool Tryz.underlying4 (hval 0 4 v0 rfl rfl) h0
  obtain ⟨a1, len1, cap1, rfl⟩ := okWide_slice Tryz.underlying22 (hval 1 22 v1 rfl rfl)
  have k1 := h1
  have lt1 : ∀ x ∈ p1, x.block < W.heap.size := by obtain ⟨m, hm⟩ := k1; exact DataW.trod_lt m _ _ _ hm
  obtain ⟨z1, w1⟩ : ∃ zs, IsRow .u8 W a1 len1 cap1 zs := by
    obtain ⟨fuel, hf⟩ := h1
    rcases open_ints Tryz.underlying22 Tryz.underlying5 (by kernel_rfl) hf with ⟨hcs, _⟩ | ⟨x, l, c, zs, hcs, _, hl, hm, hz, _, hcell, hwz⟩
    · simp [Value.cells] at hcs
      obtain ⟨rfl, rfl, rfl⟩ := hcs
      exact ⟨[], .inl ⟨rfl, rfl, rfl, rfl⟩⟩
    · simp [Value.cells] at hcs
      obtain ⟨rfl, rfl, rfl⟩ := hcs
      exact ⟨zs, .inr ⟨_, rfl, hl, hm, by simpa using hz, hcell, hwz⟩⟩
  obtain ⟨a2, rfl, rfl, rfl⟩ := open_bool Tryz.underlying4 (hval 2 4 v2 rfl rfl) h2
  obtain ⟨a3, len3, cap3, rfl⟩ := okWide_slice Tryz.underlying22 (hval 3 22 v3 rfl rfl)
  have k3 := h3
  have lt3 : ∀ x ∈ p3, x.block < W.heap.size := by obtain ⟨m, hm⟩ := k3; exact DataW.trod_lt m _ _ _ hm
  obtain ⟨z3, w3⟩ : ∃ zs, IsRow .u8 W a3 len3 cap3 zs := by
    obtain ⟨fuel, hf⟩ := h3
    rcases open_ints Tryz.underlying22 Tryz.underlying5 (by kernel_rfl) hf with ⟨hcs, _⟩ | ⟨x, l, c, zs, hcs, _, hl, hm, hz, _, hcell, hwz⟩
    · simp [Value.cells] at hcs
      obtain ⟨rfl, rfl, rfl⟩ := hcs
      exact ⟨[], .inl ⟨rfl, rfl, rfl, rfl⟩⟩
    · simp [Value.cells] at hcs
      obtain ⟨rfl, rfl, rfl⟩ := hcs
      exact ⟨zs, .inr ⟨_, rfl, hl, hm, by simpa using hz, hcell, hwz⟩⟩
  clear hA0 hval0
  refine (walk a0 a1 len1 cap1 z1 a2 a3 len3 cap3 z3 W w1 w3).mono fun e W' ⟨he, bel⟩ => ?_
  subst he
  exact ⟨_, rfl, _, _, _, _, _, _, hW', trodAll_mk1 (shut_bool Tryz.underlying4 _), (trodAll_cons_mk (shut_bool Tryz.underlying4 _) (trodAll_cons_mk (Below.trod laidOut (by kernel_rfl) (of_decide_eq_true (by kernel_rfl)) k1 bel lt1) (trodAll_cons_mk (shut_bool Tryz.underlying4 _) (trodAll_cons_mk (Below.trod laidOut (by kernel_rfl) (of_decide_eq_true (by kernel_rfl)) k3 bel lt3) trodAll_mk0)))), carryVars laidOut bel _ (by kernel_rfl) hV, bel.frame _, fun h => by cases h⟩

theorem over : Rows.fnMathIntsRow.holds Tryz.pinned (OpenSpec.ofChange Rows.fnMathIntsSpec) :=
  OpenClaim.holds_of_wide 3 Tryz.f3 rfl rfl rfl rfl rfl rfl rfl ⟨rfl, rfl, rfl, rfl, rfl⟩ rfl rfl rfl rfl rfl (by as_aux_lemma => kernel_rfl) Tryz.func3 closed
    (of_decide_eq_true (by kernel_rfl)) (by unfold Func.isWrapper; first | (rw [if_pos (by decide +kernel)]; kernel_rfl) | (rw [if_neg (by decide +kernel)]; exact ⟨rfl, rfl⟩))
    (fun os started H enc _ => lifted os started H enc)

/-- ████ THE STATEMENT ████ -/
theorem proved : Rows.FnMathIntsSaid := over
#print axioms proved
end Go.Proofs.YtgohhebffcldeaaGreatDoor.fnMathInts

import Derived.Test.YtpcleebnfgnhdaaGreatDoorRows
import Derived.Test.YtpcleebnfgnhdaaGreatDoorGz30
import Derived.Test.YtpcleebnfgnhdaaGreatDoorGz47
import Derived.Test.YtpcleebnfgnhdaaGreatDoorGz48
import Derived.WalkKit
import Derived.ProofKit
import Derived.OpenShut
import Derived.ShutString
import Derived.ChangeOld
import Derived.Below
import Derived.LaidLaws
import Derived.Handed
import Derived.Carry
/-
  The row's proof (its frame written by the kit's own program off its print for this function).
-/
namespace Go.Proofs.YtpcleebnfgnhdaaGreatDoor.fnGraphHash
open Go.ChangeShapes Go.WideShapes Go.ChangeAt Go.RowKit Go.WideElems
open Go.ChangeMaps (open_string shut_string)
set_option linter.unusedVariables false

theorem own : ownKnob Tryz.prog.godebug = none := by kernel_rfl
theorem laidOut : laidOutB Tryz.prog = true := by kernel_rfl

/-! ### STEP 1: THE WALK: 'FnGraphHash_any' (LawFgh) -/
/-- what is laid: the two variables that the walk reads -/
theorem cells_of_laid {W : World} (h : laidMet Tryz.prog Rows.fnGraphHashRow.laid W) : KT W ∧ CL W := by
  have n2 : Tryz.prog.globalNamed "given.example/pub-larkspur/pub/bigall.karatsubaThreshold" = some 2 := by kernel_rfl
  have n5 : Tryz.prog.globalNamed "given.example/pub-larkspur/pub/starlark/starlark.CompareLimit" = some 1 := by kernel_rfl
  have t2 : Tryz.prog.globals[2]?.map (·.type) = some 3 := by kernel_rfl
  have t5 : Tryz.prog.globals[1]?.map (·.type) = some 3 := by kernel_rfl
  obtain ⟨ps, ⟨_, _, _, _, _, _, _, _, _, _, ⟨g2, u2, cs2, f2, p2, q2, hg2, ht2, hv2, hd2, ⟨_, _, _, _, _, _, _, _, _, _, ⟨_, _, _, _, _, _, _, _, _, _, ⟨g5, u5, cs5, f5, p5, q5, hg5, ht5, hv5, hd5, _, _⟩, _⟩, _⟩, _⟩, _⟩, _⟩ := h
  refine ⟨?_, ?_⟩
  · obtain rfl := Option.some.inj (n2.symm.trans hg2)
    obtain rfl := Option.some.inj (t2.symm.trans ht2)
    obtain ⟨s, hcs, hx, _⟩ := DataW.trod_int Tryz.underlying3 hd2
    obtain ⟨hs, _⟩ := Prod.mk.inj hx
    obtain rfl : (40 : Int) = s := by simpa [Rows.laid_given_example_pub_larkspur_pub_bigall_karatsubaThreshold] using hs
    obtain rfl : cs2 = #[.int .i64 40] := by
      obtain ⟨l⟩ := cs2
      simp only at hcs
      rw [hcs]
    have := World.var?_cell hg2 hv2 0
    simpa [KT] using this
  · obtain rfl := Option.some.inj (n5.symm.trans hg5)
    obtain rfl := Option.some.inj (t5.symm.trans ht5)
    obtain ⟨s, hcs, hx, _⟩ := DataW.trod_int Tryz.underlying3 hd5
    obtain ⟨hs, _⟩ := Prod.mk.inj hx
    obtain rfl : (10 : Int) = s := by simpa [Rows.laid_given_example_pub_larkspur_pub_starlark_starlark_CompareLimit] using hs
    obtain rfl : cs5 = #[.int .i64 10] := by
      obtain ⟨l⟩ := cs5
      simp only at hcs
      rw [hcs]
    have := World.var?_cell hg5 hv5 0
    simpa [CL] using this

/-! ### THE ROW's STEP: WRITTEN OUT: LEAVE IT -/
def rowedVars (P : Program) (ns : List String) : Bool := ns.all fun n => ((P.globalNamed n).bind (P.globals[·]?)).all fun gl => P.readableRec gl.type && decide (gl.type < P.types.size)
/-- the named variables read behind the call as they did -/
theorem carryVars {H : Type} {enc : TypeId × Value → H} {P : Program} (hl : laidOutB P = true) {W W' : World} (hb : Below W.heap.size W W') (ns : List String) : ∀ {gs : List (DataW H)} {ps : List MemPlace}, rowedVars P ns = true → DataW.TrodVars enc P W (fun _ => true) ns gs ps → DataW.TrodVars enc P W' (fun b => decide (b < W.heap.size)) ns gs ps := by
  induction ns with
  | nil =>
    intro gs ps _ h
    cases gs with
    | nil => exact h
    | cons g r => exact h.elim
  | cons n ns ih =>
    intro gs ps hv h
    cases gs with
    | nil => exact h.elim
    | cons d ds =>
      have hlt := h.lt
      obtain ⟨g, t, cs, fuel, p, q, h1, h2, h3, h4, hs, e⟩ := h
      simp only [rowedVars, List.all_cons, Bool.and_eq_true] at hv
      have ht : P.readableRec t = true ∧ t < P.types.size := by
        have hv1 := hv.1
        rw [h1] at hv1
        cases hg : P.globals[g]? with
        | none => rw [hg] at h2; cases h2
        | some gl =>
          rw [hg] at h2
          obtain rfl : gl.type = t := Option.some.inj h2
          simpa [hg] using hv1
      have hp : ∀ x ∈ p, x.block < W.heap.size := fun x hx => hlt x (by rw [e]; simp [hx])
      have hgl : g < W.heap.size := by
        unfold World.var? at h3
        rw [h1] at h3
        simp only [Option.bind_some] at h3
        cases hh : W.heap[g]? with
        | none => rw [hh] at h3; cases h3
        | some o => exact (Array.getElem?_eq_some_iff.1 hh).1
      have h3' : W'.var? P n = some cs := by
        unfold World.var? at h3 ⊢
        rw [h1] at h3 ⊢
        simp only [Option.bind_some] at h3 ⊢
        rw [hb.block g hgl]; exact h3
      exact ⟨g, t, cs, fuel, p, q, h1, h2, h3', DataW.trod_stays (kids_book hl ht.1) (book_sized ht.1) (fun h => by cases h) ⟨ht.2, book_self t⟩ h4 (fun x hx => hb.same (hp x hx)) (fun x hx => by simpa using hp x hx), ih (by simpa [rowedVars] using hv.2) hs, e⟩

theorem five {H : Type} {enc : TypeId × Value → H} {P : Program} {w : World} {sp : Nat → Bool} {a b c d e : String} {gs : List (DataW H)} {ps : List MemPlace} (h : DataW.TrodVars enc P w sp [a, b, c, d, e] gs ps) : ∃ g1 g2 g3 g4 g5, gs = [g1, g2, g3, g4, g5] := by
  cases gs with
  | nil => exact h.elim
  | cons g1 r1 =>
    obtain ⟨_, _, _, _, _, _, _, _, _, _, h, _⟩ := h
    cases r1 with
    | nil => exact h.elim
    | cons g2 r2 =>
      obtain ⟨_, _, _, _, _, _, _, _, _, _, h, _⟩ := h
      cases r2 with
      | nil => exact h.elim
      | cons g3 r3 =>
        obtain ⟨_, _, _, _, _, _, _, _, _, _, h, _⟩ := h
        cases r3 with
        | nil => exact h.elim
        | cons g4 r4 =>
          obtain ⟨_, _, _, _, _, _, _, _, _, _, h, _⟩ := h
          cases r4 with
          | nil => exact h.elim
          | cons g5 r5 =>
            obtain ⟨_, _, _, _, _, _, _, _, _, _, h, _⟩ := h
            cases r5 with
            | nil => exact ⟨g1, g2, g3, g4, g5, rfl⟩
            | cons g6 r6 => exact h.elim

theorem raw_in {H : Type} {enc : TypeId × Value → H} {W : World} {cs : Array Value} {x : DataW H × List MemPlace} (h0 : ∃ fuel, DataW.trod enc Tryz.prog W 0 (fun _ => true) true fuel 24 (Value.agg cs).cells.toList = some x) : ∃ gs root, Value.agg cs = .agg #[gs, .int .i64 root] ∧ RawNds W gs ∧ (-9223372036854775808 ≤ root ∧ root ≤ 9223372036854775807) := by
  obtain ⟨fuel, hf⟩ := h0
  obtain ⟨gs, root, hcs, hr, hb⟩ := rawG_of fuel _ _ hf
  refine ⟨gs, root, ?_, hr, hb⟩
  obtain ⟨l⟩ := cs
  simp [Value.cells] at hcs
  rw [hcs]

/-- The settled world, the listed variables laid. -/
noncomputable def laidWorld (os : Os) : World :=
  let w0 := World.holding Tryz.prog os ⟨#[], #[], []⟩
  let put (h : Array Obj) (k : Nat) (v : Int) : Array Obj := h.modify k fun
      | .cells _ t frozen => .cells #[.int .i64 v] t frozen
      | o => o
  { w0 with heap := put (put (put (put (put w0.heap 1 10) 3 40) 2 40) 4 12) 5 80 }
theorem laid_met (os : Os) (args : Array Value) : laidMet Tryz.prog Rows.fnGraphHashRow.laid ((laidWorld os).forCall (fun _ _ => 0) ⟨#[], args, []⟩).memory :=
  laidMet_of_run (ps := [.cell 3 0, .cell 2 0, .cell 4 0, .cell 5 0, .cell 1 0]) 8 (by kernel_rfl) (by kernel_rfl) (by kernel_rfl)

set_option maxRecDepth 100000 in
theorem lifted (os : Os) (started : os.Started) (H : Type) (enc : TypeId × Value → H) :
    ReturnsInHanded {} Tryz.checked os 3 .any (fun w args => (Rows.fnGraphHashSpec.pre enc Tryz.prog Tryz.f3 Rows.fnGraphHashRow.domain false w args ∧ laidMet Tryz.prog Rows.fnGraphHashRow.laid w) ∧ sizedMet enc Tryz.prog Tryz.f3 (OpenSpec.ofChange Rows.fnGraphHashSpec) false w args)
      (Rows.fnGraphHashSpec.post enc Tryz.prog Tryz.f3 false true false false) := by
  refine returnsInHanded_of_change_and (C := Tryz.checked) (X := fun w _ => laidMet Tryz.prog Rows.fnGraphHashRow.laid w) (fun _ _ _ hh h => h.of_heap hh) own started (by kernel_rfl) Tryz.func3
    (ChangeSpec.witness_at (enc := enc) (C := Tryz.checked) (os := os) (X := fun w _ => laidMet Tryz.prog Rows.fnGraphHashRow.laid w) false (laidWorld os) #[.agg #[.slice none 0 0, .int .i64 0]] 8 rfl (by kernel_rfl) (by kernel_rfl) (by kernel_rfl) (by kernel_rfl) (by kernel_rfl) (laid_met os _)) ?_
  intro W base args ds gs before hval0 hW hcnd _ hL _
  have hval : ∀ (j : Nat) t v, Tryz.f3.params[j]? = some t → args[j]? = some v → Value.okWide Tryz.prog W .any base t v := hval0
  have hW' := hW
  obtain ⟨p, q, hA0, hV, rfl, hfz, hnd⟩ := hW
  have hA : DataW.TrodAll enc Tryz.prog W 0 (fun _ => true) true Tryz.f3.params.toList args.toList ds p := hA0
  rw [Tryz.params3] at hA hval
  obtain ⟨v0, vs0, d0, ds0, p0, q0, hargs, rfl, rfl, h0, r0⟩ := trodAll_cons hA
  obtain ⟨rfl, rfl, rfl⟩ := trodAll_nil r0
  obtain rfl : args = #[v0] := by cases args; simp_all
  obtain ⟨g1, g2, g3, g4, g5, rfl⟩ := five hV
  obtain ⟨cs, rfl, hsz⟩ := okWide_struct Tryz.underlying24 (hval 0 24 v0 rfl rfl)
  have k0 := h0
  have lt0 : ∀ x ∈ p0, x.block < W.heap.size := by obtain ⟨m, hm⟩ := k0; exact DataW.trod_lt m _ _ _ hm
  obtain ⟨gs, root, hcs, w0, hrb⟩ := raw_in h0
  obtain ⟨hkt, hcl⟩ := cells_of_laid hL
  clear hA0 hval0
  refine Calls.mono (R := fun e w' => e = .returned (.bool true) ∧ Below W.heap.size W w') (by rw [hcs]; exact FnGraphHash_any gs root W hkt hcl w0 hrb) fun e W' ⟨he, bel⟩ => ?_
  subst he
  exact ⟨_, rfl, _, _, _, _, _, _, hW', trodAll_mk1 (shut_bool Tryz.underlying4 _), (trodAll_cons_mk (Below.trod laidOut (by kernel_rfl) (of_decide_eq_true (by kernel_rfl)) k0 bel lt0) trodAll_mk0), carryVars laidOut bel _ (by kernel_rfl) hV, bel.frame _, fun h => by cases h⟩

theorem over : Rows.fnGraphHashRow.holds Tryz.pinned (OpenSpec.ofChange Rows.fnGraphHashSpec) :=
  OpenClaim.holds_of_wide 3 Tryz.f3 rfl rfl rfl rfl rfl rfl rfl ⟨rfl, rfl, rfl, rfl, rfl⟩ rfl rfl rfl rfl rfl (by as_aux_lemma => kernel_rfl) Tryz.func3 closed
    (of_decide_eq_true (by kernel_rfl)) (by unfold Func.isWrapper; first | (rw [if_pos (by decide +kernel)]; kernel_rfl) | (rw [if_neg (by decide +kernel)]; exact ⟨rfl, rfl⟩))
    (fun os started H enc _ => lifted os started H enc)

/-- ████ THE STATEMENT ████ -/
theorem proved : Rows.FnGraphHashSaid := over
#print axioms proved
end Go.Proofs.YtpcleebnfgnhdaaGreatDoor.fnGraphHash

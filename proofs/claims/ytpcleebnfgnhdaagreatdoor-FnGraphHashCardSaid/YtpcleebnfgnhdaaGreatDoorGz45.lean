import Derived.Test.YtpcleebnfgnhdaaGreatDoorGz39
/- Walk: cleanNode's round of dicts and sets. -/
set_option linter.unusedVariables false
set_option linter.unusedSimpArgs false
namespace Go.Proofs.YtpcleebnfgnhdaaGreatDoor
open Go.RowKit
open Num

/-- a function's first loop: its body -/
def firstLoop : Code → Option Code
  | .loop c => some c
  | .seq a b => match firstLoop a with
    | some c => some c
    | none => firstLoop b
  | .block _ c => firstLoop c
  | .scope c => firstLoop c
  | .cond _ a b => match firstLoop a with
    | some c => some c
    | none => firstLoop b
  | _ => none
noncomputable def cndBody : Code := (Tryz.f17.body.bind firstLoop).getD .skip

set_option maxRecDepth 100000 in
set_option maxHeartbeats 8000000 in
theorem cnd_keys {k : Int} {n : Bool} {a : Option Addr} {m c : Nat} {b : Int} {s : ByteArray} {a2 : Option Addr} {m2 c2 : Nat} {root : Int} {N : List Nd} {S : Nat → Prop} {i nn : Nat} {w w1 wc w2 wr : World} {sa : Option Addr} {sc bv : Nat} {kd : Int} {vn : Bool} {va : Option Addr} {vm vc : Nat} {vb : Int} {vs : ByteArray} {vd : Option Addr} {vo vf j : Nat} {l : List Nat} {ts : List Tr} {es : List (Value × Tr)} {ka : Option Addr} {kc : Nat} {K0 : Act → World → Prop}
    {u11 u13 u14 u15 u16 u17 u18 u19 u20 u21 u22 u23 u24 u25 u26 u27 u28 u29 u30 u31 u32 u44 u45 u46 u47 u48 u49 u50 u51 u52 u53 u54 u55 u56 u57 u58 u59 u60 u61 u62 u63 u64 u65 u66 u67 u68 u69 u70 u71 u72 u73 u74 u75 u76 u77 u78 u79 u80 u81 u82 u83 u84 u85 u86 u87 u88 u89 u90 u91 u92 u93 u94 u95 u96 u97 u98 u99 u100 u101 u102 u103 u104 u105 u106 u107 u108 u109 u110 u111 u112 u113 u114 u115 u116 u117 u118 u119 u120 u121 u122 u123 u124 u125 u126 u127 u128 u129 u130 u131 u132 u133 u134 u135 u136 u137 u138 u139 u140 u141 u142 u143 u144 u145 u146 u147 u148 u149 u150 u151 u152 u153 u154 u155 u156 u157 u158 u159 u160 u161 u162 u163 u164 u165 u166 u167 u168 u169 : Value}
    (hn : N.length ≤ 1000) (hi : i < nn) (hnn : nn ≤ 1000)
    (HW1 : Hid (w1 = ((w.alloc (.cells #[.int .i64 k, .bool n, .slice a m c, .int .u64 b, .string s, .slice a2 m2 c2] 48)).alloc (.cells #[.slice sa N.length sc, .int .i64 root] 24)).alloc (.cells #[.int .i64 0, .bool false, .slice none 0 0, .int .u64 0, .string ⟨#[]⟩, .slice none 0 0] 48)))
    (HB1 : Hid (Below w.heap.size w w1)) (HSZ1 : Hid (w1.heap.size = w.heap.size + 3)) (HX : Hid (RawNd w (sixV k n a m c b s a2 m2 c2))) (HG : Hid (GrB w S (.slice sa N.length sc) N)) (HS : Hid (∀ b, S b → b < w.heap.size))
    (HNK : Hid (∀ x ∈ N, x.ks.length ≤ 8 ∧ (∀ k ∈ x.ks, k ≤ 1000000) ∧ (x.T.kind < 6 → x.ks = [])))
    (HRV : Hid (wc.heap[bv]? = some (sixO kd vn va vm vc vb vs vd vo vf))) (HBW : Hid (Below w1.heap.size w1 wc)) (HBV : Hid (w1.heap.size ≤ bv)) (HB2 : Hid (Below wc.heap.size wc w2)) (HS2 : Hid (w2.heap.size = wc.heap.size + 1))
    (o5 : wr.cell? ⟨wc.heap.size, 5, none⟩ = some (.slice ka l.length kc)) (x5 : wr.cell? ⟨w.heap.size, 5, none⟩ = some (.slice a2 m2 c2)) (z0 : wr.cell? ⟨bv, 0, none⟩ = some (.int .i64 kd))
    (HNO : Hid (NumOwn w2.heap.size wc.heap.size (.int .i64 kd) (.bool vn) (.slice va vm vc) (.int .u64 vb) (.string vs) l (.slice ka l.length kc) wr))
    (HOWN : Hid (OwnE w2.heap.size (fun b => (S b ∨ w2.heap.size ≤ b) ∧ (Value.slice ka l.length kc).ownBlock ≠ some b) wr 10 u11 es))
    (HES : Hid (es.map (·.2) = ts)) (HDIS : Hid (∀ b, u11.ownBlock = some b → (Value.slice ka l.length kc).ownBlock ≠ some b)) (HCH : Hid (Chg wc.heap.size w2 wr)) (HKI : Hid (KInv N kd i nn l ts))
    (he1 : j < m2) (he2 : j < 32) (he3 : l.length < 8) (l1 : (j : Int) < (m2 : Int)) (l2 : (j : Int) < 32) (l3 : (l.length : Int) < 8) (e6 : (kd == 6) = false) (e7 : (kd == 7) = false) (hkd9 : kd = 8 ∨ kd = 9) :
    Code.wp Tryz.prog cndBody (Exit.then (fun a' w' => (∃ u11 u12 u13 u14 u15 u44 u45 u46 u47 u48 u49 u50 u51 u52 u53 u54 u55 u56 u57 u58 u59 u60 u61 u62 u63 u64 u65 u66 u67 u68 u69 u70 u71 u72 u73 u74 u75 u76 u77 u78 u79 u80 u81 u82 u83 u84 u85 u86 u87 u88 u89 u90 u91 u92 u93 u94 u95 u96 u97 u98 u99 u100 u101 u102 u103 u104 u105 u106 u107 u108 u109 u110 u111 u112 u113 u114 u115 u116 u117 u118 u119 u120 u121 u122 u123 u124 u125 u126 u127 u128 u129 u130 u131 u132 u133 u134 u135 u136 u137 u138 u139 u140 u141 u142 u143 u144 u145 u146 u147 u148 u149 u150 u151 u152 u153 u154 u155 u156 u157 u158 u159 u160 u161 u162 u163 u164 u165 u166 u167 u168 u169, (∃ j, u12 = Value.int IntKind.i64 (j : Nat) ∧ CndAt N S kd vn va vm vc vb vs i nn m2 (wc.heap.size) w2 j u11 w') ∧ a' = { tmps := #[sixV k n a m c b s a2 m2 c2, Value.agg #[Value.slice sa (N.length) sc, Value.int IntKind.i64 root], Value.int IntKind.i64 (i : Nat), Value.int IntKind.i64 (nn : Nat), Value.pointer (some ⟨w.heap.size, 0, none⟩), Value.pointer (some ⟨w.heap.size + 1, 0, none⟩), undef, undef, Value.pointer (some ⟨w.heap.size + 1 + 1, 0, none⟩), Value.pointer (some ⟨bv, 0, none⟩), Value.pointer (some ⟨wc.heap.size, 0, none⟩), u11, u12, u13, u14, u15, u16, u17, u18, u19, u20, u21, u22, u23, u24, u25, u26, u27, u28, u29, u30, u31, u32, Value.pointer (some ⟨bv, 0, none⟩), Value.int IntKind.i64 kd, Value.pointer (some ⟨bv, 1, none⟩), Value.bool vn, Value.pointer (some ⟨bv, 2, none⟩), Value.slice va vm vc, Value.pointer (some ⟨bv, 3, none⟩), Value.int IntKind.u64 vb, Value.pointer (some ⟨bv, 4, none⟩), Value.string vs, Value.agg #[Value.int IntKind.i64 kd, Value.bool vn, Value.slice va vm vc, Value.int IntKind.u64 vb, Value.string vs, Value.slice none 0 0], u44, u45, u46, u47, u48, u49, u50, u51, u52, u53, u54, u55, u56, u57, u58, u59, u60, u61, u62, u63, u64, u65, u66, u67, u68, u69, u70, u71, u72, u73, u74, u75, u76, u77, u78, u79, u80, u81, u82, u83, u84, u85, u86, u87, u88, u89, u90, u91, u92, u93, u94, u95, u96, u97, u98, u99, u100, u101, u102, u103, u104, u105, u106, u107, u108, u109, u110, u111, u112, u113, u114, u115, u116, u117, u118, u119, u120, u121, u122, u123, u124, u125, u126, u127, u128, u129, u130, u131, u132, u133, u134, u135, u136, u137, u138, u139, u140, u141, u142, u143, u144, u145, u146, u147, u148, u149, u150, u151, u152, u153, u154, u155, u156, u157, u158, u159, u160, u161, u162, u163, u164, u165, u166, u167, u168, u169, undef], defers := [] }) ∧ 40 - Int.toNat (intOf (Array.getD (Act.tmps a') 12 undef)) < 40 - Int.toNat (intOf (Array.getD #[sixV k n a m c b s a2 m2 c2, Value.agg #[Value.slice sa (N.length) sc, Value.int IntKind.i64 root], Value.int IntKind.i64 (i : Nat), Value.int IntKind.i64 (nn : Nat), Value.pointer (some ⟨w.heap.size, 0, none⟩), Value.pointer (some ⟨w.heap.size + 1, 0, none⟩), undef, undef, Value.pointer (some ⟨w.heap.size + 1 + 1, 0, none⟩), Value.pointer (some ⟨bv, 0, none⟩), Value.pointer (some ⟨wc.heap.size, 0, none⟩), u11, Value.int IntKind.i64 (j : Nat), u13, u14, u15, u16, u17, u18, u19, u20, u21, u22, u23, u24, u25, u26, u27, u28, u29, u30, u31, u32, Value.pointer (some ⟨bv, 0, none⟩), Value.int IntKind.i64 kd, Value.pointer (some ⟨bv, 1, none⟩), Value.bool vn, Value.pointer (some ⟨bv, 2, none⟩), Value.slice va vm vc, Value.pointer (some ⟨bv, 3, none⟩), Value.int IntKind.u64 vb, Value.pointer (some ⟨bv, 4, none⟩), Value.string vs, Value.agg #[Value.int IntKind.i64 kd, Value.bool vn, Value.slice va vm vc, Value.int IntKind.u64 vb, Value.string vs, Value.slice none 0 0], u44, u45, u46, u47, u48, u49, u50, u51, u52, u53, u54, u55, u56, u57, u58, u59, u60, u61, u62, u63, u64, u65, u66, u67, u68, u69, u70, u71, u72, u73, u74, u75, u76, u77, u78, u79, u80, u81, u82, u83, u84, u85, u86, u87, u88, u89, u90, u91, u92, u93, u94, u95, u96, u97, u98, u99, u100, u101, u102, u103, u104, u105, u106, u107, u108, u109, u110, u111, u112, u113, u114, u115, u116, u117, u118, u119, u120, u121, u122, u123, u124, u125, u126, u127, u128, u129, u130, u131, u132, u133, u134, u135, u136, u137, u138, u139, u140, u141, u142, u143, u144, u145, u146, u147, u148, u149, u150, u151, u152, u153, u154, u155, u156, u157, u158, u159, u160, u161, u162, u163, u164, u165, u166, u167, u168, u169, undef] 12 undef))) (Exit.inBlock 0 (Exit.then K0 (bodyPost Tryz.prog Tryz.f17 (NodeIs N i nn w))))) { tmps := #[sixV k n a m c b s a2 m2 c2, Value.agg #[Value.slice sa (N.length) sc, Value.int IntKind.i64 root], Value.int IntKind.i64 (i : Nat), Value.int IntKind.i64 (nn : Nat), Value.pointer (some ⟨w.heap.size, 0, none⟩), Value.pointer (some ⟨w.heap.size + 1, 0, none⟩), undef, undef, Value.pointer (some ⟨w.heap.size + 1 + 1, 0, none⟩), Value.pointer (some ⟨bv, 0, none⟩), Value.pointer (some ⟨wc.heap.size, 0, none⟩), u11, Value.int IntKind.i64 (j : Nat), u13, u14, u15, u16, u17, u18, u19, u20, u21, u22, u23, u24, u25, u26, u27, u28, u29, u30, u31, u32, Value.pointer (some ⟨bv, 0, none⟩), Value.int IntKind.i64 kd, Value.pointer (some ⟨bv, 1, none⟩), Value.bool vn, Value.pointer (some ⟨bv, 2, none⟩), Value.slice va vm vc, Value.pointer (some ⟨bv, 3, none⟩), Value.int IntKind.u64 vb, Value.pointer (some ⟨bv, 4, none⟩), Value.string vs, Value.agg #[Value.int IntKind.i64 kd, Value.bool vn, Value.slice va vm vc, Value.int IntKind.u64 vb, Value.string vs, Value.slice none 0 0], u44, u45, u46, u47, u48, u49, u50, u51, u52, u53, u54, u55, u56, u57, u58, u59, u60, u61, u62, u63, u64, u65, u66, u67, u68, u69, u70, u71, u72, u73, u74, u75, u76, u77, u78, u79, u80, u81, u82, u83, u84, u85, u86, u87, u88, u89, u90, u91, u92, u93, u94, u95, u96, u97, u98, u99, u100, u101, u102, u103, u104, u105, u106, u107, u108, u109, u110, u111, u112, u113, u114, u115, u116, u117, u118, u119, u120, u121, u122, u123, u124, u125, u126, u127, u128, u129, u130, u131, u132, u133, u134, u135, u136, u137, u138, u139, u140, u141, u142, u143, u144, u145, u146, u147, u148, u149, u150, u151, u152, u153, u154, u155, u156, u157, u158, u159, u160, u161, u162, u163, u164, u165, u166, u167, u168, u169, undef], defers := [] } wr := by
  conv => arg 2; whnf
  have hmm : j < m2 ∧ j < 32 := ⟨he1, he2⟩
  have HSO := Lib.hid (show SeenOwn w2.heap.size wc.heap.size S (.int .i64 kd) (.bool vn) (.slice va vm vc) (.int .u64 vb) (.string vs) l ts (.slice ka l.length kc) u11 wr from ⟨HNO.out, ⟨es, HOWN.out, HES.out⟩, HDIS.out, by have := HS2.out; omega, fun b hb => by have := HS.out b hb; have := HB1.out.size; have := HBW.out.size; omega, HCH.out.size⟩)
  have HCO := Lib.hid (show ∀ W, Below wr.heap.size wr W → CndAt N S kd vn va vm vc vb vs i nn m2 wc.heap.size w2 (j + 1) u11 W from fun W hb => CndAt.of (by omega) (by omega) (HSO.out.below hb) (((Stp.refl _ _ _).below HCH.out.size hb).chg HCH.out) HKI.out (by omega))
  have hw : Below w.heap.size w wr := Chg.below ((HB1.out.trans (HBW.out.mono HB1.out.size)).trans (HB2.out.mono (Nat.le_trans HB1.out.size HBW.out.size))) (Nat.le_trans (Nat.le_trans HB1.out.size HBW.out.size) HB2.out.size) HCH.out (Nat.le_trans HB1.out.size HBW.out.size)
  skip
  obtain ⟨sva, svc, hsvv⟩ := HSO.out.len
  subst hsvv
  by_cases hi0 : i = 0
  · have li : ((i : Int) == 0) = true := by simp [hi0]
    clear hi0 hw
    rcases hkd9 with hk8 | hk9
    · have e8 : (kd == 8) = true := by simp [hk8]
      clear hk8
      go_wp2
      go_round
      case rel => exact ⟨j + 1, by go_num, HCO.out _ (Below.refl _ _)⟩
      case measure => simp [intOf]; omega
    · have e8 : (kd == 8) = false := by simp [hk9]
      have e9 : (kd == 9) = true := by simp [hk9]
      clear hk9
      go_wp2
      go_round
      case rel => exact ⟨j + 1, by go_num, HCO.out _ (Below.refl _ _)⟩
      case measure => simp [intOf]; omega
  · have li : ((i : Int) == 0) = false := by simp; omega
    have hip : 0 < i := by omega
    have HII := Lib.hid (show i ≤ nn ∧ i ≤ 1000000 by omega)
    have HNL := Lib.hid hn
    obtain ⟨gl, hgl⟩ : ∃ gl, gl = N.length := ⟨_, rfl⟩
    have hgq : GrB w S (.slice sa gl sc) N := by rw [hgl]; exact HG.out
    have HGB := Lib.hid (show ∀ W, Below wr.heap.size wr W → W.cell? ⟨w.heap.size + 1, 0, none⟩ = some (.slice sa gl sc) ∧ W.cell? ⟨w.heap.size + 1, 1, none⟩ = some (.int .i64 root) from fun W hb => by
      have hsz := HSZ1.out
      have hbw := HBW.out.size
      have hs2 := HS2.out
      have h1 : wr.heap[w.heap.size + 1]? = some (.cells #[.slice sa N.length sc, .int .i64 root] 24 (0, 0)) := (HCH.out.block _ (by omega) (by omega)).trans ((HB2.out.block _ (by omega)).trans ((HBW.out.block _ (by omega)).trans (by rw [HW1.out]; exact heap3_1 _ _ _ _)))
      have h2 := (hb.block _ (by have := (Array.getElem?_eq_some_iff.1 h1).1; omega)).trans h1
      rw [hgl]
      exact ⟨(cell_of_row _ _ 0 _ _ (0, 0) h2).trans rfl, (cell_of_row _ _ 1 _ _ (0, 0) h2).trans rfl⟩)
    have HU := Lib.hid (show ∀ (k : Nat) (W : World), k ≤ 1000000 → Below wr.heap.size wr W → Calls Tryz.prog 18 #[.agg #[.slice sa gl sc, .int .i64 root], .int .i64 k, .slice (some ⟨W.heap.size, 0, none⟩) gl gl, .int .i64 300] (W.alloc (.cells (madeCells #[.bool false] gl) 4)) fun e w' => ∃ r : Int, e = .returned (.int .i64 r) ∧ Below W.heap.size W w' from fun k W hk hb => by
      rw [hgl]
      exact unfolded_new N S _ root k 300 W ((HG.out.below hw).below hb) (fun b h => Nat.lt_of_lt_of_le (HS.out b h) (Nat.le_trans hw.size hb.size)) hn hk (fun x hx => ⟨Nat.le_trans (HNK.out x hx).1 (by omega), (HNK.out x hx).2.1⟩))
    have HTR := Lib.hid (show ∀ (k : Nat) (W : World), k ≤ 1000000 → Below wr.heap.size wr W → Calls Tryz.prog 8 #[.agg #[.slice sa gl sc, .int .i64 root], .int .i64 k, .int .i64 10] W (TreeIs N S 10 k W) from fun k W hk hb => by
      rw [hgl]
      exact Tree_any 10 N S _ root k W ((HG.out.below hw).below hb) (fun b h => Nat.lt_of_lt_of_le (HS.out b h) (Nat.le_trans hw.size hb.size)) (by omega) hn hk HNK.out)
    have hmk := run_make_bools gl (by omega)
    obtain ⟨hmc, hkids⟩ := HX.out.kids
    rcases hkids with h0 | ⟨g2, p2, rfl, hg2, hkk⟩
    · omega
    · have HKX := Lib.hid (show ∀ q, q < m2 → ∃ z : Int, ∀ W, Stp w2.heap.size wc.heap.size wr W → W.cell? ⟨g2, p2 + q, none⟩ = some (.int .i64 z) from fun q hq => by
        obtain ⟨z, hz⟩ := hkk q hq
        refine ⟨z, fun W hst => ?_⟩
        have h1 := HB1.out.size
        have h2 := HBW.out.size
        have h3 := HS2.out
        exact (World.cell?_of_block (w := wr) (a := ⟨g2, p2 + q, none⟩) (hst.block g2 (by omega) (by omega))).trans ((hw.cell (p := ⟨g2, p2 + q, none⟩) hg2).trans hz))
      obtain ⟨zz, hzz⟩ := HKX.out j he1
      have k5 := hzz wr (Stp.refl _ _ _)
      have HXV := Lib.hid (show ∀ W, Stp w2.heap.size wc.heap.size wr W → W.cell? ⟨w.heap.size, 5, none⟩ = some (.slice (some ⟨g2, p2, none⟩) m2 c2) ∧ W.cell? ⟨bv, 0, none⟩ = some (.int .i64 kd) from fun W hst => by
        have h1 := HB1.out.size
        have h2 := HBW.out.size
        have h3 := HS2.out
        have h4 := HSZ1.out
        have h5 := (Array.getElem?_eq_some_iff.1 HRV.out).1
        exact ⟨(World.cell?_of_block (w := wr) (a := ⟨w.heap.size, 5, none⟩) (hst.block w.heap.size (by omega) (by omega))).trans x5, (World.cell?_of_block (w := wr) (a := ⟨bv, 0, none⟩) (hst.block bv (by omega) (by omega))).trans z0⟩)
      have HWR := Lib.hid (show w2.heap.size ≤ wr.heap.size from HCH.out.size)
      clear hkk hzz hw hmc hgl hgq hn hi0
      have HMM := Lib.hid hmm; have HE3 := Lib.hid he3
      have HZW := Lib.hid (show ∀ b, ((Value.slice ka l.length kc).ownBlock = some b ∨ (Value.slice sva ts.length svc).ownBlock = some b) → b < wr.heap.size from fun b h => by
        rcases h with h | h
        · exact (HSO.out.no.lt b h).2
        · obtain ⟨es', ho', _⟩ := HSO.out.ow
          exact (ho'.lt b h).2)
      have HKD := Lib.hid hkd9
      have hkb : ((kd == 8) = true) ∨ ((kd == 8) = false ∧ (kd == 9) = true) := by
        rcases hkd9 with h | h
        · exact .inl (by simp [h])
        · exact .inr ⟨by simp [h], by simp [h]⟩
      clear hkd9
      rcases hkb with e8 | ⟨e8, e9⟩
      all_goals (
        go_wp2_with fail
        refine (turn_any zz i _ hip HII.out.2).mono ?_
        rintro e w5 ⟨kk, rfl, hkk, hw5⟩
        rw [hw5]
        clear hw5 w5
        have HKK := Lib.hid hkk
        have HBC := Lib.hid ((Below.refl wr.heap.size wr).drew)
        have HC := Lib.hid (show Calls Tryz.prog 18 #[.agg #[.slice sa gl sc, .int .i64 root], .int .i64 kk, .slice (some ⟨wr.heap.size, 0, none⟩) gl gl, .int .i64 300] (wr.alloc (.cells (madeCells #[.bool false] gl) 4)).drew fun e w' => ∃ r : Int, e = .returned (.int .i64 r) ∧ Below wr.heap.size wr.drew w' from HU.out kk wr.drew (by have := HII.out.2; omega) ((Below.refl wr.heap.size wr).drew))
        clear hkk
        obtain ⟨y0, y1⟩ := HGB.out wr (Below.refl _ _)
        go_wp2
        go_region_held3 (fun W => Below wr.heap.size wr W ∧ W.cell? ⟨w.heap.size + 1, 0, none⟩ = some (.slice sa gl sc) ∧ W.cell? ⟨w.heap.size + 1, 1, none⟩ = some (.int .i64 root)) (first | exact ⟨HBC.out, HGB.out _ HBC.out⟩ | exact ⟨below_aly HBC.out _, HGB.out _ (below_aly HBC.out _)⟩) (first | (go_simp; go_at_call 18; (with_reducible refine HC.out.mono ?_); rintro e w5 ⟨r, rfl, hb5⟩; have HBC := Lib.hid (HBC.out.trans (hb5.mono HBC.out.size)); clear hb5))
        all_goals (
          by_cases hr : 300 < r
          · clear y0 y1
            go_wp2
            go_round
            case rel => exact ⟨j + 1, by go_num, HCO.out _ HBC.out⟩
            case measure => simp [intOf]; omega
          · clear y0 y1
            obtain ⟨y0, y1⟩ := HGB.out w5 HBC.out
            go_wp2_with fail
            refine (HTR.out kk w5 (by have := HKK.out; have := HII.out.2; omega) HBC.out).mono ?_
            rintro e w6 ⟨r2, q0, q1, q2, q3, q4, q5, q6, q7, q8, q9, rfl, hb6, hyes, hno⟩
            have HB6 := Lib.hid (HBC.out.trans (hb6.mono HBC.out.size))
            clear hno y0 y1 hr
            cases r2
            · clear hyes hb6
              go_wp2
              go_round
              case rel => exact ⟨j + 1, by go_num, HCO.out _ (below_alx HB6.out _)⟩
              case measure => simp [intOf]; omega
            · obtain ⟨t', ht, hv⟩ := hyes rfl
              have HTV := Lib.hid (And.intro ht (treeG_slim (fun x hx => (HNK.out x hx).1) 10 kk t' ht))
              have HVV := Lib.hid (show ValB w6 (fun b => S b ∨ wr.heap.size ≤ b) 10 (sixV q0 q1 q2 q3 q4 q5 q6 q7 q8 q9) t' from hv.sub (fun b h => h.imp id (fun h => Nat.le_trans HBC.out.size h)))
              have HHS := Lib.hid (Hashable_any 10 _ t' (w6.alloc (sixO q0 q1 q2 q3 q4 q5 q6 q7 q8 q9)) ((hv.at_).below (below_al0 _ _)) HTV.out.2)
              clear ht hv hyes hb6
              go_wp2_with fail
              refine HHS.out.mono ?_
              rintro e w7 ⟨rfl, hb7⟩
              have HB7 := Lib.hid ((below_alx HB6.out (sixO q0 q1 q2 q3 q4 q5 q6 q7 q8 q9)).trans (hb7.mono (below_alx HB6.out (sixO q0 q1 q2 q3 q4 q5 q6 q7 q8 q9)).size))
              have HX7 := Lib.hid (show w7.heap[w6.heap.size]? = some (sixO q0 q1 q2 q3 q4 q5 q6 q7 q8 q9) from (hb7.block _ (by simp)).trans (heap_alloc_new w6 _))
              have HV7 := Lib.hid (HVV.out.below ((below_al0 w6 (sixO q0 q1 q2 q3 q4 q5 q6 q7 q8 q9)).trans (hb7.mono (by simp))))
              clear hb7
              cases hh : hashB 10 t'
              · go_wp2
                go_round
                case rel => exact ⟨j + 1, by go_num, HCO.out _ HB7.out⟩
                case measure => simp [intOf]; omega
              · have HKT := Lib.hid ((hashB_key 10 t').1 hh)
                have HF := Lib.hid ((HSO.out.below HB7.out).find (by have := (HKI.out.keys HKD.out).2; omega) (HKI.out.keys HKD.out).1 HV7.out.at_ HKT.out HTV.out.2)
                obtain ⟨a0, a1, a2', a3, a4, a5⟩ := box6 HX7.out (Below.refl _ _)
                clear hh
                go_wp2_with fail
                refine HF.out.mono ?_
                rintro e w8 ⟨r3, rfl, hr3, hb8⟩
                have HB8 := Lib.hid (HB7.out.trans (hb8.mono HB7.out.size))
                have HV8 := Lib.hid (HV7.out.below hb8)
                clear a0 a1 a2' a3 a4 a5
                obtain ⟨a0, a1, a2', a3, a4, a5⟩ := box6 HX7.out hb8
                clear hb8
                rcases hr3.neg with ⟨rfl, hneg⟩ | hr0
                · have HNG := Lib.hid (show ∀ x ∈ ts, eqv 10 x t' = false from fun x hx => by
                    obtain ⟨q, hq, rfl⟩ := List.getElem_of_mem hx
                    simpa using hneg q (by omega))
                  have HONE := Lib.hid (show ∀ u ∈ six (sixV q0 q1 q2 q3 q4 q5 q6 q7 q8 q9), u.oneCell' = true from fun u hu => by simp [six] at hu; rcases hu with rfl | rfl | rfl | rfl | rfl | rfl <;> rfl)
                  have hlate : ((kd == 8) = true ∧ j + 1 = m2) ∨ ((kd == 8) = true ∧ j + 1 < m2) ∨ (kd == 8) = false := by
                    cases (kd == 8)
                    · exact .inr (.inr rfl)
                    · rcases (show j + 1 = m2 ∨ j + 1 < m2 by have := HMM.out.1; omega) with h | h
                      · exact .inl ⟨rfl, h⟩
                      · exact .inr (.inl ⟨rfl, h⟩)
                  have hwj : IntKind.i64.wrap ((j : Int) + 1) = (j : Int) + 1 := by have := HMM.out.2; simp only [IntKind.wrap_i64]; omega
                  clear hr3 hneg
                  rcases hlate with ⟨h8, hje⟩ | ⟨h8, hje⟩ | h8
                  · first
                      | exact absurd (e8.symm.trans h8) (by decide)
                      | (have lje : ((j : Int) + 1 == (m2 : Int)) = true := by simp; omega
                         clear hje h8
                         go_wp2_with (first
                           | ((with_reducible show wpList _ _ _ _ _ _); refine SeenOwn.see (y := sixV q0 q1 q2 q3 q4 q5 q6 q7 q8 q9) (z := wr.heap.size) rfl (.tmp 132) (.tmp 134) rfl rfl rfl (HSO.out.below (below_alx HB8.out _)) (by have := (HKI.out.keys HKD.out).2; omega) HWR.out HZW.out rfl ⟨_, _, _, _, _, _, rfl⟩ HONE.out HV8.out ?_; intro sv9 w9 HS9 HST9; have o9 := (cell_of_row _ _ 5 _ _ (0, 0) HS9.out.no.o).trans rfl)
                           | ((with_reducible show wpList _ _ _ _ _ _); refine wpList_num (k := kk) rfl (.tmp 137) (.tmp 139) rfl rfl rfl (HS9.out.no.below (below_al0 w9 _)) HS9.out.hO (Nat.le_trans HS9.out.sz (below_al0 w9 _).size) (by have := HE3.out; omega) ((cell_of_row _ _ 0 _ _ (0, 0) (heap_alloc_new w9 _)).trans rfl) ?_; intro a10 c10 w10 q11 q12 HN10; have HT10 := Lib.hid ((HS9.out.below (below_al0 w9 _)).num HN10.out); have HSTF := Lib.hid (((((Stp.refl w2.heap.size wc.heap.size wr).below HWR.out (below_alx HB8.out _)).trans HST9.out).below HS9.out.sz (below_al0 w9 _)).trans HT10.out.2); have v10 := (HXV.out _ HSTF.out).2; have x10 := (HXV.out _ HSTF.out).1; have o10 := (cell_of_row _ _ 5 _ _ (0, 0) HT10.out.1.no.o).trans rfl)
                           | ((with_reducible show wpList _ _ _ _ _ _); refine wpList_num (k := kk) rfl (.tmp 153) (.tmp 155) rfl rfl rfl (HT10.out.1.no.below (below_al0 (w10.setCell ⟨wc.heap.size, 5, none⟩ (.slice a10 (l.length + 1) c10)) _)) HT10.out.1.hO (Nat.le_trans HT10.out.1.sz (below_al0 (w10.setCell ⟨wc.heap.size, 5, none⟩ (.slice a10 (l.length + 1) c10)) _).size) (by have := HE3.out; rw [List.length_append]; simp; omega) (by first | exact alloc_set_cell w10 _ _ _ _ | exact (cell_of_row _ _ 0 _ _ (0, 0) (heap_alloc_new (w10.setCell ⟨wc.heap.size, 5, none⟩ (.slice a10 (l.length + 1) c10)) _)).trans rfl) ?_; intro a11 c11 w11 q13 q14 HN11))
                         go_round
                         case rel =>
                           have hn := (HT10.out.1.below (below_al0 (w10.setCell ⟨wc.heap.size, 5, none⟩ (.slice a10 (l.length + 1) c10)) _)).num HN11.out
                           rw [show (l ++ [kk]).length = l.length + 1 by simp] at hn
                           exact ⟨j + 2, by go_num, CndAt.of (by have := HMM.out.1; omega) (by have := HMM.out.2; omega) hn.1 ((((HSTF.out).below HT10.out.1.sz (below_al0 (w10.setCell ⟨wc.heap.size, 5, none⟩ (.slice a10 (l.length + 1) c10)) _)).trans hn.2).chg HCH.out) (KInv.dicPush (v := kk) HKI.out (by simpa using e8) HKK.out HII.out.1 (by have := HKK.out; have := HII.out.1; omega) HE3.out HTV.out.1 HKT.out HTV.out.2 HNG.out) (by have := HKD.out; omega)⟩
                         case measure => simp [intOf]; omega)
                  · first
                      | exact absurd (e8.symm.trans h8) (by decide)
                      | (have lje : ((j : Int) + 1 == (m2 : Int)) = false := by simp; omega
                         have hj1 : ((j : Int) + 1) < (m2 : Int) := by omega
                         have hjt : ((j : Int) + 1).toNat = j + 1 := by omega
                         have hj0 : 0 ≤ (j : Int) + 1 := by omega
                         have hn0 : 0 < nn := by omega
                         have hn1 : nn ≤ 1000000 := by omega
                         obtain ⟨z2, hz2⟩ := HKX.out (j + 1) hje
                         have HZ2 := Lib.hid hz2
                         clear hje h8 hz2
                         go_wp2_with (first
                           | ((with_reducible show wpList _ _ _ _ _ _); refine SeenOwn.see (y := sixV q0 q1 q2 q3 q4 q5 q6 q7 q8 q9) (z := wr.heap.size) rfl (.tmp 132) (.tmp 134) rfl rfl rfl (HSO.out.below (below_alx HB8.out _)) (by have := (HKI.out.keys HKD.out).2; omega) HWR.out HZW.out rfl ⟨_, _, _, _, _, _, rfl⟩ HONE.out HV8.out ?_; intro sv9 w9 HS9 HST9; have o9 := (cell_of_row _ _ 5 _ _ (0, 0) HS9.out.no.o).trans rfl)
                           | ((with_reducible show wpList _ _ _ _ _ _); refine wpList_num (k := kk) rfl (.tmp 137) (.tmp 139) rfl rfl rfl (HS9.out.no.below (below_al0 w9 _)) HS9.out.hO (Nat.le_trans HS9.out.sz (below_al0 w9 _).size) (by have := HE3.out; omega) ((cell_of_row _ _ 0 _ _ (0, 0) (heap_alloc_new w9 _)).trans rfl) ?_; intro a10 c10 w10 q11 q12 HN10; have HT10 := Lib.hid ((HS9.out.below (below_al0 w9 _)).num HN10.out); have HSTF := Lib.hid (((((Stp.refl w2.heap.size wc.heap.size wr).below HWR.out (below_alx HB8.out _)).trans HST9.out).below HS9.out.sz (below_al0 w9 _)).trans HT10.out.2); have v10 := (HXV.out _ HSTF.out).2; have x10 := (HXV.out _ HSTF.out).1; have o10 := (cell_of_row _ _ 5 _ _ (0, 0) HT10.out.1.no.o).trans rfl))
                         obtain ⟨W10, hW10⟩ : ∃ W, W = w10.setCell ⟨wc.heap.size, 5, none⟩ (.slice a10 (l.length + 1) c10) := ⟨_, rfl⟩
                         rw [← hW10] at HT10 HSTF v10 x10 o10
                         rw [← hW10]
                         have k10 := HZ2.out W10 HSTF.out
                         have HOL := Lib.hid (show wc.heap.size < W10.heap.size from Nat.lt_of_lt_of_le HT10.out.1.hO HT10.out.1.sz)
                         have o26 := fun X => ((below_al0 W10 X).cell (p := ⟨wc.heap.size, 5, none⟩) HOL.out).trans o10
                         have HLL := Lib.hid (show (l ++ [kk]).length ≤ 900 by have := HE3.out; rw [List.length_append]; simp; omega)
                         clear hW10
                         go_wp2
                         go_region_law (first | (go_simp; go_at_call 16; refine (turn_any z2 nn _ hn0 hn1).mono ?_; rintro e w5' ⟨vv, rfl, hvv, rfl⟩; have HVN := Lib.hid hvv; clear hvv) | (refine step_num (k := vv) rfl (.tmp 159) (.tmp 167) rfl rfl rfl (HT10.out.1.no.below (by repeat (first | with_reducible exact Below.refl _ _ | with_reducible refine Below.drew ?_ | with_reducible refine below_alx ?_ _))) HT10.out.1.hO (Nat.le_trans HT10.out.1.sz (Below.size (w := W10) (B := W10.heap.size) (by repeat (first | with_reducible exact Below.refl _ _ | with_reducible refine Below.drew ?_ | with_reducible refine below_alx ?_ _)))) HLL.out ((cell_of_row _ _ 0 _ _ (0, 0) (heap_alloc_new W10.drew _)).trans rfl) ?_; intro a11 c11 w11 q13 q14 HN11))
                         all_goals (
                           go_wp2
                           go_round
                           case rel =>
                             have hn := (HT10.out.1.below (by repeat (first | with_reducible exact Below.refl _ _ | with_reducible refine Below.drew ?_ | with_reducible refine below_alx ?_ _))).num HN11.out
                             rw [show (l ++ [kk]).length = l.length + 1 by simp] at hn
                             exact ⟨j + 2, by go_num, CndAt.of (by have := HMM.out.1; omega) (by have := HMM.out.2; omega) hn.1 ((((HSTF.out).below HT10.out.1.sz (by repeat (first | with_reducible exact Below.refl _ _ | with_reducible refine Below.drew ?_ | with_reducible refine below_alx ?_ _))).trans hn.2).chg HCH.out) (KInv.dicPush (v := vv) HKI.out (by simpa using e8) HKK.out HII.out.1 HVN.out HE3.out HTV.out.1 HKT.out HTV.out.2 HNG.out) (by have := HKD.out; omega)⟩
                           case measure => simp [intOf]; omega))
                  · first
                      | exact absurd (e8.symm.trans h8) (by decide)
                      | (clear h8
                         go_wp2_with (first
                           | ((with_reducible show wpList _ _ _ _ _ _); refine SeenOwn.see (y := sixV q0 q1 q2 q3 q4 q5 q6 q7 q8 q9) (z := wr.heap.size) rfl (.tmp 132) (.tmp 134) rfl rfl rfl (HSO.out.below (below_alx HB8.out _)) (by have := (HKI.out.keys HKD.out).2; omega) HWR.out HZW.out rfl ⟨_, _, _, _, _, _, rfl⟩ HONE.out HV8.out ?_; intro sv9 w9 HS9 HST9; have o9 := (cell_of_row _ _ 5 _ _ (0, 0) HS9.out.no.o).trans rfl)
                           | ((with_reducible show wpList _ _ _ _ _ _); refine wpList_num (k := kk) rfl (.tmp 137) (.tmp 139) rfl rfl rfl (HS9.out.no.below (below_al0 w9 _)) HS9.out.hO (Nat.le_trans HS9.out.sz (below_al0 w9 _).size) (by have := HE3.out; omega) ((cell_of_row _ _ 0 _ _ (0, 0) (heap_alloc_new w9 _)).trans rfl) ?_; intro a10 c10 w10 q11 q12 HN10; have HT10 := Lib.hid ((HS9.out.below (below_al0 w9 _)).num HN10.out); have HSTF := Lib.hid (((((Stp.refl w2.heap.size wc.heap.size wr).below HWR.out (below_alx HB8.out _)).trans HST9.out).below HS9.out.sz (below_al0 w9 _)).trans HT10.out.2); have v10 := (HXV.out _ HSTF.out).2))
                         go_round
                         case rel => exact ⟨j + 1, by go_num, CndAt.of (by have := HMM.out.1; omega) (by have := HMM.out.2; omega) HT10.out.1 ((HSTF.out).chg HCH.out) (KInv.setPush HKI.out (by simpa using e9) HKK.out HII.out.1 HE3.out HTV.out.1 HKT.out HTV.out.2 HNG.out) (by have := HKD.out; omega)⟩
                         case measure => simp [intOf]; omega)
                · have hn0 : decide (0 ≤ r3) = true := by simp; omega
                  clear hr3
                  go_wp2
                  go_round
                  case rel => exact ⟨j + 1, by go_num, HCO.out _ HB8.out⟩
                  case measure => simp [intOf]; omega))
end Go.Proofs.YtpcleebnfgnhdaaGreatDoor

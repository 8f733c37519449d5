import Derived.Test.YtpcleebnfgnhdaaGreatDoorGz40
/- Walk: impl.node. -/
set_option linter.unusedVariables false
set_option linter.unusedSimpArgs false
namespace Go.Proofs.YtpcleebnfgnhdaaGreatDoor
open Go.RowKit
open Num

/-- the keys of a node so far -/
def NodUp (w2 : World) (kd : Int) (ks : List Nat) (es : List Value) (j : Nat) (s : Value) (wr : World) : Prop :=
  ∃ xs, wr.ownsRow w2.heap.size 59 1 s xs.length xs ∧ xs.length ≤ j ∧ (kd ≠ 6 → kd ≠ 8 → xs = (ks.take j).map (fun k => es.getD k .nilIface)) ∧ Below w2.heap.size w2 wr
theorem NodUp.more {w2 : World} {kd : Int} {ks : List Nat} {es : List Value} {j : Nat} {s : Value} {wr : World} (h : NodUp w2 kd ks es j s wr) (hk : kd = 6 ∨ kd = 8) {W : World} (hb : Below wr.heap.size wr W) : NodUp w2 kd ks es (j + 1) s W := by
  obtain ⟨xs, h1, h2, h3, h4⟩ := h
  refine ⟨xs, ⟨h1.1, ?_⟩, by omega, fun h6 h8 => by omega, h4.trans (hb.mono h4.size)⟩
  rcases h1.2 with h | ⟨g, cap, cur, e, hbg, hg, rest⟩
  · exact .inl h
  · exact .inr ⟨g, cap, cur, e, hbg, (hb.block g (Array.getElem?_eq_some_iff.1 hg).1).trans hg, rest⟩
theorem own_below {w w' : World} {base : Nat} {e : TypeId} {size : Nat} {v : Value} {n : Nat} {xs : List Value} (h : w.ownsRow base e size v n xs) (hb : Below w.heap.size w w') : w'.ownsRow base e size v n xs := by
  refine ⟨h.1, ?_⟩
  rcases h.2 with h | ⟨g, cap, cur, e, hbg, hg, rest⟩
  · exact .inl h
  · exact .inr ⟨g, cap, cur, e, hbg, (hb.block g (Array.getElem?_eq_some_iff.1 hg).1).trans hg, rest⟩
theorem own_block {w : World} {base : Nat} {e : TypeId} {size : Nat} {v : Value} {n : Nat} {xs : List Value} (h : w.ownsRow base e size v n xs) : ∀ b, v.ownBlock = some b → base ≤ b ∧ b < w.heap.size := fun b hb => by
  rcases h.2 with ⟨rfl, _⟩ | ⟨g, cap, cur, rfl, hbg, hg, _⟩
  · cases hb
  · obtain rfl : g = b := Option.some.inj hb
    exact ⟨hbg, (Array.getElem?_eq_some_iff.1 hg).1⟩
theorem grown_below {w W w' : World} {base : Nat} {o : Option Nat} (hb : Below base w W) (hs : base ≤ W.heap.size) (h : W.grownBy w' o) (ho : ∀ b, o = some b → base ≤ b) : Below base w w' :=
  ⟨h.os.trans hb.os, h.tape.trans hb.tape, h.output.trans hb.output, Nat.le_trans hb.size h.size, fun k hk => (h.block k (by omega) (fun e => by have := ho k e.symm; omega)).trans (hb.block k hk)⟩
theorem NodUp.push {w2 : World} {kd : Int} {ks : List Nat} {es : List Value} {j : Nat} {s s' : Value} {wr w6 w7 : World} {xs : List Value} {u : Value} (h4 : Below w2.heap.size w2 wr) (hl : xs.length ≤ j) (hb : Below wr.heap.size wr w6) (hown : w6.ownsRow w2.heap.size 59 1 s xs.length xs)
    (h3 : kd ≠ 6 → kd ≠ 8 → xs = (ks.take j).map (fun k => es.getD k .nilIface)) (h : w7.ownsRow w2.heap.size 59 1 s' (xs.length + 1) (xs ++ [u])) (hg : w6.grownBy w7 s.ownBlock) (hj : j < ks.length) (hu : u = es.getD ks[j] .nilIface) : NodUp w2 kd ks es (j + 1) s' w7 := by
  refine ⟨xs ++ [u], by simpa using h, by simp; omega, fun h6 h8 => ?_, grown_below (h4.trans (hb.mono h4.size)) (Nat.le_trans h4.size hb.size) hg (fun b e => (own_block hown b e).1)⟩
  rw [h3 h6 h8, List.take_add_one, List.map_append]
  simp [hj, hu]

theorem own_shape {w : World} {base : Nat} {e : TypeId} {size : Nat} {v : Value} {n : Nat} {xs : List Value} (h : w.ownsRow base e size v n xs) : ∃ a c, v = .slice a n c := by
  rcases h.2 with ⟨rfl, h0⟩ | ⟨g, cap, cur, rfl, _⟩
  · exact ⟨none, 0, by rw [h0]⟩
  · exact ⟨_, cap, rfl⟩
theorem take_get {N : List Nd} {i j : Nat} {x : Nd} (h : (N.take i)[j]? = some x) : N[j]? = some x := by
  rw [List.getElem?_take] at h
  split at h
  · exact h
  · cases h
theorem elems_of_keys {N : List Nd} {i : Nat} {ks : List Nat} {ts : List Tr} {es xs : List Value} {w : World} {v : Value} (hrow : RowV w v xs) (hxs : xs = ks.map (fun k => es.getD k .nilIface)) (hes : es.length = i)
    (hG : ∀ k (h : k < es.length), Good N k es[k] w) (hk : KeysAre (N.take i) i ks ts) : ElemsAt w (StarAt w 10) v ts := by
  have hl := hk.len
  have hxl : xs.length = ks.length := by rw [hxs, List.length_map]
  rcases hrow with ⟨rfl, a, c, rfl⟩ | ⟨h0, g, p, c, rfl, hc, hc2, hg, hq⟩
  · exact .inl ⟨List.eq_nil_of_length_eq_zero (by simp at hxl; omega), a, c, rfl⟩
  · refine .inr ⟨by omega, g, p, c, by rw [hxl, hl], by omega, hc2, hg, fun q hql => ?_⟩
    have hqk : q < ks.length := by omega
    obtain ⟨h1, h2, h3, _⟩ := hk.key q hqk hql
    refine ⟨xs[q]'(by omega), hq q (by omega), ?_⟩
    have hke : ks[q] < es.length := by omega
    have e : xs[q]'(by omega) = es[ks[q]] := by
      subst hxs
      simp [hke]
    rw [e]
    exact (hG _ hke).1 10 ts[q] (treeG_more (fun j x h => take_get h) 10 _ _ h2) h3
/-- a tuple's elements, in another world -/
theorem tup_elems {N : List Nd} {ks : List Nat} {es xs : List Value} {w W : World} {base : Nat} {t : TypeId} {a : Option Addr} {c n : Nat} (hown : w.ownsRow base t 1 (.slice a n c) xs.length xs) (hn : n = ks.length) (hxs : xs = ks.map (fun k => es.getD k .nilIface)) (hlt : ∀ k ∈ ks, k < es.length)
    (hs : w.heap.size ≤ W.heap.size) (hb : ∀ b, base ≤ b → b < w.heap.size → W.heap[b]? = w.heap[b]?) (hG : ∀ k (h : k < es.length), ∀ W2, Below W.heap.size W W2 → Good N k es[k] W2) :
    ks.length = 0 ∨ ∃ g p, a = some ⟨g, p, none⟩ ∧ ks.length ≤ c ∧ c ≤ 9223372036854775807 ∧ g < W.heap.size ∧ ∀ q (hq : q < ks.length), ∃ u, W.cell? ⟨g, p + q, none⟩ = some u ∧ ∀ W2, Below W.heap.size W W2 → Good N ks[q] u W2 := by
  have hxl : xs.length = ks.length := by rw [hxs, List.length_map]
  by_cases h0 : ks.length = 0
  · exact .inl h0
  · refine .inr ?_
    have hW : W.ownsRow base t 1 (.slice a n c) xs.length xs := by
      refine ⟨hown.1, ?_⟩
      rcases hown.2 with h | ⟨g, cap, cur, e, hbg, hg, rest⟩
      · exact .inl h
      · exact .inr ⟨g, cap, cur, e, hbg, (hb g hbg (Array.getElem?_eq_some_iff.1 hg).1).trans hg, rest⟩
    have hrow := rowV_of hW
    obtain ⟨g, p, e1, e2, e3, e4, e5, e6⟩ := hrow.get 0 (by omega)
    subst e1
    refine ⟨g, p, rfl, by omega, e4, e5, fun q hq => ?_⟩
    obtain ⟨g', p', f1, f2, f3, f4, f5, f6⟩ := hrow.get q (by omega)
    injection f1 with f1
    injection f1 with f1 f1'
    subst f1; subst f1'
    refine ⟨_, f6, fun W2 hb2 => ?_⟩
    have hke : ks[q] < es.length := hlt _ (List.getElem_mem hq)
    have e : xs[q]'(by omega) = es[ks[q]] := by
      subst hxs
      simp [hke]
    rw [e]
    exact hG _ hke W2 hb2
theorem good_tup_own {N : List Nd} {n i : Nat} {x : Nd} {es xs : List Value} {w W : World} {base : Nat} {t : TypeId} {a : Option Addr} {c : Nat} (hN : GraphOK N n) (hx : N[i]? = some x) (h7 : x.T.kind = 7) (h8 : x.ks.length ≤ 8)
    (hown : w.ownsRow base t 1 (.slice a xs.length c) xs.length xs) (hxs : xs = x.ks.map (fun k => es.getD k .nilIface)) (hlt : ∀ k ∈ x.ks, k < es.length)
    (hs : w.heap.size ≤ W.heap.size) (hb : ∀ b, base ≤ b → b < w.heap.size → W.heap[b]? = w.heap[b]?) (hG : ∀ k (h : k < es.length), ∀ W2, Below W.heap.size W W2 → Good N k es[k] W2) :
    Good N i (.iface 121 (.slice a xs.length c)) W := by
  have hxl : xs.length = x.ks.length := by rw [hxs, List.length_map]
  have h := good_tup (a := a) (c := c) hN hx h7 h8 (tup_elems hown hxl hxs hlt hs hb hG)
  rw [hxl]
  exact h

set_option maxRecDepth 100000 in
set_option maxHeartbeats 8000000 in
theorem node_any (N : List Nd) (S : Nat → Prop) (gs : Value) (root : Int) (i : Nat) (av : Value) (es : List Value) (w : World) (hN : GraphOK N N.length) (hg : GrB w S gs N) (hi : i < N.length) (hl : N.length ≤ 1000)
    (hav : RowV w av es) (hes : es.length = i) (hgd : ∀ k (h : k < es.length) W, Below w.heap.size w W → Good N k es[k] W) (hif : ∀ u ∈ es, ∃ t x, u = .iface t x) (hkt : KT w) (hcl : CL w) :
    Calls Tryz.prog 31 #[.agg #[gs, .int .i64 root], .int .i64 i, av] w (NodeMade N i es w) := by
  obtain ⟨aa, ac, rfl⟩ := hav.shape
  obtain ⟨g, p, c, e, hc, hc2, hlg, hSg, n1, a1, m1, c1, b1, s1, ka, kc, hcells, hvb, hnums⟩ := hg.node i hi
  subst e
  have hok := hN i N[i] (List.getElem?_eq_getElem hi)
  have hgi : N[i]? = some N[i] := List.getElem?_eq_getElem hi
  obtain ⟨x, hx⟩ : ∃ x, x = N[i] := ⟨_, rfl⟩
  rw [← hx] at hok hcells hvb hnums hgi
  obtain ⟨n, hnn⟩ : ∃ n, n = N.length := ⟨_, rfl⟩
  obtain ⟨K, hKK⟩ : ∃ K, K = x.ks.length := ⟨_, rfl⟩
  obtain ⟨kd, hkd⟩ : ∃ kd, kd = x.T.kind := ⟨_, rfl⟩
  have hK8 : K ≤ 8 := by have := hok.1; omega
  obtain ⟨w2, hw2⟩ : ∃ w2, w2 = (w.alloc (.cells #[.slice (some ⟨g, p, none⟩) n c, .int .i64 root] 24)).alloc (.cells #[.int .i64 kd, .bool n1, .slice a1 m1 c1, .int .u64 b1, .string s1, .slice ka K kc] 48) := ⟨_, rfl⟩
  have hb2 : Below w.heap.size w w2 := by rw [hw2]; exact ((Below.refl _ _).alloc (Nat.le_refl _) _).alloc (by simp) _
  have hsz2 : w2.heap.size = w.heap.size + 2 := by rw [hw2]; simp
  have hg2 : w2.heap[w.heap.size]? = some (.cells #[.slice (some ⟨g, p, none⟩) n c, .int .i64 root] 24 (0, 0)) := by rw [hw2]; exact (Below.heap_alloc _ _ _ (by simp)).trans (heap_alloc_new w _)
  have hn2 : w2.heap[w.heap.size + 1]? = some (.cells #[.int .i64 kd, .bool n1, .slice a1 m1 c1, .int .u64 b1, .string s1, .slice ka K kc] 48 (0, 0)) := by
    rw [hw2]
    have := heap_alloc_new (w.alloc (.cells #[.slice (some ⟨g, p, none⟩) n c, .int .i64 root] 24)) (.cells #[.int .i64 kd, .bool n1, .slice a1 m1 c1, .int .u64 b1, .string s1, .slice ka K kc] 48)
    rwa [World.size_alloc] at this
  have HZ := Lib.hid (show ∀ W, Below w2.heap.size w2 W → W.cell? ⟨w.heap.size, 0, none⟩ = some (.slice (some ⟨g, p, none⟩) n c) ∧ W.cell? ⟨w.heap.size + 1, 0, none⟩ = some (.int .i64 kd) ∧ W.cell? ⟨w.heap.size + 1, 1, none⟩ = some (.bool n1) ∧ W.cell? ⟨w.heap.size + 1, 2, none⟩ = some (.slice a1 m1 c1) ∧ W.cell? ⟨w.heap.size + 1, 3, none⟩ = some (.int .u64 b1) ∧ W.cell? ⟨w.heap.size + 1, 4, none⟩ = some (.string s1) ∧ W.cell? ⟨w.heap.size + 1, 5, none⟩ = some (.slice ka K kc) from fun W hb => by
    have h1 := (hb.block w.heap.size (by omega)).trans hg2
    have h2 := (hb.block (w.heap.size + 1) (by omega)).trans hn2
    exact ⟨(cell_of_row _ _ 0 _ _ (0, 0) h1).trans rfl, (cell_of_row _ _ 0 _ _ (0, 0) h2).trans rfl, (cell_of_row _ _ 1 _ _ (0, 0) h2).trans rfl, (cell_of_row _ _ 2 _ _ (0, 0) h2).trans rfl, (cell_of_row _ _ 3 _ _ (0, 0) h2).trans rfl, (cell_of_row _ _ 4 _ _ (0, 0) h2).trans rfl, (cell_of_row _ _ 5 _ _ (0, 0) h2).trans rfl⟩)
  have HW2 := Lib.hid hw2; have HB2 := Lib.hid hb2; have HSZ2 := Lib.hid hsz2; have HVB := Lib.hid hvb; have HNU := Lib.hid hnums; have HOK := Lib.hid hok; have HGI := Lib.hid hgi
  have HNN := Lib.hid hnn; have HKK := Lib.hid hKK; have HKD := Lib.hid hkd; have HAV := Lib.hid hav; have HES := Lib.hid hes; have HGD := Lib.hid hgd; have HIF := Lib.hid hif; have HKT := Lib.hid hkt; have HCL := Lib.hid hcl; have HNO := Lib.hid hN; have HI := Lib.hid hi; have HL := Lib.hid hl
  have hU : NodUp w2 kd x.ks es 0 (.slice none 0 0) w2 := ⟨[], World.ownsRow_nil w2 _ _ 1, by simp, fun _ _ => by simp, Below.refl _ _⟩
  have HU := Lib.hid hU
  have hlt : (i : Int) < (n : Int) := by omega
  obtain ⟨q0, q1, q2, q3, q4, q5⟩ := hcells
  rw [← hkd] at q0
  rw [← hKK] at q5
  rw [← hnn] at hc ⊢
  rw [hes]
  obtain ⟨z0, z1, z2, z3, z4, z5, z6⟩ := HZ.out w2 (Below.refl _ _)
  clear hN hg hi hl hav hes hgd hif hkt hcl hok hgi hx hvb hnums hnn hKK hkd hw2 hb2 hsz2 hg2 hn2 hU hSg
  go_enter Tryz.func31, Tryz.ntmps31
  go_wp2
  rw [← HW2.out]
  go_wp2
  clear q0 q1 q2 q3 q4 q5 z0 z1 z2 z3 z4 z5 z6
  go_loopw [9, 21] (fun s9 s21 wr => ∃ j : Nat, j ≤ K ∧ s21 = .int .i64 j ∧ NodUp w2 kd x.ks es j s9 wr) (fun _ s _ => K - (intOf s).toNat)
  case atStart => exact ⟨0, by omega, rfl, HU.out⟩
  case round =>
    obtain ⟨j, hj, rfl, hu⟩ := hrel
    clear HU
    have HUU := Lib.hid hu
    obtain ⟨xs, hown, hxl, hxs, hbr⟩ := hu
    have HOWN := Lib.hid hown; have HXL := Lib.hid hxl; have HXS := Lib.hid hxs; have HBR := Lib.hid hbr
    obtain ⟨z0, z1, z2, z3, z4, z5, z6⟩ := HZ.out wr hbr
    clear hown hxl hxs hbr
    by_cases he : j < K
    · have hltk : (j : Int) < (K : Int) := by omega
      have hjx : j < x.ks.length := by have := HKK.out; omega
      obtain ⟨g2, p2, f1, f2, f3, f4, f5, f6, f7⟩ := HNU.out.get j hjx
      subst f1
      obtain ⟨y, hy⟩ : ∃ y, y = x.ks[j] := ⟨_, rfl⟩
      have hyn : y < n := by rw [hy, HNN.out]; exact HOK.out.2.1 _ (List.getElem_mem _)
      rw [← hy] at f7
      have HY := Lib.hid (show ∃ h : j < x.ks.length, y = x.ks[j] from ⟨hjx, hy⟩)
      have hl : Below w.heap.size w wr := HB2.out.trans (HBR.out.mono HB2.out.size)
      have x6 : wr.cell? ⟨g2, p2 + j, none⟩ = some (.int .i64 y) := (hl.cell (p := ⟨g2, p2 + j, none⟩) f6).trans f7
      have hy0 : ¬ ((y : Int) < 0) := by omega
      have hy1 : ¬ ((n : Int) ≤ (y : Int)) := by omega
      have hy2 : decide ((n : Int) ≤ (y : Int)) = false := by simp; omega
      have hjk : K ≤ kc := by have := HKK.out; omega
      clear f2 f3 f4 f5 f6 f7 hy
      have HEJ := Lib.hid he; have HJX := Lib.hid hjx; have HHL := Lib.hid hl; have HJ := Lib.hid hj
      clear he hl hj
      have HSZ := Lib.hid (show w.heap.size + 2 ≤ wr.heap.size by have := HBR.out.size; have := HSZ2.out; omega)
      by_cases k6 : kd = 6
      · subst k6
        go_wp2
        go_round
        case rel => exact ⟨j + 1, by have := HEJ.out; omega, by go_num, HUU.out.more (.inl rfl) (Below.refl _ _)⟩
        case measure => simp [intOf]; omega
      · have hkey : (kd ≠ 8 ∨ j % 2 = 0) → ∃ g3 p3 ty uy, aa = some ⟨g3, p3, none⟩ ∧ i ≤ ac ∧ y < i ∧ wr.cell? ⟨g3, p3 + y, none⟩ = some (.iface ty uy) ∧ Value.iface ty uy = es.getD y .nilIface := fun hk => by
          obtain ⟨h1, h2⟩ := HY.out
          have hyi : y < i := by rw [h2]; exact HOK.out.key h1 (by rw [← HKD.out]; exact k6) (by rw [← HKD.out]; exact hk)
          have hye : y < es.length := by rw [HES.out]; exact hyi
          obtain ⟨g3, p3, d1, d2, d3, d4, d5, d6⟩ := HAV.out.get y hye
          obtain ⟨ty, uy, hty⟩ := HIF.out es[y] (List.getElem_mem hye)
          refine ⟨g3, p3, ty, uy, d1, by rw [← HES.out]; omega, hyi, ?_, ?_⟩
          · rw [← hty]; exact (HHL.out.cell (p := ⟨g3, p3 + y, none⟩) d5).trans d6
          · rw [← hty]; simp [hye]
        by_cases k8 : kd = 8
        · subst k8
          by_cases hpar : j % 2 = 0
          · have ht : ((j : Int).tmod 2 == 0) = true := by
              rw [Int.tmod_eq_emod_of_nonneg (by omega)]; simp; omega
            have ht2 : ((j : Int) % 2 == 0) = true := by simp; omega
            obtain ⟨g3, p3, ty, uy, rfl, ha, hyi, hc3, hes⟩ := hkey (.inr hpar)
            have l1 : (y : Int) < (i : Int) := by omega
            have l2 : ¬ ((i : Int) ≤ (y : Int)) := by omega
            have l3 : decide ((i : Int) ≤ (y : Int)) = false := by simp; omega
            have HES2 := Lib.hid hes
            clear hpar k6 hkey hes
            go_wp2_with ((with_reducible show wpList _ _ _ _ _ _); refine wpList_append_cell_at rfl (.tmp 57) (.tmp 62) 53 rfl w2.heap.size 59 .nilIface 16 valsUnder valInfo rfl (by decide) u9 xs.length xs rfl (own_below HOWN.out (below_al0 wr _)) (by have := HXL.out; have := HJ.out; omega) (Nat.le_trans HBR.out.size (below_al0 wr _).size) wr.heap.size 1 rfl (.iface ty uy) ((cell_of_row _ _ 0 _ _ (0, 0) (heap_alloc_new wr _)).trans rfl) rfl ?_; intro s' w7 HO7 HG7 HA7)
            go_round
            case rel =>
              obtain ⟨h1, h2⟩ := HY.out
              exact ⟨j + 1, by have := HEJ.out; omega, by go_num, NodUp.push HBR.out HXL.out (below_al0 wr _) (own_below HOWN.out (below_al0 wr _)) HXS.out HO7.out HG7.out h1 (by rw [← h2]; exact HES2.out)⟩
            case measure => simp [intOf]; omega
          · have ht : ((j : Int).tmod 2 == 0) = false := by
              rw [Int.tmod_eq_emod_of_nonneg (by omega)]; simp; omega
            have ht2 : ((j : Int) % 2 == 0) = false := by simp; omega
            clear hpar k6 hkey
            go_wp2
            go_round
            case rel => exact ⟨j + 1, by have := HEJ.out; omega, by go_num, HUU.out.more (.inr rfl) (Below.refl _ _)⟩
            case measure => simp [intOf]; omega
        · have e6 : (kd == 6) = false := by simp [k6]
          have e8 : (kd == 8) = false := by simp [k8]
          have f6 : (kd != 6) = true := by simp [k6]
          have f8 : (kd != 8) = true := by simp [k8]
          obtain ⟨g3, p3, ty, uy, rfl, ha, hyi, hc3, hes⟩ := hkey (.inl k8)
          have l1 : (y : Int) < (i : Int) := by omega
          have l2 : ¬ ((i : Int) ≤ (y : Int)) := by omega
          have l3 : decide ((i : Int) ≤ (y : Int)) = false := by simp; omega
          have HES2 := Lib.hid hes
          clear hkey hes k6 k8
          go_wp2_with ((with_reducible show wpList _ _ _ _ _ _); refine wpList_append_cell_at rfl (.tmp 57) (.tmp 62) 53 rfl w2.heap.size 59 .nilIface 16 valsUnder valInfo rfl (by decide) u9 xs.length xs rfl (own_below HOWN.out (below_al0 wr _)) (by have := HXL.out; have := HJ.out; omega) (Nat.le_trans HBR.out.size (below_al0 wr _).size) wr.heap.size 1 rfl (.iface ty uy) ((cell_of_row _ _ 0 _ _ (0, 0) (heap_alloc_new wr _)).trans rfl) rfl ?_; intro s' w7 HO7 HG7 HA7)
          go_round
          case rel =>
            obtain ⟨h1, h2⟩ := HY.out
            exact ⟨j + 1, by have := HEJ.out; omega, by go_num, NodUp.push HBR.out HXL.out (below_al0 wr _) (own_below HOWN.out (below_al0 wr _)) HXS.out HO7.out HG7.out h1 (by rw [← h2]; exact HES2.out)⟩
          case measure => simp [intOf]; omega
    · have hge : ¬ ((j : Int) < (K : Int)) := by omega
      have hjK : j = K := by omega
      obtain ⟨ua, uc, hu9⟩ := own_shape HOWN.out
      subst hu9
      have hl : Below w.heap.size w wr := HB2.out.trans (HBR.out.mono HB2.out.size)
      have HHL := Lib.hid hl
      have HXX := Lib.hid (show kd ≠ 6 → kd ≠ 8 → xs = x.ks.map (fun k => es.getD k .nilIface) from fun h6 h8 => by rw [HXS.out h6 h8, hjK, HKK.out, List.take_length])
      have HKI := Lib.hid (show ∀ x', N[i]? = some x' → x'.T.kind = kd from fun x' hx' => by
        rw [HGI.out] at hx'
        obtain rfl := Option.some.inj hx'
        exact HKD.out.symm)
      clear hjK hl he hj
      by_cases k6 : kd = 6
      · subst k6
        go_wp2_with fail
        refine (NewList_any none 0 0 wr).mono ?_
        rintro e w3 ⟨rfl, rfl⟩
        go_wp2
        go_ret2
        exact ⟨_, _, rfl, HHL.out.alloc HHL.out.size _, .inl ⟨wr.heap.size, HHL.out.size, ⟨rfl, heap_alloc_new _ _⟩, HKI.out⟩⟩
      · have e6 : (kd == 6) = false := by simp [k6]
        by_cases k8 : kd = 8
        · subst k8
          have hpar : K % 2 = 0 := by
            have h := HOK.out.2.2
            have h2 := HKD.out
            have h3 := HKK.out
            cases hT : x.T <;> rw [hT] at h h2 <;> first | (exfalso; simp [Tr.kind] at h2; done) | skip
            obtain ⟨h, _⟩ := h
            omega
          have ht : ((K : Int).tmod 2 == 0) = true := by
            rw [Int.tmod_eq_emod_of_nonneg (by omega)]; simp; omega
          have ht2 : ((K : Int) % 2 == 0) = true := by simp; omega
          clear hpar k6
          go_wp2
          have z6a := fun X => ((below_al0 wr X).cell (p := ⟨w.heap.size + 1, 5, none⟩) (by have := HBR.out.size; have := HSZ2.out; dsimp only; omega)).trans z6
          go_region_law (fail)
          all_goals (
            go_wp2
            go_ret2
            exact ⟨_, _, rfl, (HHL.out.alloc HHL.out.size _).drew, .inr (.inl ⟨wr.heap.size, HHL.out.size, ⟨rfl, heap_alloc_new wr _⟩, HKI.out⟩)⟩)
        · have e8 : (kd == 8) = false := by simp [k8]
          by_cases k7 : kd = 7
          · subst k7
            go_wp2
            go_ret2
            have hxx := HXX.out (by decide) (by decide)
            exact ⟨_, _, rfl, HHL.out, .inr (.inr ⟨noLD_tup _, fun x' hx' => by rw [HKI.out x' hx']; decide, fun W h1 h2 hG => good_tup_own HNO.out HGI.out HKD.out.symm (by have := HKK.out; omega) HOWN.out hxx (fun k hk => by
              obtain ⟨q, hq, rfl⟩ := List.getElem_of_mem hk
              rw [HES.out]
              exact HOK.out.key hq (by rw [← HKD.out]; decide) (.inl (by rw [← HKD.out]; decide))) h1 (fun b hb hl => h2 b (by have := HSZ2.out; omega) hl) hG⟩)⟩
          · have e7 : (kd == 7) = false := by simp [k7]
            by_cases k9 : kd = 9
            · subst k9
              obtain ⟨l0, hT⟩ : ∃ l, x.T = .set l := by
                have h2 := HKD.out
                cases hT : x.T <;> rw [hT] at h2 <;> first | exact ⟨_, rfl⟩ | (exfalso; simp [Tr.kind] at h2; done)
              have hset := HOK.out.2.2
              rw [hT] at hset
              obtain ⟨ts, hka⟩ := hset
              have hxx := HXX.out (by decide) (by decide)
              have HSET := Lib.hid (set_any (StarAt wr 10) 10 (.slice ua xs.length uc) ts wr (by omega) (by have := hka.len; have := HKK.out; omega) (fun u T h => h)
                (elems_of_keys (rowV_of HOWN.out) hxx HES.out (fun k h => HGD.out k h wr HHL.out) hka)
                (fun t ht => by
                  obtain ⟨q, hq, rfl⟩ := List.getElem_of_mem ht
                  exact (hka.key q (by have := hka.len; omega) hq).2.2) hka.apart (HKT.out.below HHL.out) (HCL.out.below HHL.out))
              clear hka hxx hT
              go_wp2_with fail
              refine HSET.out.mono ?_
              rintro e w3 ⟨b, rfl, hbb, _, hb3⟩
              have HB3 := Lib.hid (HHL.out.trans (hb3.mono HHL.out.size))
              clear hb3 hbb
              go_wp2
              go_ret2
              exact ⟨_, _, rfl, HB3.out, .inr (.inr ⟨noLD_set _, fun x' hx' => by rw [HKI.out x' hx']; decide, fun W h1 h2 hG => good_box HGI.out (by rw [← HKD.out]; decide) (by rw [← HKD.out]; decide) (can_set b W)⟩)⟩
            · have e9 : (kd == 9) = false := by simp [k9]
              have hk6 : x.T.kind < 6 := by have := kind_le x.T; have := HKD.out; omega
              have hva := HVB.out.at_
              rw [withKids_flat hk6] at hva
              have HSC := Lib.hid (show ∀ W, Below wr.heap.size wr W → Calls Tryz.prog 58 #[.int .i64 kd, sixV 0 n1 a1 m1 c1 b1 s1 none 0 0] W (ValIs 1 x.T W) from fun W hb => by
                rw [HKD.out]
                exact scalar_flat 0 n1 a1 m1 c1 b1 s1 x.T W hk6 (hva.below (HHL.out.trans (hb.mono HHL.out.size))))
              have HK6 := Lib.hid hk6
              clear hva hk6 k6 k7 k8 k9
              go_wp2_with fail
              refine (HSC.out wr (Below.refl _ _)).mono ?_
              rintro e w3 ⟨u, rfl, hu, hb3⟩
              obtain ⟨ty, uy, rfl, hno⟩ := hu.self.noLD HK6.out
              have HB3 := Lib.hid (HHL.out.trans (hb3.mono HHL.out.size)); have HU3 := Lib.hid hu; have HNOL := Lib.hid hno
              clear hb3 hu hno
              go_wp2
              go_ret2
              exact ⟨_, _, rfl, HB3.out, .inr (.inr ⟨HNOL.out, fun x' hx' => by rw [HKI.out x' hx']; constructor <;> (intro e; have := HKD.out; have := HK6.out; omega), fun W h1 h2 hG => good_flat HGI.out HK6.out (HU3.out W h1 (fun b hb hl => h2 b (by have := HHL.out.size; omega) hl))⟩)⟩
end Go.Proofs.YtpcleebnfgnhdaaGreatDoor
